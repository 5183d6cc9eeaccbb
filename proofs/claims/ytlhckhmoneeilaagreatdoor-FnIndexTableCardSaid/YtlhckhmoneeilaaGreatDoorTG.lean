/- The law FnIndexTable answers true for every input, and what came in reads behind the call as it read before (Rows.FnIndexTableCardSaid). Conditions: those of the given card alone, which ties the listed package variables to the program. Packed by a program of ours: short names, no remarks. -/
import Derived.Test.YtlhckhmoneeilaaGreatDoorTF
import Derived.LaidMore
import Derived.ProofKit
import Derived.ReadAgain
import Derived.SevenTiedAt
import Derived.Test.YtlhckhmoneeilaaGreatDoorCards
import Derived.Test.YtlhckhmoneeilaaGreatDoorTie
set_option linter.all false
set_option maxHeartbeats 4000000
set_option maxRecDepth 100000
set_option autoImplicit true
open Go renaming Addr→kd,FuncId→fz,Program→bU,TypeId→cK,Value→ay,World→ak,bytes→fA,convert→dq
open Go.Addr renaming add→aw
open Go.Builtin renaming append_→cM
open Go.Instr renaming buildSlice→bw,lookup→dJ,sliceAt→dw
open Go.IntKind renaming i64→af,max→aq8,u32→aL,u64→aj,u8→aG,wrap→aq
open Go.Op renaming bytesLess→ds
open Go.Operand renaming const→bt,tmp→br
open Go.Proofs.Tryz renaming f4→C5,prog→ag
open Go.Sem renaming run_bind→nH
open Go.Value renaming agg→aV,bool→aQ,iface→cG,int→ah,nilIface→aA,pointer→an,slice→aa,string→aC,tuple→aZ
open Go.World renaming setCell→nI
open Int renaming tdiv→gi,toNat_natCast→fH
open List renaming append_assoc→dx,append_nil→iA,count_cons→oW,drop_eq_getElem_cons→gS,drop_left→iz,drop_zero→T2,flatMap_append→jK,flatMap_cons→fG,getElem?_append_left→oT,getElem?_append_right→rE,getElem?_eq_getElem→gH,getElem?_eq_some_iff→oQ,getElem_map→mJ,getElem_mem→iy,length_append→aY,length_cons→dH,length_drop→hY,length_map→fu,length_take→fS,length→fZ,map_append→iE,map_cons→hW,mem_append→mG,mem_cons_of_mem→jI,mem_cons→dX,mem_filter→oN,mem_flatMap→jJ,mem_map→dt,mem_singleton→oO,nil_append→oS,nodup_cons→aq9,pairwise_cons→iF,pairwise_iff_getElem→qt,perm_iff_count→oV,perm_middle→gI,range→lZ,take_append_drop→kC,take_left→E2,take_length→fY,take_of_length_le→lD,take_succ_eq_append_getElem→jm
open List.Perm renaming append_right→vN,swap→d_
open List.Sublist renaming refl→lE
open Nat renaming add_sub_cancel_left→tz,le_refl→bB,le_trans→eX,lt_of_lt_of_le→dR,sub_zero→nJ,zero_le→dO
open Option.some renaming inj→iW
open UInt8 renaming ofNat→gw
namespace Go.Proofs
open Go Go.V
attribute [local irreducible]cI be
section
variable{w0 w w':ak}{ts us:List LT}{b0:Option Nat}{B rest l:Wd}{p po:OA}{cc co pt:Nat}{R g:kd}{v:ay}{S V:List Wd}{m:Wd->Option (List cQ)}{T:List (Wd×Wd×Nat)}
theorem TS.arb{K:ay->ak->Prop}(q:TS w0 us w)(c:∀t w',lK w' t->TS w0 us w'->K (an (some t)) w'):au ag 102 #[] w K:=aF sq (by
 rintro _ w'⟨t,rfl,_,_,h,k⟩;exact c t w' h (q.aH k))
theorem TS.oJ{c:Wd}{off:Nat}{t:kd}{K:ay->ak->Prop}(q:TS w0 us w)(h:Bz w0 b0 (aa p B.length cc) B)(I:lK w t)(hd:B.drop off=dh c++rest)
  (G:∀pv cv w',Bz w0 b0 (aa pv c.length cv) c->TS w0 us w'->K (aV #[aa pv c.length cv,aA]) w'):au ag 106 #[cW (aa p B.length cc),ah af (off:Int),an (some t)] w K:=by
 have u:=h.len;have r:B.drop off=be 4 c.length++(c++(be 4 (cI 0 c)++rest)):=by
  rw[hd,dh];simp only[dx]
 have H:c.length<=B.length:=by
  have:=congrArg fZ r;rw[hY] at this;simp only[aY] at this;omega
 refine aF (CD (h.now q.1) I u r) ?_;rintro _ w' ⟨v,rfl,y,x,k⟩;obtain⟨pv,cv,rfl,_⟩:=aX.ex y;have E:=q.aH k;exact G pv cv w' (Bz.of E.1 y (x.trans h.aN) h.lt (by omega)) E
theorem TS.vH(q:TS w0 us w):TS w0 (aJ ⟨w.heap.size,0,none⟩ [ba,aA]::us) (w.alloc (.cells ⟨[ba,aA]⟩ 182)):=
 q.ob (Ob.new w [ba,aA] 182) (bA _ _) rfl (by simp)
theorem TS.vI{n:Nat}{v:ay}{K:ak->Prop}(x:gj v)(q:TS w0 (aJ ⟨n,0,none⟩ [ba,aA]::us) w)(y:∀w',TS w0 (dF ⟨n,0,none⟩ v::us) w'->K w'):Go.V.wr w (aw ⟨n,0,none⟩ 0) v λ c=>Go.V.wr c (aw ⟨n,0,none⟩ 1) aA λ h=>K h:=by
 obtain⟨r,E⟩:=q.wr 0 (by simp) v;refine⟨⟨x,r⟩, ?_⟩;obtain⟨u,G⟩:=E.wr 1 (by simp) aA;exact⟨⟨trivial,u⟩,y _ G⟩
def jH(g:kd):List ay:=[cG 260 (an (some g))]
theorem VC:gW ag 242 117 jH 1 16 [aA]:=
 ⟨⟨by kernel_rfl,by kernel_rfl,rfl,by decide⟩,λ _=>rfl,λ x u c=>by simp[jH] at c;subst c;rfl⟩
theorem al0(x:kd)(w:ak):(bw 242 1 #[(0,cG 260 (an (some x)))]).run ag w= .ok (aa (some ⟨w.heap.size,0,none⟩) 1 1) (w.alloc (.cells ⟨jH x⟩ 117)):=by kernel_rfl
variable{cv c1 fi fs fD ci ce:kd}{ep:OA}{ec:Nat}
def gu(cv c1 fi fs fD ci ce R:kd)(P:OA)(C:Nat)(c:List kd)(p:OA)(cc:Nat)(ep:OA)(ec:Nat):List LT:=
 [aJ fi [aa P c.length C],aO jH 1 (aa P c.length C) c,aJ fs [ah af (c.length:Int)],aJ cv [aC (bs [])],aJ c1 [an (some R)],aJ fD [aa p 1 cc],aO bx 1 (aa p 1 cc) [([]:Wd)],aJ ci [ah af 0],aJ ce [aa ep 1 ec]]
def JP(w0:ak)(b0:Option Nat)(refs:List Nat)(cv c1 fi fs fD ci ce R:kd)(p:OA)(cc:Nat)(ep:OA)(ec:Nat):Nat->List LT->Prop
 |0,us=>∃P C,us=gu cv c1 fi fs fD ci ce R P C [] p cc ep ec
 |_+1,us=>∃P C g v,Bz w0 b0 v (refs.flatMap (be 4))/\us=iD g v 0::gu cv c1 fi fs fD ci ce R P C [g] p cc ep ec
theorem al1{w:ak}{x:ay}{K:ay->ak->Prop}(h:au ag 89 #[x] w K):eJ ag oI #[x] w K:=⟨89,_,by kernel_rfl,h⟩
theorem al2{w:ak}{x y:ay}{a b c d e f g:OA}{K:ay->ak->Prop}(h:au ag 166 #[x,y,an a,an b,an c,an d,an e,an f,an g] w K):eJ ag (.func (.func 166) #[] #[an a,an b,an c,an d,an e,an f,an g]) #[x,y] w K:=⟨166,_,by kernel_rfl,h⟩
theorem al3{off:Nat}{refs:List Nat}(hR:gd w0 R v B S m pt)(h0:B≠[])(ho:off<9223372036854775808)(iS:refs.length<=1000)(hd:B.drop off=dh (fM refs)++rest)(hJ:JP w0 (aN v) refs cv c1 fi fs fD ci ce R p cc ep ec 0 us)(q:TS w0 (us++ts) w):
  au ag 166 #[aC (bs []),ah aj (off:Int),an (some cv),an (some c1),an (some fi),an (some fs),an (some fD),an (some ci),an (some ce)] w λ r w'=>r=aZ #[aQ false,aA]/\∃u,JP w0 (aN v) refs cv c1 fi fs fD ci ce R p cc ep ec 1 u/\TS w0 (u++ts) w':=by
 obtain⟨P,C,rfl⟩:=hJ;have hb:=hR.bz h0;obtain⟨c,tc,sy,dc,st,pm,ns,po,co,g,h1,h2,h3,h4,h5,h6,h7,h8⟩:=hR.ex;obtain⟨pB,cB,rfl,_⟩:=aX.ex hb.eD;generalize aN (aa pB B.length cB)=b0 at hb⊢;apply ab_;unfold P9;refine ab9 (λ val al4 a b c d e f g w'=>val=bs []/\al4=(off:Int)/\cv=a/\c1=b/\fi=c/\fs=d/\fD=e/\ci=f/\ce=g/\TS w0 (gu cv c1 fi fs fD ci ce R P C [] p cc ep ec++ts) w') (λ _ _ _ _ _ _ _ _ _ _=>0) ⟨rfl,rfl,rfl,rfl,rfl,rfl,rfl,rfl,rfl,q⟩ ?_;rintro _ _ _ _ _ _ _ _ _ w1 ⟨rfl,rfl,rfl,rfl,rfl,rfl,rfl,rfl,rfl,q1⟩;unfold G7;have G:TS w0 (gu cv c1 fi fs fD ci ce R P C [] p cc ep ec++ts) w1.drew:=q1.drew;have av:∀{w:ak} {us},TS w0 us w->aJ cv [aC (bs [])]∈us->at_ w cv (aC (bs [])):=λ q hm=>q.ei hm
 have E:∀{w:ak} {us},TS w0 us w->aJ c1 [an (some R)]∈us->at_ w c1 (an (some R)):=λ q hm=>q.ei hm
 have K:∀{w:ak} {us},TS w0 us w->at_ w R (cW (aa pB B.length cB))/\at_ w (R.add 8) (an (some dc))/\at_ w (dc.add 1) oI:=λ q=>⟨q.1.at hR.eM,q.1.at (h1.at 8 rfl),q.1.at (h8.at 1 rfl)⟩
 refine⟨_,av q1 (by simp[gu]),cJ (by rw[nf];rfl) ⟨_,av q1 (by simp[gu]),cJ (by simp) ⟨_,E G (by simp[gu]),_,(K G).1, ?_⟩⟩⟩;rw[bk (by omega) (by omega)];have fin:∀{w:ak} {d:Nat} {pv:OA} {h:Nat} {N1:ByteArray->Int->kd->kd->kd->kd->kd->kd->kd->ak->Prop},Bz w0 b0 (aa pv (fM refs).length h) (fM refs)->TS w0 (dF ⟨d,0,none⟩ (aa pv (fM refs).length h)::(gu cv c1 fi fs fD ci ce R P C [] p cc ep ec++ts)) w->
   bf (at_ w.drew c1) λ VD=>nn VD λ VE=>bf (at_ w.drew (aw VE 8)) λ VF=>nn VF λ a_2=>aM (at_ w.drew (aw a_2 1)) λ zW=>az (at_ w.drew (aw ⟨d,0,none⟩ 0)) λ sP sL sC=>aM (at_ w.drew (aw ⟨d,0,none⟩ 1)) λ zY=>
    eJ ag zW #[(aV #[(aa sP sL sC),zY])] w.drew λ C_ Z=>nQ C_ λ tk zU vm=>aK Z (aw VE 8) [(an VF)] 0 (aK Z c1 [(an VD)] 0 (aD af (ax tk) λ n=>aM (ax zU) λ v_3=>aM (ax vm) λ VG=>bb ag (C2 .neq 86 (br 42) (bt aA) VG aA) λ e=>aW (ax e) λ b=>aB b (((λ r w'=>r=aZ #[aQ false,aA]/\∃u,JP w0 b0 refs cv c1 fi fs fD ci ce R p cc ep ec 1 u/\TS w0 (u++ts) w'):ay->ak->Prop) (aZ #[(aQ false),VG]) Z) (az (at_ Z fi) λ IM IN C9=>aP ag (bw 242 1 #[(0,v_3)]) Z λ DA w7=>az (ax DA) λ y9 IQ IS=>aP ag (cM #[242,242] 242 #[(aa IM IN C9),(aa y9 IQ IS)]) w7 λ vD w8=>az (ax vD) λ sV IT y_=>
       Go.V.wr w8 fi (aa sV IT y_) λ w9=>sk (λ r w'=>r=aZ #[aQ false,aA]/\∃u,JP w0 b0 refs cv c1 fi fs fD ci ce R p cc ep ec 1 u/\TS w0 (u++ts) w') N1 (bs []) (off:Int) cv c1 fi fs fD ci ce w9))):=by
  intro w d pv h N1 hbb q;have G:=q.drew;generalize w.drew=w at G⊢;have uB:Ob w ⟨d,0,none⟩ [aa pv (fM refs).length h,aA]:=G.get (t:=dF ⟨d,0,none⟩ (aa pv (fM refs).length h)) (by simp);refine⟨_,E G (by simp[gu]),_,(K G).2.1,_,(K G).2.2,_,_,_,uB.at 0 rfl,_,uB.at 1 rfl,al1 (aF (k89 G hbb iS) ?_)⟩;rintro _ Z ⟨g,gv,rfl,hg,q6⟩;refine⟨_,_,_,rfl,(K q6).2.1,E q6 (by simp[gu]),_,rfl,_,rfl,_,rfl,_,λ w=>cE _ w,_,rfl,aT rfl ?_⟩;refine⟨_,_,_,q6.ei (a:=fi) (v:=aa P 0 C) (by simp[gu]), ?_⟩;have q7:=q6.perm (us:=aO jH 1 (aa P 0 C) []::([iD ⟨g,0,none⟩ gv 0,dF ⟨d,0,none⟩ (aa pv (fM refs).length h),aJ fi [aa P 0 C]]++([aJ fs [ah af ((0:Nat):Int)],aJ cv [aC (bs [])],aJ c1 [an (some R)],aJ fD [aa p 1 cc],aO bx 1 (aa p 1 cc) [([]:Wd)],aJ ci [ah af 0],aJ ce [aa ep 1 ec]]++ts))) (gI (l₁:=[iD _ _ _,dF _ _,aJ fi _]));refine q7.kB VC (x:=⟨g,0,none⟩) (al0 _ Z) (by simp) (by simp) (λ J I w8 q8 _=> ?_);obtain⟨g9,q9⟩:=q8.fq (pre:=[aO jH 1 _ _,iD _ _ _,dF _ _]) (a:=fi) (cs:=[aa P 0 C]) 0 (by simp) (aa J 1 I);rw[add_zero] at g9 q9;refine⟨⟨trivial,g9⟩, ?_⟩;generalize w8.setCell fi (aa J (fZ ([]:List kd)+1) I)=w9 at q9⊢;unfold sk;obtain⟨g10,y⟩:=q9.fq (pre:=[aO jH 1 _ _,iD _ _ _,dF _ _,aJ fi _]) (a:=fs) (cs:=[ah af ((0:Nat):Int)]) 0 (by simp) (ah af 1);rw[add_zero] at g10 y;refine⟨_,q9.ei (a:=fs) (v:=ah af ((0:Nat):Int)) (by simp),⟨trivial,g10⟩, ?_⟩;generalize al8:w9.setCell fs _=jg;have y:TS w0 (aO jH 1 (aa J 1 I) [⟨g,0,none⟩]::iD ⟨g,0,none⟩ gv 0::dF ⟨d,0,none⟩ (aa pv (fM refs).length h)::aJ fi [aa J 1 I]::([aJ fs [ah af ((1:Nat):Int)],aJ cv [aC (bs [])],aJ c1 [an (some R)],aJ fD [aa p 1 cc],aO bx 1 (aa p 1 cc) [([]:Wd)],aJ ci [ah af 0],aJ ce [aa ep 1 ec]]++ts)) jg:=by rw[<-al8];exact y
  have W:at_ jg fD (aa p 1 cc):=y.ei (a:=fD) (v:=aa p 1 cc) (by simp);refine⟨_,y.ei (a:=fs) (v:=ah af ((1:Nat):Int)) (by simp),_,_,_,W,cJ rfl ?_⟩;unfold BV;have X:=y.drew;refine⟨_,X.ei (a:=ci) (v:=ah af 0) (by simp),_,_,_,X.ei (a:=ce) (v:=aa ep 1 ec) (by simp),cJ rfl ?_⟩;unfold xL;refine⟨rfl,iD ⟨g,0,none⟩ gv 0::gu cv c1 fi fs fD ci ce R J I [⟨g,0,none⟩] p cc ep ec,⟨J,I,_,_,hg,rfl⟩, ?_⟩;have nu:=X.sub (us:=aO jH 1 (aa J 1 I) [⟨g,0,none⟩]::iD ⟨g,0,none⟩ gv 0::aJ fi [aa J 1 I]::([aJ fs [ah af ((1:Nat):Int)],aJ cv [aC (bs [])],aJ c1 [an (some R)],aJ fD [aa p 1 cc],aO bx 1 (aa p 1 cc) [([]:Wd)],aJ ci [ah af 0],aJ ce [aa ep 1 ec]]++ts)) (.cons_cons _ (.cons_cons _ (.cons _ (lE _))));exact nu.perm (gI (l₁:=[iD _ _ _,aJ fi _])).symm
 refine⟨?_, ?_⟩
 ·refine G.arb (λ t w2 ht N=>⟨_,rfl,(K N).1,E N (by simp[gu]), ?_, ?_⟩)
  ·refine N.oJ hb ht hd (λ pv h w3 jU H=>⟨_,_,_,_,rfl,E H (by simp[gu]), ?_⟩);have Q:=H.vH;refine⟨E Q (by simp[gu]), ?_⟩;exact TS.vI trivial Q (λ w5 q5=>fin jU q5)
  ·have H:=N.vH;refine⟨(K H).1,E H (by simp[gu]), ?_⟩;refine H.oJ hb ((bA _ _).at ht) hd (λ pv h w4 U Q=>⟨_,_,_,_,rfl,E Q (by simp[gu]), ?_⟩);exact TS.vI trivial Q (λ w5 q5=>fin U q5)
 ·have N:=G.vH;refine⟨(K N).1,E N (by simp[gu]), ?_⟩;refine N.arb (λ t w3 ht H=>⟨_,rfl,(K H).1,E H (by simp[gu]), ?_⟩);refine H.oJ hb ht hd (λ pv h w4 U Q=>⟨_,_,_,_,rfl,E Q (by simp[gu]), ?_⟩);exact TS.vI trivial Q (λ w5 q5=>fin U q5)
end
section
variable{w0 w w':ak}{ts us:List LT}{b0:Option Nat}{B rest l:Wd}{p po:OA}{cc co pt:Nat}{R g:kd}{v:ay}{S:List Wd}{m:Wd->Option (List cQ)}{T:List (Wd×Wd×Nat)}
variable{cv c1 fi fs fD ci ce:kd}{ep:OA}{ec:Nat}
theorem al9{w:ak}{x:ay}{a b:OA}{K:ay->ak->Prop}(h:au ag 165 #[x,an a,an b] w K):eJ ag (.func (.func 165) #[] #[an a,an b]) #[x] w K:=⟨165,_,by kernel_rfl,h⟩
theorem al_{y:Nat}(q:TS w0 ts w)(h:aJ ce [aa ep 1 ec]∈ts)(u:aJ cv [aC (bs [])]∈ts)(G:Sl gr 2 w0 (aa ep 1 ec) [(([]:Wd),y)]){k:Nat}(H:k<1):
  au ag 165 #[ah af (k:Int),an (some ce),an (some cv)] w λ r w'=>r=aQ true/\TS w0 ts w':=by
 have x:k=0:=by omega
 subst x;apply ab8;unfold PY;have c:=q.drew;refine⟨_,_,_,c.ei h,Sl.ix (enc:=gr) (z:=2) (l:=[(([]:Wd),y)]) (λ _=>rfl) (by omega) (Sl.aH G c.1) (by omega) (by simp) (λ a _ E=>⟨_,by
  have:=E 0 _ rfl;rwa[add_zero] at this,_,c.ei u, ?_,c⟩)⟩
 have e:ds (bs ([]:Wd)).toList (bs ([]:Wd)).toList=false:=nf _;show aQ (!(ds (bs ([]:Wd)).toList (bs ([]:Wd)).toList))=_;rw[e];rfl
theorem al'{P:OA}{C:Nat}(h:Sl jH 1 w (aa P 1 C) [g]):au ag 144 #[aV #[],aa P 1 C] w λ r w'=>r=cG 260 (an (some g))/\aS w w':=by
 apply ac3;unfold QV;refine vG (λ u c x=> ?_);refine aT rfl (cJ rfl (Sl.ix (enc:=jH) (z:=1) (l:=[g]) (λ _=>rfl) (by omega) (Sl.aH h c) (by omega) (by simp) (λ a _ q=>⟨_,by
  have:=q 0 _ rfl;rwa[add_zero] at this,rfl,c⟩)))
theorem ama{α:Type}(a b c d e f g h i:α):[a,b,c,d,e,f,g,h,i].Perm [d,e,c,b,i,h,f,a,g]:=by
 classical
 rw[oV];intro z;simp only[oW];omega
def KM(w:ak)(c:kd):Nat:=match w.cell? c with|some (ah _ n)=>1-n.toNat|_=>0
theorem VH{c:kd}{k:IntKind}{n:Int}(h:at_ w c (ah k n)):KM w c=1-n.toNat:=by
 have h:w.cell? c=some (ah k n):=h;unfold KM;rw[h]
theorem k98{refs:List Nat}{off:Nat}(hR:gd w0 R v B S m pt)(qg:qh B T pt)(hT:nE T B)(gQ:B.length<=67108864)(y:m []=some [([],iw T 0)])(zG:∃h0:0<T.length,T[0]=([],[],off))(hd:B.drop off=dh (fM refs)++rest)(iS:refs.length<=1000)(ho:off<9223372036854775808)
  (q:TS w0 (aO bx 1 (aa p 1 cc) [([]:Wd)]::ts) w):
  au ag 98 #[an (some R),aV #[],aC (bs []),aa p 1 cc] w λ r w'=>∃g I,r=aZ #[cG 260 (an (some g)),aA]/\Bz w0 (aN v) I (refs.flatMap (be 4))/\TS w0 (iD g I 0::ts) w':=by
 obtain⟨ap_,Z⟩:=zG;have qi:B≠[]:=λ e=>by have:=qg.1;rw[e] at this;simp at this
 obtain⟨c,tc,sy,dc,st,pm,ns,po,co,g,h1,h2,h3,h4,⟨th,tu,zX,nD⟩,_⟩:=id hR.ex;apply c98;unfold PK;refine gf (cs:=[an (some R)]) (by simp) (λ w1 o1 k1 z1=> ?_);have q1:=q.ob o1 k1 rfl (by omega);generalize (⟨w.heap.size,0,none⟩:kd)=c1 at q1⊢;refine vG (λ w2 k2 z2=> ?_);have q2:=q1.aH k2;generalize (⟨w1.heap.size,0,none⟩:kd)=cx;refine gf (cs:=[aa p 1 cc]) (by simp) (λ w3 o3 k3 z3=> ?_);have q3:=q2.ob o3 k3 rfl (by omega);generalize (⟨w2.heap.size,0,none⟩:kd)=fD at q3⊢;have a1:∀{w:ak} {us},TS w0 us w->aJ c1 [an (some R)]∈us->at_ w c1 (an (some R)):=λ q y=>q.ei y
 have X:∀{w:ak} {us},TS w0 us w->aJ fD [aa p 1 cc]∈us->at_ w fD (aa p 1 cc):=λ q y=>q.ei y
 refine⟨_,a1 q3 (by simp),_,q3.1.at (h1.at 9 rfl),aT rfl ⟨_,a1 q3 (by simp),_,q3.1.at (h1.at 3 rfl), ?_⟩⟩;obtain⟨Q,_⟩:=p9 (tu.aH q3.1) [];have hex:∃t,th []=some t:=by
  cases hh:th [] with
  |none=>rw[nD [] hh] at y;cases y
  |some t=>exact⟨t,rfl⟩
 obtain⟨⟨ep,en,ec⟩,het⟩:=hex;obtain⟨le,hle,E⟩:=zX [] _ het;rw[y] at hle;cases hle;have E:Sl gr 2 w0 (aa ep en ec) [(([]:Wd),iw T 0)]:=E;obtain⟨KN,_⟩:=E.len;have KN:en=1:=KN;subst KN;rw[het] at Q;have Q:(dJ 192 (.map (some pm)) (aC (bs [])) true).run ag w3= .ok (aZ #[aa ep 1 ec,aQ true]) w3:=Q;refine⟨_,_,Q,_,_,rfl,_,_,_,rfl,_,rfl, ?_⟩;refine lW (a:=aa ep 1 ec) trivial (λ w4 o4 k4 z4=> ?_);have q4:=q3.ob o4 k4 rfl (by omega);generalize (⟨w3.heap.size,0,none⟩:kd)=ce at q4⊢;refine aT rfl ⟨_,_,_,X q4 (by simp),aT rfl ⟨_,_,_,X q4 (by simp), ?_⟩⟩;have q4:=q4.perm (us:=aO bx 1 (aa p 1 cc) [([]:Wd)]::([aJ ce [aa ep 1 ec],aJ fD [aa p 1 cc],aJ c1 [an (some R)]]++ts)) (gI (l₁:=[_,_,_]));have jS:cP bx 1 w4 (aa p 1 cc) [([]:Wd)]:=q4.get (t:=aO bx 1 (aa p 1 cc) [([]:Wd)]) (by simp);refine aF (JL (l:=[([]:Wd)]) jS (by simp)) ?_;rintro _ w5 ⟨jR,jQ⟩;have es:iu [([]:Wd)]=[[]]:=by simp[iu]
 rw[es] at jR;have q5:=q4.ey (t':=aO bx 1 (aa p 1 cc) [([]:Wd)]) jQ (λ b o hS=>hS) jR (λ b hb=> .inl hb);refine⟨_,_,_,X q5 (by simp), ?_⟩;obtain⟨w6,hr6,iJ,uE⟩:=uX VC.ty w5 1 (by omega) (by omega);refine⟨_,_,hr6,_,_,_,rfl, ?_⟩;have q6:=q5.new (t:=aO jH 1 (aa (some ⟨w5.heap.size,0,none⟩) 0 1) ([]:List kd)) uE iJ (λ b hb=>by
  have gD:some w5.heap.size=some b:=hb;cases gD;exact⟨bB _,iJ.lt rfl⟩)
 generalize (some ⟨w5.heap.size,0,none⟩:OA)=H at q6⊢;refine lW (a:=aa H 0 1) trivial (λ w7 o7 k7 z7=> ?_);have q7:=q6.ob o7 k7 rfl (by omega);generalize (⟨w6.heap.size,0,none⟩:kd)=fi at q7⊢;refine lW (a:=ah af 0) trivial (λ w8 o8 k8 z8=> ?_);have q8:=q7.ob o8 k8 rfl (by omega);generalize (⟨w7.heap.size,0,none⟩:kd)=fs at q8⊢;have q8:TS w0 (aJ fs [ah af ((0:Nat):Int)]::aJ fi [aa H 0 1]::aO jH 1 (aa H 0 1) []::aO bx 1 (aa p 1 cc) [([]:Wd)]::aJ ce [aa ep 1 ec]::aJ fD [aa p 1 cc]::aJ c1 [an (some R)]::ts) w8:=q8;refine abY (λ a b c d e f w'=>c1=a/\fD=c/\ce=d/\fi=e/\fs=f/\TS w0 (aJ fs [ah af ((0:Nat):Int)]::aJ fi [aa H 0 1]::aO jH 1 (aa H 0 1) []::aO bx 1 (aa p 1 cc) [([]:Wd)]::aJ ce [aa ep 1 ec]::aJ fD [aa p 1 cc]::aJ c1 [an (some R)]::ts) w') (λ _ _ _ _ _ _ _=>0) ⟨rfl,rfl,rfl,rfl,rfl,q8⟩ ?_;rintro _ Vw _ _ _ _ w9 ⟨rfl,rfl,rfl,rfl,rfl,q9⟩;have ai:∀{w:ak} {us} {n:Nat},TS w0 us w->aJ fs [ah af (n:Int)]∈us->at_ w fs (ah af (n:Int)):=λ q y=>q.ei y
 have ae:∀{w:ak} {us},TS w0 us w->aJ ce [aa ep 1 ec]∈us->at_ w ce (aa ep 1 ec):=λ q y=>q.ei y
 have aqW:∀{w:ak} {us} {K:kd->Prop},TS w0 us w->aO bx 1 (aa p 1 cc) [([]:Wd)]∈us->(∀a,at_ w a (aC (bs []))->K a)->aU p 1 0 1 K:=λ q y hk=>by
  have ho:cP bx 1 _ (aa p 1 cc) [([]:Wd)]:=q.get y;exact Sl.ix (enc:=bx) (z:=1) (l:=[([]:Wd)]) (λ _=>rfl) (by omega) ho.cV (by omega) (by simp) (λ a _ N=>hk a (by
   have:=N 0 _ rfl;rwa[add_zero] at this))
 have e00:ds (bs ([]:Wd)).toList (bs ([]:Wd)).toList=false:=nf _;unfold G3;have x:=q9.drew;refine⟨_,ai (n:=0) x (by simp),_,_,_,X x (by simp),cJ rfl ⟨_,_,_,X x (by simp),_,ai (n:=0) x (by simp),aqW x (by simp) (λ a N=>⟨_,N,_,_,_,ae x (by simp), ?_⟩)⟩⟩;refine Sl.ix (enc:=gr) (z:=2) (l:=[(([]:Wd),iw T 0)]) (λ _=>rfl) (by omega) (Sl.aH E x.1) (by omega) (by simp) (λ a _ N=>⟨_,by
  have:=N 0 _ rfl;rwa[add_zero] at this,aT e00 ?_⟩)
 unfold BS;generalize w9.drew=jg at x⊢;refine abX (λ a b c d e f w'=>c1=a/\fD=c/\ce=d/\fi=e/\fs=f/\(TS w0 (aJ fs [ah af ((0:Nat):Int)]::aJ fi [aa H 0 1]::aO jH 1 (aa H 0 1) []::aO bx 1 (aa p 1 cc) [([]:Wd)]::aJ ce [aa ep 1 ec]::aJ fD [aa p 1 cc]::aJ c1 [an (some R)]::ts) w'\/∃P C g I cv ci,Bz w0 (aN v) I (refs.flatMap (be 4))/\TS w0 (iD g I 0::gu cv c1 fi fs fD ci ce R P C [g] p cc ep ec++ts) w')) (λ _ _ _ _ _ f w=>KM w f) ⟨rfl,rfl,rfl,rfl,rfl, .inl x⟩ ?_;rintro _ ap' _ _ _ _ gA ⟨rfl,rfl,rfl,rfl,rfl,u|⟨P,C,g,I,cv,ci,hg,u⟩⟩
 ·unfold BR;refine⟨_,ai (n:=0) u (by simp),_,_,_,X u (by simp),cJ rfl ⟨_,_,_,X u (by simp),_,ai (n:=0) u (by simp),aqW u (by simp) (λ a N=>⟨_,N, ?_⟩)⟩⟩;refine lW (a:=aC (bs [])) trivial (λ gn pU iK z12=> ?_);have nu:=u.ob pU iK rfl (by omega);generalize (⟨gA.heap.size,0,none⟩:kd)=cv at nu⊢;refine⟨_,_,_,ae nu (by simp), ?_⟩;refine aF (Vh (n:=1) (pr:=λ _=>true) (by omega) (λ k hk w q=>al9 (al_ q (by simp) (by simp) E hk)) nu) ?_;rintro _ nt ⟨⟨i,rfl,hi,Kw⟩,z_⟩;have sY:i=0:=by
   rcases Nat.eq_zero_or_pos i with h|h
   ·exact h
   ·exact absurd (Kw h) (by simp)
  subst sY;refine⟨_,rfl, ?_⟩;refine lW (a:=ah af ((0:Nat):Int)) trivial (λ oz o14 yT z14=> ?_);have U:=z_.ob o14 yT rfl (by omega);generalize (⟨nt.heap.size,0,none⟩:kd)=ci at U⊢;have KO:∀{w:ak} {us},TS w0 us w->aJ ci [ah af ((0:Nat):Int)]∈us->at_ w ci (ah af ((0:Nat):Int)):=λ q y=>q.ei y
  refine⟨_,KO U (by simp),_,_,_,ae U (by simp),aT rfl ?_⟩;have Aa:=U.drew;refine⟨_,KO Aa (by simp),aT rfl ?_⟩;unfold xG;have G:=Aa.drew;refine⟨_,a1 G (by simp),_,_,_,ae G (by simp),_,KO G (by simp), ?_⟩;refine Sl.ix (enc:=gr) (z:=2) (l:=[(([]:Wd),iw T 0)]) (λ _=>rfl) (by omega) (Sl.aH E G.1) (by omega) (by simp) (λ a _ N=>⟨_,N 1 _ rfl, ?_⟩);have q17:TS w0 (gu cv c1 fi fs fD ci ce R H 1 [] p cc ep ec++ts) oz.drew.drew:=G.perm (by
   unfold gu;exact vN ts (ama (aJ ci _) (aJ cv _) (aJ fs _) (aJ fi _) (aO jH 1 _ _) (aO bx 1 _ _) (aJ ce _) (aJ fD _) (aJ c1 _)))
  refine aF (Vv (J:=JP w0 (aN v) refs cv c1 fi fs fD ci ce R p cc ep ec) (us:=_) (ts:=ts) (i0:=0) (n:=1) (nm:=[]) hR qg hT gQ (by omega) (by omega) (λ k hk=> ?_) (λ k hk us ts w hJ q=> ?_) ⟨H,1,rfl⟩ q17) ?_
  ·have mm:k=0:=by omega
   subst mm;have e:T[0+0]=([],[],off):=Z;rw[e]
  ·have mm:k=0:=by omega
   subst mm;have e:T[0+0]=([],[],off):=Z;rw[e];exact al2 (al3 hR qi ho iS hd hJ q)
  ·rintro _ SN ⟨rfl,us',⟨P,C,g,I,hg,rfl⟩,W⟩;refine⟨_,rfl,W.ei (a:=ci) (v:=ah af ((0:Nat):Int)) (by simp[gu]),W.ei (a:=ce) (v:=aa ep 1 ec) (by simp[gu]),_,λ w=>cE _ w,_,rfl,aT rfl ⟨⟨rfl,rfl,rfl,rfl,rfl, .inr ⟨P,C,g,I,cv,ci,hg,W⟩⟩, ?_⟩⟩;have e1:=VH (W.ei (a:=fs) (v:=ah af ((1:Nat):Int)) (by simp[gu]));have e2:=VH (ai (n:=0) u (by simp));rw[e1,e2];decide
 ·unfold BR;refine⟨_,u.ei (a:=fs) (v:=ah af ((1:Nat):Int)) (by simp[gu]),_,_,_,X u (by simp[gu]),aT rfl ?_⟩;unfold BQ;refine⟨_,_,_,u.ei (a:=fi) (v:=aa P 1 C) (by simp[gu]), ?_⟩;have ho:cP jH 1 gA (aa P 1 C) [g]:=u.get (t:=aO jH 1 (aa P 1 C) [g]) (by simp[gu]);refine aF (al' ho.cV) ?_;rintro _ gn ⟨rfl,iK⟩;refine⟨_,rfl,g,I,rfl,hg,(u.aH iK).sub (.cons_cons _ ?_)⟩;exact List.sublist_append_right _ _
end
section
variable{w0 w w':ak}{ts us:List LT}{b0:Option Nat}{B rest l:Wd}{p po:OA}{cc co pt:Nat}{R g b:kd}{v:ay}{S:List Wd}{m:Wd->Option (List cQ)}{T:List (Wd×Wd×Nat)}
theorem VJ{w:ak}:au ag 251 #[] w λ r w'=>r=aV #[]/\aS w w':=by
 apply acx;exact⟨rfl,bA _ _⟩
theorem VK{i:Nat}(Q:gd w0 R v B S m pt)(U:S.length<=100000)(hi:i<S.length)(q:TS w0 ts w):
  au ag 120 #[an (some R),aV #[],ah aL (i:Int)] w λ r w'=>r=aZ #[aC (bs S[i]),aA]/\TS w0 ts w':=by
 apply ab2;unfold PS;refine vG (λ x X z1=> ?_);have G:=q.aH X;have y:=Q.aH G.1;obtain⟨c,tc,sy,dc,st,pm,I,po,co,g,H,h2,u,J,h5,K,N,h8⟩:=y.ex;refine⟨_,H.at 6 rfl, ?_⟩;have h:=(pg zC oG (z:=aC ⟨#[]⟩) (λ w=>by kernel_rfl) K i).1;cases E:g i with
 |some n=>
  rw[E] at h;obtain⟨hn,W⟩:=N i n E;have h:(dJ 195 (.map (some I)) (ah aL (i:Int)) true).run ag x= .ok (aZ #[aC (bs n),aQ true]) x:=h;refine⟨_,_,h,_,_,rfl,_,rfl,_,rfl,cJ rfl ⟨?_,G⟩⟩;have e:S[i]=n:=by
   subst W;exact List.getElem_idxOf _
  rw[e]
 |none=>
  rw[E] at h;have h:(dJ 195 (.map (some I)) (ah aL (i:Int)) true).run ag x= .ok (aZ #[aC ⟨#[]⟩,aQ false]) x:=h;refine⟨_,_,h,_,_,rfl,_,rfl,_,rfl,aT rfl ⟨_,H.at 5 rfl,_,u.at 0 rfl,_,u.at 1 rfl,_,u.at 2 rfl,_,_,_,u.at 3 rfl,_,u.at 4 rfl, ?_⟩⟩;refine aF (S7 J hi U rfl) ?_;rintro _ w2 ⟨rfl,Z⟩;exact⟨_,_,rfl,_,rfl,_,rfl,rfl,G.aH Z⟩
theorem VL{w:ak}{x y:ay}{K:ay->ak->Prop}(h:au ag 120 #[an (some R),x,y] w K):eJ ag (.func (.func 120) #[an (some R)] #[]) #[x,y] w K:=⟨120,_,by kernel_rfl,h⟩
def gG(b:kd)(v:ay)(l:eh):LT:=
 ⟨λ x=>x=b.block\/aN v=some x,λ w=>SB w b v l (bs []),λ h q r=>⟨h.1.fr q (λ o _ _ c=>r _ o c (.inl rfl)),h.2.1.fr q (λ x u o c=>r x o c (.inr u)),h.2.2⟩⟩
theorem TS.sb{y c:ay}{J u:eh}(q:TS w0 (gG b y J::ts) w)(H:Fr (CJ b y) w w')(h:SB w' b c u (bs []))(G:aN c=aN y\/∃g,aN c=some g/\w.heap.size<=g):TS w0 (gG b c u::ts) w':=by
 refine q.ey (t':=gG b c u) H (λ x o E=> ?_) h (λ x r=> ?_)
 ·rcases E with h|h
  ·exact .inl h.1
  ·exact .inr h
 ·rcases r with r|r
  ·exact .inl (.inl r)
  ·rcases G with e|⟨g,e,I⟩
   ·exact .inl (.inr (by rw[<-e];exact r))
   ·rw[e] at r;cases r;exact .inr ⟨I,h.2.1.lt e⟩
theorem TS.CK{h:ay}{r:eh}(q:TS w0 (gG b h r::ts) w):au ag 211 #[an (some b)] w λ _ w'=>∃c,TS w0 (gG b c []::ts) w':=by
 refine aF (Go.Proofs.CK (q.get (t:=gG b h r) (by simp))) ?_;rintro _ w' ⟨c,u,x,y⟩;exact⟨c,q.sb x u (.inl y)⟩
theorem TS.Im{r:ay}{h:eh}{x:Wd×Wd}(q:TS w0 (gG b r h::ts) w)(G:h.length<=1000):au ag 252 #[an (some b),aC (bs x.1),aC (bs x.2)] w λ _ w'=>∃c,TS w0 (gG b c (h++[x])::ts) w':=by
 refine aF (Go.Proofs.Im (q.get (t:=gG b r h) (by simp)) G) ?_;rintro _ w' ⟨c,u,y,E⟩;exact⟨c,q.sb y u E⟩
end
theorem VM(a b:Int):aq af (aq af a+aq af (b-a))=aq af b:=by
 rw[re,re a,re (b-a),re b];omega
theorem VN{n:Nat}(h:n<18446744073709551616):aq aj (aq af (n:Int))=(n:Int):=by
 rw[re,wrap_u64];omega
section
variable{w0 w w':ak}{ts us:List LT}{b0:Option Nat}{B rest l:Wd}{p po:OA}{cc co pt:Nat}{R g b ch dc d:kd}{v:ay}{S:List Wd}{m:Wd->Option (List cQ)}{T:List (Wd×Wd×Nat)}
def VO(w0:ak)(b0:Option Nat)(ch d:kd)(C:List iq)(ts:List LT)(c:Int)(j:Nat)(t:Int)(w:ak):Prop:=
 ∃v y r,1<=j/\j<=C.length/\c=aq af ((r:Nat):Int)/\ -1152921504606846976<=t/\t<=1152921504606846976/\Bz w0 b0 v (kX t r (C.drop j))/\ju t (C.drop j)/\TS w0 (aO dN 4 y (C.take j)::aJ ch [y]::dF d v::ts) w
theorem amg{K:ay->ak->Prop}{C:List iq}{G t0:Int}(hC:C.length<=10)(h:VO w0 b0 ch d C ts G 1 t0 w)(hK:∀w' y,TS w0 (aO dN 4 y C::aJ ch [y]::ts) w'->K aA w'):
  He K (some ch) d (C.length:Int) t0 G 1 w:=by
 refine acr (λ c' d' k t0 G i w'=>some ch=c'/\d=d'/\k=(C.length:Int)/\∃j:Nat,i=(j:Int)/\VO w0 b0 ch d C ts G j t0 w') (λ _ _ k _ _ i _=>(k-i).toNat) ⟨rfl,rfl,rfl,1,rfl,h⟩ ?_;rintro _ _ _ t G _ w1 ⟨rfl,rfl,rfl,j,rfl,v,y,r,h1,h2,rfl,t1,t2,N,hT,q⟩;unfold Hd;have qD:∀{w:ak} {v y:ay} {l:List iq},TS w0 (aO dN 4 y l::aJ ch [y]::dF d v::ts) w->TS w0 (dF d v::aO dN 4 y l::aJ ch [y]::ts) w:=λ q=>q.perm (gI (l₁:=[_,_]))
 have qE:∀{w:ak} {v y:ay} {l:List iq},TS w0 (dF d v::aO dN 4 y l::aJ ch [y]::ts) w->TS w0 (aO dN 4 y l::aJ ch [y]::dF d v::ts) w:=λ q=>q.perm (gI (l₁:=[_,_])).symm
 refine bn (λ U=> ?_) (λ U=> ?_)
 ·have J:j<C.length:=by simp at U;omega
  rw[gS J] at N hT;obtain⟨c1,c2,c3,c4,c5,c6⟩:=hT;generalize W:C[j]=c at*;obtain⟨H,u,E⟩:=c;dsimp only at c1 c2 c3 c4 c5 c6;have N:Bz w0 b0 v (bm (u-t).toNat++(bm (E-u).toNat++(bm (eO (aq af ((H:Int)-r)))++kX E H (C.drop (j+1))))):=N;have JZ:=re ((H:Int)-r);refine aF ((qD q).mh N (by omega)) ?_;rintro _ w2 ⟨v2,X,q2,rfl⟩;refine⟨_,rfl,aF (q2.mh X (by omega)) ?_⟩;rintro _ w3 ⟨v3,Z,q3,rfl⟩;refine⟨_,rfl,aF (q3.Cz Z (by omega) (by omega)) ?_⟩;rintro _ w4 ⟨v4,Q,q4,rfl⟩;refine⟨_,rfl,aF (q4.fU Q) ?_⟩;rintro _ w4 ⟨rfl,rfl⟩;refine⟨_,rfl,_,λ w=>cE _ w,_,rfl,aT rfl ?_⟩;have q5:=qE q4;have ho:cP dN 4 w4 y (C.take j):=q5.get (t:=aO dN 4 y (C.take j)) (by simp);obtain⟨yp,yc,rfl,_⟩:=aX.ex ho.cV;have T7:(C.take j).length=j:=by rw[fS];omega
  refine⟨_,_,_,q5.ei (a:=ch) (v:=aa yp (C.take j).length yc) (by simp), ?_⟩;have e1:aq af ((aq af (((u-t).toNat:Nat):Int))+t)=u:=by
   rw[bk (x:=(((u-t).toNat:Nat):Int)) (by omega) (by omega),bk (by omega) (by omega)];omega
  have e2:aq af ((aq af (((E-u).toNat:Nat):Int))+u)=E:=by
   rw[bk (x:=(((E-u).toNat:Nat):Int)) (by omega) (by omega),bk (by omega) (by omega)];omega
  have e3:aq aj (aq af (aq af ((r:Nat):Int)+aq af ((H:Int)-r)))=(H:Int):=by
   rw[VM,VN c5]
  dsimp only;rw[e1,e2,e3];refine q5.kB Kl (x:=(H,u,E)) (Km (H,u,E) w4) (by omega) (by omega) (λ p6 I w6 q6 _=> ?_);obtain⟨g1,q7⟩:=q6.fq (pre:=[aO dN 4 _ _]) (a:=ch) (cs:=[_]) 0 (by simp) (aa p6 ((C.take j).length+1) I);rw[add_zero] at g1 q7;refine⟨⟨trivial,g1⟩, ?_⟩;rw[show aq af ((j:Int)+1)=((j+1:Nat):Int) by rw[bk (by omega) (by omega)];omega];refine⟨⟨rfl,rfl,rfl,j+1,rfl,v4,aa p6 ((C.take j).length+1) I,H,by omega,by omega, ?_,by omega,by omega,Q,c6, ?_⟩,by omega⟩
  ·rw[VM]
  ·have e:C.take j++[(H,u,E)]=C.take (j+1):=by rw[jm J,W]
   rw[e] at q7;exact q7
 ·have he:j=C.length:=by simp at U;omega
  subst he;refine aF ((qD q).fU N) ?_;rintro _ w1 ⟨rfl,rfl⟩;rw[fY] at q;exact⟨_,rfl,hK _ _ (q.sub (.cons_cons _ (.cons_cons _ (.cons _ (lE _)))))⟩
theorem amh{x:bI}{bv:ay}{lb:eh}(hR:gd w0 R v B S m pt)(hS:S.length<=100000)(K:at_ w0 dc (.func (.func 120) #[an (some R)] #[]))(hx:x.labels.length<=10)(mr:∀y∈x.labels,y.1∈S/\y.2∈S)(Cp:x.chunks.length<=10/\ju (-2305843009213693952) x.chunks)
  (hz:Bz w0 b0 (aa p (cA S x).length cc) (cA S x))(q:TS w0 (gG b bv lb::aJ ch [ba]::ts) w):
  au ag 212 #[an (some dc),aa p (cA S x).length cc,an (some b),an (some ch)] w λ r w'=>r=aA/\∃bv' y,TS w0 (gG b bv' x.labels::aJ ch [y]::aO dN 4 y x.chunks::ts) w':=by
 obtain⟨fj,kL⟩:=Cp;apply acu;unfold v212;refine aF q.CK ?_;rintro _ w1 ⟨VQ,q1⟩;refine⟨_,λ w=>by kernel_rfl,_,rfl,cJ rfl ?_⟩;have VR:∀{w:ak} {us} {y:ay},TS w0 us w->aJ ch [y]∈us->at_ w ch y:=λ q hm=>q.ei hm
 refine⟨_,_,_,VR (y:=ba) q1 (by simp),_,λ w=>gV (e:=133) (by kernel_rfl) (z:=4) (by kernel_rfl) none 0 0 0 0 (bB _) (bB _) none _ (.inl ⟨rfl,rfl⟩) (.inr ⟨_,rfl⟩) w,_,_,_,rfl, ?_⟩;obtain⟨g2,q2⟩:=q1.fq (pre:=[gG _ _ _]) (a:=ch) (cs:=[ba]) 0 (by simp) ba;rw[add_zero] at g2 q2;refine⟨⟨trivial,g2⟩, ?_⟩;generalize DV:w1.setCell ch _=w2;have q2:TS w0 (gG b VQ []::aJ ch [ba]::ts) w2:=by rw[<-DV];exact q2
 unfold B8;refine Kp q2 trivial (λ w3 q3=> ?_);generalize (⟨w2.heap.size,0,none⟩:kd)=d at q3⊢;generalize (aa p (cA S x).length cc)=sv at hz q3;unfold cA at hz;refine aF (q3.kI hz (by omega)) ?_;rintro _ w4 ⟨v4,Ke,q4,rfl⟩;refine⟨_,rfl, ?_⟩;refine acs (λ a b' c' d' k i w'=>dc=a/\some b=b'/\some ch=c'/\d=d'/\k=(x.labels.length:Int)/\∃(j:Nat) (v bv:ay),i=(j:Int)/\j<=x.labels.length/\Bz w0 b0 v (fy S (x.labels.drop j)++(bm x.chunks.length++lP x.chunks))/\TS w0 (dF d v::gG b bv (x.labels.take j)::aJ ch [ba]::ts) w') (λ _ _ _ _ k i _=>(k-i).toNat) ⟨rfl,rfl,rfl,rfl,rfl,0,v4,VQ,rfl,dO _,Ke,q4⟩ ?_;rintro _ _ _ _ _ _ w5 ⟨rfl,rfl,rfl,rfl,rfl,j,v5,I,rfl,hj,E,q5⟩;unfold Hf;refine bn (λ hc=> ?_) (λ hc=> ?_)
 ·have Z:j<x.labels.length:=by simp at hc;omega
  have X:=mr _ (iy Z);have vn:=oH X.1;have UH:=oH X.2;have E:Bz w0 b0 v5 (bm (bo S (x.labels[j]).1)++(bm (bo S (x.labels[j]).2)++(fy S (x.labels.drop (j+1))++(bm x.chunks.length++lP x.chunks)))):=by
   rw[gS Z] at E;unfold fy at E⊢;rw[fG] at E;simpa only[dx] using E
  refine aF (q5.kI E (by omega)) ?_;rintro _ w6 ⟨v6,G,q6,rfl⟩;refine⟨_,rfl,aF (q6.kI G (by omega)) ?_⟩;rintro _ w7 ⟨v7,N,q7,rfl⟩;refine⟨_,rfl,aF (q7.fU N) ?_⟩;rintro _ w7 ⟨rfl,rfl⟩;refine⟨_,rfl,_,λ w=>cE _ w,_,rfl,aT rfl ?_⟩;have q8:=q7.drew;refine⟨_,q8.1.at K,aF VJ ?_⟩;rintro _ w9 ⟨rfl,k9⟩;have q9:=q8.aH k9;rw[iY (by omega) (by omega)];refine⟨rfl,q9.1.at K,VL (aF (VK hR hS vn q9) ?_)⟩;rintro _ jg ⟨rfl,Jd⟩;refine⟨_,_,rfl,_,rfl,_,rfl,_,λ w=>cE _ w,_,rfl,aT rfl ?_⟩;have U:=Jd.drew;refine⟨_,U.1.at K,aF VJ ?_⟩;rintro _ gn ⟨rfl,iK⟩;have H:=U.aH iK;rw[iY (by omega) (by omega)];refine⟨rfl,H.1.at K,VL (aF (VK hR hS UH H) ?_)⟩;rintro _ nt ⟨rfl,z_⟩;refine⟨_,_,rfl,_,rfl,_,rfl,_,λ w=>cE _ w,_,rfl,aT rfl ?_⟩;have e1:S[bo S (x.labels[j]).1]=(x.labels[j]).1:=List.getElem_idxOf _;have e2:S[bo S (x.labels[j]).2]=(x.labels[j]).2:=List.getElem_idxOf _;rw[e1,e2];have nr:=z_.perm (d_ _ _ _);refine aF (nr.Im (x:=x.labels[j]) (by rw[fS];omega)) ?_;rintro _ zd ⟨amj,Aa⟩;rw[<-jm Z] at Aa;rw[show aq af ((j:Int)+1)=((j+1:Nat):Int) by rw[bk (by omega) (by omega)];omega];exact⟨⟨rfl,rfl,rfl,rfl,rfl,j+1,v7,amj,rfl,by omega,N,Aa.perm (d_ _ _ _)⟩,by omega⟩
 ·have he:j=x.labels.length:=by simp at hc;omega
  subst he;rw[fY] at q5;rw[List.drop_length] at E;have E:Bz w0 b0 v5 (bm x.chunks.length++lP x.chunks):=E;refine⟨_,λ w=>by kernel_rfl,_,rfl,aT rfl (aF (q5.kI E (by omega)) ?_)⟩;rintro _ w6 ⟨v6,G,q6,rfl⟩;refine⟨_,rfl, ?_⟩;cases Et:x.chunks with
  |nil=>
   refine cJ rfl (aF (q6.fU G) ?_);rintro _ w6 ⟨rfl,rfl⟩;refine⟨_,rfl,rfl,I,ba, ?_⟩;have q7:=q6.tail.new (t:=aO dN 4 ba ([]:List iq)) (Fr.refl _ _) (Own.nil _ _) (λ b hb=>by cases hb);exact q7.perm (gI (l₁:=[_,_])).symm
  |cons c cs=>
   rw[Et] at G fj kL;obtain⟨W,u,h⟩:=c;obtain⟨d1,d2,d3,d4,d5,d6⟩:=kL;dsimp only at d1 d2 d3 d4 d5 d6;have G:Bz w0 b0 v6 (bm (eO u)++(bm (h-u).toNat++(bm W++kX h W cs))):=G;refine aT (by rw[beq_eq_false_iff_ne,dH];omega) (aF (q6.Cz G (by omega) (by omega)) ?_);rintro _ w7 ⟨v7,N,q7,rfl⟩;refine⟨_,rfl,aF (q7.mh N (by omega)) ?_⟩;rintro _ w8 ⟨v8,IZ,q8,rfl⟩;refine⟨_,rfl,aF (q8.mh IZ (by omega)) ?_⟩;rintro _ w9 ⟨v9,hv9,q9,rfl⟩;refine⟨_,rfl,_,_,_,VR (y:=ba) q9 (by simp), ?_⟩;have e2:aq af ((aq af (((h-u).toNat:Nat):Int))+u)=h:=by
    rw[bk (x:=(((h-u).toNat:Nat):Int)) (by omega) (by omega),bk (by omega) (by omega)];omega
   dsimp only;rw[e2,VN d5];have Jd:=q9.new (t:=aO dN 4 ba ([]:List iq)) (Fr.refl _ _) (Own.nil _ _) (λ b hb=>by cases hb);refine Jd.kB Kl (x:=(W,u,h)) (Km (W,u,h) w9) (by simp) (by simp) (λ Q J gA U _=> ?_);obtain⟨g12,H⟩:=U.fq (pre:=[aO dN 4 _ _,dF _ _,gG _ _ _]) (a:=ch) (cs:=[ba]) 0 (by simp) (aa Q 1 J);rw[add_zero] at g12 H;refine⟨⟨trivial,g12⟩, ?_⟩;generalize aml:gA.setCell ch _=gn;have H:TS w0 (aO dN 4 (aa Q 1 J) [(W,u,h)]::dF d v9::gG b I x.labels::aJ ch [aa Q 1 J]::ts) gn:=by rw[<-aml];exact H
   refine amg (C:=(W,u,h)::cs) (ts:=gG b I x.labels::ts) fj ⟨v9,aa Q 1 J,W,bB _,by simp,rfl,by omega,by omega,hv9,d6, ?_⟩ (λ w' y q'=>⟨rfl,I,y, ?_⟩)
   ·exact H.perm ((gI (l₁:=[dF d v9,gG b I x.labels])).cons _)
   ·exact q'.perm (vN ts (List.reverse_perm [gG b I x.labels,aJ ch [y],aO dN 4 y ((W,u,h)::cs)]))
end
section
variable{w0 w w':ak}{ts us:List LT}{b0:Option Nat}{B rest l:Wd}{p po:OA}{cc co pt:Nat}{R g b ch dc d:kd}{v:ay}{S:List Wd}{m:Wd->Option (List cQ)}{T:List (Wd×Wd×Nat)}
theorem TS.KP{c:Wd}{off:Nat}{t:kd}{K:ay->ak->Prop}(q:TS w0 us w)(h:Bz w0 b0 (aa p B.length cc) B)(N:lK w t)(u:0<c.length)(hd:B.drop off=fk c++rest)
  (I:∀pv x w',Bz w0 b0 (aa pv c.length x) c->TS w0 us w'->K (aV #[aa pv c.length x,aA]) w'):au ag 114 #[cW (aa p B.length cc),ah af (off:Int),an (some t)] w K:=by
 have y:=h.len;have r:B.drop off=bm c.length++(c++(be 4 (cI 0 c)++rest)):=by
  rw[hd,fk];simp only[dx]
 have J:c.length<=B.length:=by
  have:=congrArg fZ r;rw[hY] at this;simp only[aY] at this;omega
 refine aF (adN iO (h.now q.1) N y u r) ?_;rintro _ w' ⟨v,rfl,G,E,k⟩;obtain⟨pv,x,rfl,_⟩:=aX.ex G;have H:=q.aH k;exact I pv x w' (Bz.of H.1 G (E.trans h.aN) h.lt (by omega)) H
structure KQ(S:List Wd)(x:bI):Prop where
 fQ:0<x.labels.length/\x.labels.length<=10
 short:ia x.labels
 sym:∀y∈x.labels,y.1∈S/\y.2∈S
 gk:x.chunks.length<=10/\ju (-2305843009213693952) x.chunks
theorem amm{x:bI}{ref:Nat}{bv:ay}{lb:eh}(U:gd w0 R v B S m pt)(qi:B≠[])(hS:S.length<=100000)(hx:KQ S x)(hr:ref<4294967296)(hd:B.drop (16*ref)=fk (cA S x)++rest)(q:TS w0 (gG b bv lb::aJ ch [ba]::ts) w):
  au ag 167 #[an (some R),ah aj (ref:Int),an (some b),an (some ch)] w λ r w'=>r=aA/\∃h y,TS w0 (gG b h x.labels::aJ ch [y]::aO dN 4 y x.chunks::ts) w':=by
 have W:=U.bz qi;obtain⟨c,tc,sy,dc,st,pm,ns,po,co,g,h1,h2,h3,h4,h5,h6,h7,h8⟩:=id U.ex;obtain⟨pB,cB,rfl,_⟩:=aX.ex W.eD;generalize aN (aa pB B.length cB)=b0 at W;have E:0<(cA S x).length:=by
  unfold cA;rw[aY];have:=jB x.labels.length;omega
 apply ab';unfold v167;have G:∀{w:ak} {us},TS w0 us w->at_ w R (cW (aa pB B.length cB))/\at_ w (R.add 9) (ah af 2)/\at_ w (R.add 7) (an st)/\at_ w (R.add 8) (an (some dc)):=λ q=>⟨q.1.at U.eM,q.1.at U.at9,q.1.at (h1.at 7 rfl),q.1.at (h1.at 8 rfl)⟩
 refine⟨_,(G q).2.1,cJ rfl ?_⟩;rw[show aq aj ((ref:Int)*16)=((16*ref:Nat):Int) by rw[dV (by omega) (by omega)];omega];unfold BW;have qd:=q.drew;refine⟨_,(G qd).1, ?_⟩;rw[bk (by omega) (by omega)];have fin:∀{w:ak} {d:Nat} {pv:OA} {u:Nat},Bz w0 b0 (aa pv (cA S x).length u) (cA S x)->TS w0 (dF ⟨d,0,none⟩ (aa pv (cA S x).length u)::gG b bv lb::aJ ch [ba]::ts) w->
   au ag 105 #[(an (some ⟨d,0,none⟩))] w λ tk w6=>aM (ax tk) λ zW=>bb ag (C2 .neq 86 (br 42) (bt aA) zW aA) λ e=>aW (ax e) λ b_=>aB b_
    (au ag 105 #[(an (some ⟨d,0,none⟩))] w6 λ zU w7=>aM (ax zU) λ zY=>((λ r w'=>r=aA/\∃h y,TS w0 (gG b h x.labels::aJ ch [y]::aO dN 4 y x.chunks::ts) w'):ay->ak->Prop) zY w7)
    (bf (at_ w6 (aw R 7)) λ p_1=>au ag 210 #[(an (some b)),(an p_1)] w6 λ vm w8=>au ag 211 #[(an (some b))] w8 λ DA w9=>bf (at_ w9.drew (aw R 8)) λ X=>
     au ag 115 #[(an (some ⟨d,0,none⟩))] w9.drew λ vD jg=>az (ax vD) λ sP sL sC=>aK jg (aw R 8) [(an X)] 0 (au ag 212 #[(an X),(aa sP sL sC),(an (some b)),(an (some ch))] jg λ zB K=>aM (ax zB) λ v_3=>bb ag (C2 .neq 86 (br 61) (bt aA) v_3 aA) λ e_1=>aW (ax e_1) λ b_1=>aB b_1 (((λ r w'=>r=aA/\∃h y,TS w0 (gG b h x.labels::aJ ch [y]::aO dN 4 y x.chunks::ts) w'):ay->ak->Prop) v_3 K) (((λ r w'=>r=aA/\∃h y,TS w0 (gG b h x.labels::aJ ch [y]::aO dN 4 y x.chunks::ts) w'):ay->ak->Prop) aA K))):=by
  intro w d pv u hz q;refine aF (q.fU hz) ?_;rintro _ w6 ⟨rfl,rfl⟩;refine⟨_,rfl,_,λ w=>cE _ w,_,rfl,aT rfl ⟨_,(G q).2.2.1,aF aev ?_⟩⟩;rintro _ w7 e;subst e;have qs:=q.perm (d_ _ _ _);refine aF qs.CK ?_;rintro _ w9 ⟨bv9,q9⟩;have H:=(q9.perm (d_ _ _ _)).drew;refine⟨_,(G H).2.2.2,aF (H.Cx hz) ?_⟩;rintro _ K ⟨rfl,rfl⟩;refine⟨_,_,_,rfl,(G H).2.2.2, ?_⟩;refine aF (amh (dc:=dc) (x:=x) U hS (by
   have:=h8.at 0 rfl;rwa[add_zero] at this) hx.fQ.2 hx.sym hx.gk hz H.tail) ?_
  rintro _ gn⟨rfl,Q,y,nu⟩;exact⟨_,rfl,_,λ w=>cE _ w,_,rfl,aT rfl ⟨rfl,Q,y,nu⟩⟩
 refine⟨?_, ?_⟩
 ·refine qd.arb (λ t w2 ht N=>⟨_,rfl,(G N).1, ?_, ?_⟩)
  ·refine N.KP W ht E hd (λ pv u w3 jU J=>⟨_,_,_,_,rfl, ?_⟩);have Z:=J.vH;exact TS.vI trivial Z (λ w5 q5=>fin jU q5)
  ·have J:=N.vH;refine⟨(G J).1, ?_⟩;refine J.KP W ((bA _ _).at ht) E hd (λ pv u w4 I Z=>⟨_,_,_,_,rfl, ?_⟩);exact TS.vI trivial Z (λ w5 q5=>fin I q5)
 ·have N:=qd.vH;refine⟨(G N).1, ?_⟩;refine N.arb (λ t w3 ht J=>⟨_,rfl,(G J).1, ?_⟩);refine J.KP W ht E hd (λ pv u w4 I Z=>⟨_,_,_,_,rfl, ?_⟩);exact TS.vI trivial Z (λ w5 q5=>fin I q5)
end
section
variable{w0 w w':ak}{ts us:List LT}{b0:Option Nat}{B rest l:Wd}{p po:OA}{cc co pt:Nat}{R g b ch dc d:kd}{v:ay}{S:List Wd}{m:Wd->Option (List cQ)}{T:List (Wd×Wd×Nat)}
def KR(B:Nat->Prop):LT:=⟨B,λ _=>True,λ _ _ _=>trivial⟩
theorem amr:gW ag 45 94 ff 3 24 [ah aj 0,ah af 0,ah af 0]:=
 ⟨⟨by kernel_rfl,by kernel_rfl,rfl,by decide⟩,λ _=>rfl,λ x u c=>by simp[ff] at c;rcases c with rfl|rfl|rfl<;>rfl⟩
theorem ams(x:iq)(w:ak):(bw 45 1 #[(0,aV #[ah aj (x.1:Int),ah af x.2.1,ah af x.2.2])]).run ag w= .ok (aa (some ⟨w.heap.size,0,none⟩) 1 1) (w.alloc (.cells ⟨ff x⟩ 94)):=by kernel_rfl
theorem k99{x:bI}{ref:Nat}(hR:gd w0 R v B S m pt)(qi:B≠[])(hS:S.length<=100000)(hx:KQ S x)(hr:ref<4294967296)(hd:B.drop (16*ref)=fk (cA S x)++rest)(hle:(bh x.labels).length<=1073741824)(q:TS w0 ts w):
  au ag 99 #[an (some R),ah aj (ref:Int)] w λ r w'=>∃lv cv,r=aZ #[aV #[ah aj (ref:Int),lv,cv],aQ true]/\TS w0 (aO db 2 lv x.labels::aO ff 3 cv x.chunks::ts) w':=by
 obtain⟨zL,sD,hx3,zR⟩:=id hx;have jW:=zR.1;apply c99;unfold PN;refine gf (cs:=[ah aj 0,ba,ba]) (by simp) (λ w1 o1 k1 z1=> ?_);have q1:=q.ob o1 k1 rfl (by omega);generalize (⟨w.heap.size,0,none⟩:kd)=t4 at q1⊢;refine gf (cs:=[ba,aC (bs []),ba]) (by simp) (λ w2 o2 k2 z2=> ?_);have o2':Ob w2 ⟨w1.heap.size,0,none⟩ [ba,aC (bs [])]:=⟨o2.1,λ i u hi=>o2.2 i u (by
  rcases i with _|_|i
  ·exact hi
  ·exact hi
  ·cases hi)⟩
 have q2:=q1.new (t:=gG ⟨w1.heap.size,0,none⟩ ba []) k2 ⟨o2',Own.nil _ _,λ e=>by cases e⟩ (λ b K=>by
  rcases K with e|e
  ·have e':b=w1.heap.size:=e;omega
  ·cases e)
 generalize (⟨w1.heap.size,0,none⟩:kd)=sb at q2⊢;refine gf (cs:=[ba]) (by simp) (λ w3 o3 k3 z3=> ?_);have q3:=q2.ob o3 k3 rfl (by omega);generalize (⟨w2.heap.size,0,none⟩:kd)=ch at q3⊢;refine aF (amm (x:=x) (ref:=ref) hR qi hS hx hr hd (q3.perm (d_ _ _ _))) ?_;rintro _ w4 ⟨rfl,bv,y,q4⟩;refine⟨_,rfl,_,λ w=>cE _ w,_,rfl,aT rfl ?_⟩;refine aF (aex (q4.get (t:=gG sb bv x.labels) (by simp)) sD zL.1 hle) ?_;rintro _ w5 ⟨rfl,f5⟩;have q5:=(q4.ey (t':=KR (gG sb bv x.labels).B) f5 (λ x o hS=>by
  rcases hS with h|h
  ·exact .inl h.1
  ·exact .inr h) trivial (λ b K=> .inl K)).tail
 refine⟨_,rfl, ?_⟩;refine aF (aes sD (by omega) hle) ?_;rintro lv w6 ⟨o6,k6,b6⟩;obtain⟨lp,G,rfl,_⟩:=aX.ex o6.cV;have q6:=q5.new (t:=aO db 2 (aa lp x.labels.length G) x.labels) k6 o6 (λ b K=>⟨b6 b K,o6.lt K⟩);refine⟨_,_,_,rfl, ?_⟩;refine vA (a:=ah aj (ref:Int)) (b:=aa lp x.labels.length G) (c:=ba) trivial trivial trivial (λ w7 o7 k7 z7=> ?_);have q7:=q6.ob o7 k7 rfl (by omega);generalize (⟨w6.heap.size,0,none⟩:kd)=out at q7⊢;have pw:cP dN 4 w7 y x.chunks:=q7.get (t:=aO dN 4 y x.chunks) (by simp);obtain⟨Q,N,rfl,_⟩:=aX.ex pw.cV;refine⟨_,_,_,q7.ei (a:=ch) (v:=aa Q x.chunks.length N) (by simp), ?_⟩;have q8:=q7.new (t:=aO ff 3 ba ([]:List iq)) (Fr.refl _ _) (Own.nil _ _) (λ b K=>by cases K);refine ab0 (λ a b P n C len i w'=>t4=a/\out=b/\Q=P/\n=x.chunks.length/\N=C/\len=(x.chunks.length:Int)/\∃(j:Nat) (z:ay),i=(j:Int)/\j<=x.chunks.length/\TS w0 (aO ff 3 z (x.chunks.take j)::aJ out [ah aj (ref:Int),aa lp x.labels.length G,z]::aO db 2 (aa lp x.labels.length G) x.labels::aJ ch [aa Q x.chunks.length N]::aO dN 4 (aa Q x.chunks.length N) x.chunks::aJ t4 [ah aj 0,ba,ba]::ts) w') (λ _ _ _ _ _ k i _=>(k-i).toNat) ⟨rfl,rfl,rfl,rfl,rfl,rfl,0,ba,rfl,dO _,q8⟩ ?_;rintro _ _ _ _ _ _ _ w9 ⟨rfl,rfl,rfl,rfl,rfl,rfl,j,z,rfl,hj,Z⟩;unfold G4;refine bn (λ hc=> ?_) (λ hc=> ?_)
 ·have gU:j<x.chunks.length:=by simp at hc;omega
  have Dc:cP dN 4 w9 (aa Q x.chunks.length N) x.chunks:=Z.get (t:=aO dN 4 (aa Q x.chunks.length N) x.chunks) (by simp);refine Sl.ix (enc:=dN) (z:=4) (l:=x.chunks) (λ _=>rfl) (by omega) Dc.cV (by omega) (by omega) (λ a _ ha=>⟨_,ha 0 _ rfl,_,ha 1 _ rfl,_,ha 2 _ rfl,_,ha 3 _ rfl, ?_⟩);have e:x.chunks[((j:Nat):Int).toNat]'(by simp;omega)=x.chunks[j]:=by congr 1
  rw[e];generalize hcj:x.chunks[j]=cj;refine Ds (a:=ah aj (cj.1:Int)) (b:=aA) (c:=ah af cj.2.1) (d:=ah af cj.2.2) trivial trivial trivial trivial (λ jg W dj z10=> ?_);have H:=Z.aH dj;have r0:=W.at 0 rfl;rw[add_zero] at r0;have U:cP ff 3 jg z (x.chunks.take j):=H.get (t:=aO ff 3 z (x.chunks.take j)) (by simp);obtain⟨J,I,rfl,_⟩:=aX.ex U.cV;refine⟨_,_,_,H.at (a:=out) (cs:=[ah aj (ref:Int),aa lp x.labels.length G,aa J (x.chunks.take j).length I]) (by simp) 2 rfl,_,r0,_,W.at 2 rfl,_,W.at 3 rfl, ?_⟩;have T7:(x.chunks.take j).length=j:=by rw[fS];omega
  refine H.kB amr (x:=cj) (ams cj jg) (by omega) (by omega) (λ VS o_ gA X _=> ?_);obtain⟨g12,E⟩:=X.fq (pre:=[aO ff 3 _ _]) (a:=out) 2 (by simp) (aa VS ((x.chunks.take j).length+1) o_);refine⟨⟨trivial,g12⟩, ?_⟩;rw[show aq af ((j:Int)+1)=((j+1:Nat):Int) by rw[bk (by omega) (by omega)];omega];refine⟨⟨rfl,rfl,rfl,rfl,rfl,rfl,j+1,aa VS ((x.chunks.take j).length+1) o_,rfl,by omega, ?_⟩,by omega⟩;rw[<-hcj,<-jm gU] at E;exact E
 ·have he:j=x.chunks.length:=by simp at hc;omega
  subst he;rw[fY] at Z;have U:cP ff 3 w9 z x.chunks:=Z.get (t:=aO ff 3 z x.chunks) (by simp);obtain⟨J,I,rfl,_⟩:=aX.ex U.cV;have ao:∀{w':ak} {us},TS w0 us w'->aJ out [ah aj (ref:Int),aa lp x.labels.length G,aa J x.chunks.length I]∈us->at_ w' (out.add 0) (ah aj (ref:Int))/\at_ w' (out.add 1) (aa lp x.labels.length G)/\at_ w' (out.add 2) (aa J x.chunks.length I):=λ q hm=>⟨q.at hm 0 rfl,q.at hm 1 rfl,q.at hm 2 rfl⟩
  obtain⟨a0,a1,a2⟩:=ao Z (by simp);refine⟨_,a0,_,_,_,a1,_,_,_,a2, ?_⟩;obtain⟨g1,H⟩:=Z.fq (pre:=[aO ff 3 _ _,aJ out _,aO db 2 _ _,aJ ch _,aO dN 4 _ _]) (a:=t4) 0 (by simp) (ah aj (ref:Int));refine⟨⟨trivial,g1⟩, ?_⟩;obtain⟨g2,X⟩:=H.fq (pre:=[aO ff 3 _ _,aJ out _,aO db 2 _ _,aJ ch _,aO dN 4 _ _]) (a:=t4) 1 (by simp) (aa lp x.labels.length G);refine⟨⟨trivial,g2⟩, ?_⟩;obtain⟨g3,E⟩:=X.fq (pre:=[aO ff 3 _ _,aJ out _,aO db 2 _ _,aJ ch _,aO dN 4 _ _]) (a:=t4) 2 (by simp) (aa J x.chunks.length I);refine⟨⟨trivial,g3⟩, ?_⟩;generalize nI _ _ _=gn at E⊢;have E:TS w0 (aO ff 3 (aa J x.chunks.length I) x.chunks::aJ out [ah aj (ref:Int),aa lp x.labels.length G,aa J x.chunks.length I]::aO db 2 (aa lp x.labels.length G) x.labels::aJ ch [aa Q x.chunks.length N]::aO dN 4 (aa Q x.chunks.length N) x.chunks::aJ t4 [ah aj (ref:Int),aa lp x.labels.length G,aa J x.chunks.length I]::ts) gn:=E;have gB:∀i {v},[ah aj (ref:Int),aa lp x.labels.length G,aa J x.chunks.length I][i]? =some v->at_ gn (t4.add i) v:=λ i v hv=>E.at (a:=t4) (cs:=[ah aj (ref:Int),aa lp x.labels.length G,aa J x.chunks.length I]) (by simp) i hv
  refine⟨_,gB 0 rfl,_,_,_,gB 1 rfl,_,_,_,gB 2 rfl,_,_,rfl, ?_⟩;have z_:=E.sub (us:=aO ff 3 (aa J x.chunks.length I) x.chunks::aO db 2 (aa lp x.labels.length G) x.labels::ts) (.cons_cons _ (.cons _ (.cons_cons _ (.cons _ (.cons _ (.cons _ (lE _)))))));exact z_.perm (d_ _ _ _)
end
theorem amw:gW ag 30 22 dd 1 24 [aa none 0 0]:=
 ⟨⟨by kernel_rfl,by kernel_rfl,rfl,by decide⟩,λ _=>rfl,λ x u c=>by simp[dd] at c;subst c;rfl⟩
theorem amx(x:dg)(w:ak):(bw 30 1 #[(0,b9 x)]).run ag w= .ok (aa (some ⟨w.heap.size,0,none⟩) 1 1) (w.alloc (.cells ⟨dd x⟩ 22)):=by kernel_rfl
def ie{α:Type}(enc:α->List ay)(z:Nat)(v:ay)(l:List α):LT:=
 ⟨λ b=>aN v=some b,λ w=>Sl enc z w v l,λ h r u=>aX.fr h r (λ a l c e o _ _ q=>u a.block o q (by rw[e];rfl))⟩
section
variable{w0 w w':ak}{ts us:List LT}{b0:Option Nat}{B rest l:Wd}{p po:OA}{cc co pt:Nat}{R g b ch dc d out:kd}{v:ay}{S:List Wd}{m:Wd->Option (List cQ)}{T:List (Wd×Wd×Nat)}
theorem TS.Ab{x:dg}{K:OA->Nat->Nat->ak->Prop}(q:TS w0 us w)(y:∀p w',TS w0 (ie dd 1 (aa p 1 1) [x]::us) w'->K p 1 1 w'):
  aP ag (bw 30 1 #[(0,b9 x)]) w λ r E=>az (ax r) λ p n c=>K p n c E:=
 ⟨_,_,amx x w,_,_,_,rfl,y _ _ (q.new (t:=ie dd 1 (aa (some ⟨w.heap.size,0,none⟩) 1 1) [x]) (bA _ _) (aX.new w 1 (dd x) 22 1 1 rfl (bB _)) (λ b u=>by
  have h:some w.heap.size=some b:=u;cases h;simp))⟩
theorem TS.vJ{x:dg}{l:List dg}{v:ay}{P:OA}{K:OA->Nat->Nat->ak->Prop}(q:TS w0 (aO dd 1 v l::us) w)(X:ie dd 1 (aa P 1 1) [x]∈us)(hl:l.length<=1000)
  (W:∀p c w',TS w0 (aO dd 1 (aa p (l.length+1) c) (l++[x])::us) w'->K p (l.length+1) c w'):
  aP ag (cM #[30,30] 30 #[v,aa P 1 1]) w λ r w2=>az (ax r) λ p n c=>K p n c w2:=by
 have Z:cP dd 1 w v l:=q.get (t:=aO dd 1 v l) (by simp);have hx:Sl dd 1 w (aa P 1 1) [x]:=q.get (t:=ie dd 1 (aa P 1 1) [x]) (jI _ X);refine oi (enc:=dd) (l:=l) (m:=[x]) amw Z hx (by simp;omega) (by simp;omega) (λ I y w3 u U G=> ?_);refine W _ _ _ (q.ey (t':=aO dd 1 (aa I (l.length+1) y) (l++[x])) (U.mono (λ b o _ E=>E.1)) (λ b o E=>E) (by
  have e:(l++[x]).length=l.length+[x].length:=by simp
  exact u) (λ b J=> ?_))
 rcases G with Q|⟨g,N,H⟩
 ·have h:aN (aa I (l.length+[x].length) y)=some b:=J;exact .inl (show aN v=some b by rw[<-Q];exact h)
 ·have h:aN (aa I (l.length+[x].length) y)=some b:=J;rw[N] at h;cases h;exact .inr ⟨H,u.lt N⟩
theorem amy{α:Type}(a b c d:α):[a,b,c,d].Perm [d,b,a,c]:=by
 classical
 rw[oV];intro z;simp only[oW];omega
def de(q r:Int)(v2 c v4 h v6 v7:ay):List ay:=[ah af q,ah af r,v2,c,v4,h,v6,v7]
theorem amz{K:ay->ak->Prop}{N8:OA->kd->kd->OA->Nat->Nat->Int->Int->ak->Prop}{X Z:Int}{v2 W v6 v7:ay}{Q J:OA}{N I c4 H:Nat}{G l5:List dg}{x y:dg}{x':kd}{P:OA}{n C:Nat}{a i:Int}(mW:G.length<=1000)(sF:l5.length<=1000)
  (q:TS w0 (aO dd 1 (aa Q N c4) G::aO dd 1 (aa J I H) l5::aJ out (de X Z v2 W (aa Q N c4) (aa J I H) v6 v7)::ts) w)
  (hN:∀w' r c u h,TS w0 (aO dd 1 (aa r (G.length+1) c) (G++[x])::aO dd 1 (aa u (l5.length+1) h) (l5++[y])::aJ out (de X Z v2 W (aa r (G.length+1) c) (aa u (l5.length+1) h) v6 v7)::ts) w'->N8 p out x' P n C a (aq af (i+1)) w'):
  BL K N8 p out x' x.1 x.2.1 x.2.2 y.1 y.2.1 y.2.2 P n C a i w:=by
 unfold BL;have qd:=q.drew;have ao:∀{w:ak} {us},TS w0 us w->aJ out (de X Z v2 W (aa Q N c4) (aa J I H) v6 v7)∈us->at_ w (out.add 4) (aa Q N c4)/\at_ w (out.add 5) (aa J I H):=λ q hm=>⟨q.at hm 4 rfl,q.at hm 5 rfl⟩
 obtain⟨g4,g5⟩:=ao qd (by simp);refine⟨_,_,_,g4,_,_,_,g5, ?_⟩;have fin:∀{w:ak} {r u:OA} {c h:Nat} {ra rb:LT},TS w0 (aO dd 1 (aa u (l5.length+1) h) (l5++[y])::aO dd 1 (aa r (G.length+1) c) (G++[x])::ra::rb::aJ out (de X Z v2 W (aa Q N c4) (aa J I H) v6 v7)::ts) w->
   wr w (aw out 4) (aa r (G.length+1) c) λ ze=>wr ze (aw out 5) (aa u (l5.length+1) h) λ qU=>N8 p out x' P n C a (aq af (i+1)) qU:=by
  intro w r u c h ra rb q;obtain⟨h1,q1⟩:=q.fq (pre:=[aO dd 1 _ _,aO dd 1 _ _,ra,rb]) (a:=out) 4 (by simp[de]) (aa r (G.length+1) c);refine⟨⟨trivial,h1⟩, ?_⟩;obtain⟨h2,q2⟩:=q1.fq (pre:=[aO dd 1 _ _,aO dd 1 _ _,ra,rb]) (a:=out) 5 (by simp[de]) (aa u (l5.length+1) h);refine⟨⟨trivial,h2⟩,hN _ r c u h ?_⟩;have q3:=q2.sub (us:=aO dd 1 (aa u (l5.length+1) h) (l5++[y])::aO dd 1 (aa r (G.length+1) c) (G++[x])::aJ out (de X Z v2 W (aa r (G.length+1) c) (aa u (l5.length+1) h) v6 v7)::ts) (.cons_cons _ (.cons_cons _ (.cons _ (.cons _ (lE _)))));exact q3.perm (d_ _ _ _)
 have E:∀{w:ak} {us},TS w0 us w->aJ out (de X Z v2 W (aa Q N c4) (aa J I H) v6 v7)∈us->at_ w (out.add 5) (aa J I H):=λ q hm=>(ao q hm).2
 have h4:∀{w:ak} {ra rb:LT},TS w0 (ra::rb::aO dd 1 (aa Q N c4) G::aO dd 1 (aa J I H) l5::aJ out (de X Z v2 W (aa Q N c4) (aa J I H) v6 v7)::ts) w->
   TS w0 (aO dd 1 (aa Q N c4) G::aO dd 1 (aa J I H) l5::ra::rb::aJ out (de X Z v2 W (aa Q N c4) (aa J I H) v6 v7)::ts) w:=λ q=>q.perm (vN (l₁:=[_,_,_,_]) (l₂:=[_,_,_,_]) (_::ts) (List.perm_append_comm (l₁:=[_,_]) (l₂:=[_,_])))
 have s5:∀{w:ak} {a b:LT} {us},TS w0 (a::b::us) w->TS w0 (b::a::us) w:=λ q=>q.perm (d_ _ _ _)
 refine⟨?_, ?_⟩
 ·refine qd.Ab (x:=x) (λ pa wa qa=>⟨E qa (by simp),(ao qa (by simp)).1, ?_, ?_⟩)
  ·have qa':=qa.perm (us:=aO dd 1 (aa Q N c4) G::ie dd 1 (aa pa 1 1) [x]::aO dd 1 (aa J I H) l5::aJ out (de X Z v2 W (aa Q N c4) (aa J I H) v6 v7)::ts) (d_ _ _ _);refine qa'.vJ (x:=x) (P:=pa) (by simp) mW (λ pb cb wb qb=>⟨E qb (by simp), ?_⟩);refine qb.Ab (x:=y) (λ pc wc U=>⟨E U (by simp), ?_⟩);have qc':TS w0 (aO dd 1 (aa J I H) l5::aO dd 1 (aa pb (G.length+1) cb) (G++[x])::ie dd 1 (aa pc 1 1) [y]::ie dd 1 (aa pa 1 1) [x]::aJ out (de X Z v2 W (aa Q N c4) (aa J I H) v6 v7)::ts) wc:=U.perm (vN (_::ts) (amy _ _ _ _));exact qc'.vJ (x:=y) (P:=pc) (by simp) sF (λ pd cd wd qd=>fin qd)
  ·refine qa.Ab (x:=y) (λ pc wc U=>⟨E U (by simp),(ao U (by simp)).1, ?_⟩);refine(h4 U).vJ (x:=x) (P:=pa) (by simp) mW (λ pb cb wb qb=>⟨E qb (by simp), ?_⟩);exact(s5 qb).vJ (x:=y) (P:=pc) (by simp) sF (λ pd cd wd qd=>fin qd)
 ·refine qd.Ab (x:=y) (λ pa wa qa=>⟨E qa (by simp),(ao qa (by simp)).1, ?_⟩);refine qa.Ab (x:=x) (λ pc wc U=>⟨E U (by simp),(ao U (by simp)).1, ?_⟩);refine(h4 U).vJ (x:=x) (P:=pc) (by simp) mW (λ pb cb wb qb=>⟨E qb (by simp), ?_⟩);exact(s5 qb).vJ (x:=y) (P:=pa) (by simp) sF (λ pd cd wd qd=>fin qd)
end
def jl(y:Nat×dg×dg):List ay:=[ah aj (y.1:Int),b9 y.2.1,b9 y.2.2]
theorem amC:gW ag 23 47 jl 3 56 [ah aj 0,aa none 0 0,aa none 0 0]:=
 ⟨⟨by kernel_rfl,by kernel_rfl,rfl,by decide⟩,λ _=>rfl,λ x u c=>by simp[jl] at c;rcases c with rfl|rfl|rfl<;>rfl⟩
theorem amD(y:Nat×dg×dg)(w:ak):(bw 23 1 #[(0,aV #[ah aj (y.1:Int),b9 y.2.1,b9 y.2.2])]).run ag w= .ok (aa (some ⟨w.heap.size,0,none⟩) 1 1) (w.alloc (.cells ⟨jl y⟩ 47)):=by kernel_rfl
abbrev vK:=dg×dg×bI
def mE(ss:List vK):List LT:=ss.flatMap λ y=>[aO db 2 (b9 y.1) y.2.2.labels,aO ff 3 (b9 y.2.1) y.2.2.chunks]
def fx(ss:List vK):List (Nat×dg×dg):=ss.map λ y=>(y.2.2.ref,y.1,y.2.1)
theorem amE{α:Type}(a b c d e:α):[a,b,c,d,e].Perm [c,d,e,b,a]:=by
 classical
 rw[oV];intro z;simp only[oW];omega
theorem amF{α:Type}(a b c d e:α)(ss ts:List α):(a::b::c::d::e::(ss++ts)).Perm (a::b::c::((ss++[e,d])++ts)):=by
 classical
 rw[oV];intro z;simp only[oW,List.count_append,List.count_nil];omega
section
variable{w0 w w':ak}{ts us:List LT}{b0:Option Nat}{B rest l:Wd}{p po:OA}{cc co pt:Nat}{R g b ch dc d out:kd}{v:ay}{S:List Wd}{m:Wd->Option (List cQ)}{T:List (Wd×Wd×Nat)}{Lr:List bI}{refs:List Nat}
theorem amG(x:Wd)(w:ak):cP bx 1 (w.alloc (.cells ⟨bx x⟩ 9)) (aa (some ⟨w.heap.size,0,none⟩) 1 1) [x]:=
 ⟨rfl, .inr ⟨w.heap.size,1,⟨bx x⟩,9,rfl,by unfold World.alloc;simp,bB _,by decide,by simp[bx],rfl⟩⟩
def KS(S:List Wd)(B:Wd)(refs:List Nat)(Lr:List bI):Prop:=
 Lr.length=refs.length/\∀j (c:j<Lr.length) (h:j<refs.length),Lr[j].ref=refs[j]/\refs[j]<4294967296/\KQ S Lr[j]/\(bh Lr[j].labels).length<=1073741824/\∃r,B.drop (16*refs[j])=fk (cA S Lr[j])++r
theorem amH{K:ay->ak->Prop}{H I:Int}{v2 Z v4 v5:ay}{u:OA}{c6:Nat}(hv:(∃p n c,v2=aa p n c)/\(∃p n c,Z=aa p n c)/\(∃p n c,v4=aa p n c)/\∃p n c,v5=aa p n c)(hR:gd w0 R v B S m pt)(qi:B≠[])(hS:S.length<=100000)(hA:KS S B refs Lr)(hl:refs.length<=1000)
  (q:TS w0 (aO jl 3 ba []::aJ out (de H I v2 Z v4 v5 (aa u refs.length c6) ba)::aO cO 1 (aa u refs.length c6) refs::ts) w)
  (hK:∀w' v7 (ss:List vK),ss.map (·.2.2)=Lr->TS w0 (aO jl 3 v7 (fx ss)::aJ out (de H I v2 Z v4 v5 (aa u refs.length c6) v7)::aO cO 1 (aa u refs.length c6) refs::(mE ss++ts)) w'->K (aZ #[aV ⟨de H I v2 Z v4 v5 (aa u refs.length c6) v7⟩,aQ true]) w'):
  GU K (some R) out u refs.length c6 (refs.length:Int) 0 w:=by
 obtain⟨J9,hA2⟩:=hA;refine abA (λ r o P n C len i w'=>some R=r/\out=o/\u=P/\n=refs.length/\c6=C/\len=(refs.length:Int)/\∃(j:Nat) (v7:ay) (ss:List vK),i=(j:Int)/\j<=refs.length/\ss.map (·.2.2)=Lr.take j/\TS w0 (aO jl 3 v7 (fx ss)::aJ out (de H I v2 Z v4 v5 (aa u refs.length c6) v7)::aO cO 1 (aa u refs.length c6) refs::(mE ss++ts)) w') (λ _ _ _ _ _ len i _=>(len-i).toNat) ⟨rfl,rfl,rfl,rfl,rfl,rfl,0,ba,[],rfl,dO _,rfl,q⟩ ?_;rintro _ _ _ _ _ _ _ w1 ⟨rfl,rfl,rfl,rfl,rfl,rfl,j,v7,ss,rfl,hj,U,G⟩;unfold GS;have iP:ss.length=j:=by
  have:=congrArg fZ U;rw[fu,fS] at this;omega
 have pw:cP jl 3 w1 v7 (fx ss):=G.get (t:=aO jl 3 v7 (fx ss)) (by simp);obtain⟨J,c7,rfl,_⟩:=aX.ex pw.cV;refine bn (λ hc=> ?_) (λ hc=> ?_)
 ·have gU:j<refs.length:=by simp at hc;omega
  have X:j<Lr.length:=by omega
  obtain⟨e1,e2,e3,e4,rest,e5⟩:=hA2 j X gU;have iJ:cP cO 1 w1 (aa u refs.length c6) refs:=G.get (t:=aO cO 1 (aa u refs.length c6) refs) (by simp);refine Sl.ix (enc:=cO) (z:=1) (l:=refs) (λ _=>rfl) (by omega) iJ.cV (by omega) (by omega) (λ a _ ha=>⟨_,by
   have:=ha 0 _ rfl;rwa[add_zero] at this, ?_⟩)
  have e:refs[((j:Nat):Int).toNat]'(by simp;omega)=refs[j]:=by congr 1
  rw[e];refine aF (k99 (x:=Lr[j]) hR qi hS e3 e2 e5 e4 G) ?_;rintro _ w2 ⟨lv,cv,rfl,q2⟩;have pR:cP db 2 w2 lv Lr[j].labels:=q2.get (t:=aO db 2 lv Lr[j].labels) (by simp);have I_:cP ff 3 w2 cv Lr[j].chunks:=q2.get (t:=aO ff 3 cv Lr[j].chunks) (by simp);obtain⟨lp,W,rfl,_⟩:=aX.ex pR.cV;obtain⟨Q,y,rfl,_⟩:=aX.ex I_.cV;refine⟨_,_,rfl,_,_,_,_,_,_,_,rfl,_,rfl, ?_⟩;refine vA (a:=ah aj (refs[j]:Int)) (b:=aa lp Lr[j].labels.length W) (c:=aa Q Lr[j].chunks.length y) trivial trivial trivial (λ w3 o3 k3 z3=> ?_);have q3:=q2.aH k3;refine aT rfl ⟨_,_,_,q3.at (a:=out) (cs:=de H I v2 Z v4 v5 (aa u refs.length c6) (aa J (fx ss).length c7)) (by simp) 7 rfl,_,o3.at 0 rfl,_,_,_,o3.at 1 rfl,_,_,_,o3.at 2 rfl, ?_⟩;have q4:=q3.perm (us:=aO jl 3 (aa J (fx ss).length c7) (fx ss)::aJ out (de H I v2 Z v4 v5 (aa u refs.length c6) (aa J (fx ss).length c7))::aO cO 1 (aa u refs.length c6) refs::aO ff 3 (aa Q Lr[j].chunks.length y) Lr[j].chunks::aO db 2 (aa lp Lr[j].labels.length W) Lr[j].labels::(mE ss++ts)) (by
   refine vN (l₁:=[_,_,_,_,_]) (l₂:=[_,_,_,_,_]) (mE ss++ts) ?_;exact amE _ _ _ _ _)
  refine q4.kB amC (x:=(refs[j],(lp,Lr[j].labels.length,W),(Q,Lr[j].chunks.length,y))) (amD (refs[j],(lp,Lr[j].labels.length,W),(Q,Lr[j].chunks.length,y)) w3) (by unfold fx;rw[fu];omega) (by unfold fx;rw[fu];omega) (λ p8 c8 w8 q8 _=> ?_);obtain⟨g9,N⟩:=q8.fq (pre:=[aO jl 3 _ _]) (a:=out) 7 (by simp[de]) (aa p8 ((fx ss).length+1) c8);refine⟨⟨trivial,g9⟩, ?_⟩;rw[show aq af ((j:Int)+1)=((j+1:Nat):Int) by rw[bk (by omega) (by omega)];omega];refine⟨⟨rfl,rfl,rfl,rfl,rfl,rfl,j+1,aa p8 ((fx ss).length+1) c8,ss++[((lp,Lr[j].labels.length,W),(Q,Lr[j].chunks.length,y),Lr[j])],rfl,by omega, ?_, ?_⟩,by omega⟩
  ·rw[iE,U,jm X];rfl
  ·have er:fx (ss++[((lp,Lr[j].labels.length,W),(Q,Lr[j].chunks.length,y),Lr[j])])=fx ss++[(refs[j],(lp,Lr[j].labels.length,W),(Q,Lr[j].chunks.length,y))]:=by
    unfold fx;rw[iE,<-e1];rfl
   have es:mE (ss++[((lp,Lr[j].labels.length,W),(Q,Lr[j].chunks.length,y),Lr[j])])=mE ss++[aO db 2 (aa lp Lr[j].labels.length W) Lr[j].labels,aO ff 3 (aa Q Lr[j].chunks.length y) Lr[j].chunks]:=by
    unfold mE;rw[jK];rfl
   rw[er,es];exact N.perm (amF _ _ _ _ _ _ _)
 ·have he:j=refs.length:=by simp at hc;omega
  subst he;rw[<-J9,fY] at U;obtain⟨⟨a2,b2,d2,rfl⟩,⟨a3,b3,d3,rfl⟩,⟨a4,b4,d4,rfl⟩,⟨a5,b5,d5,rfl⟩⟩:=hv;have h:∀{w':ak} {us},TS w0 us w'->aJ out (de H I (aa a2 b2 d2) (aa a3 b3 d3) (aa a4 b4 d4) (aa a5 b5 d5) (aa u refs.length c6) (aa J (fx ss).length c7))∈us->∀i {v},(de H I (aa a2 b2 d2) (aa a3 b3 d3) (aa a4 b4 d4) (aa a5 b5 d5) (aa u refs.length c6) (aa J (fx ss).length c7))[i]? =some v->at_ w' (out.add i) v:=λ q hm i v hv=>q.at hm i hv
  have E:∀{w':ak} {us} (i:Nat) {v},(de H I (aa a2 b2 d2) (aa a3 b3 d3) (aa a4 b4 d4) (aa a5 b5 d5) (aa u refs.length c6) (aa J (fx ss).length c7)).set i v=de H I (aa a2 b2 d2) (aa a3 b3 d3) (aa a4 b4 d4) (aa a5 b5 d5) (aa u refs.length c6) (aa J (fx ss).length c7)->i<8->gj v->TS w0 (aO jl 3 (aa J (fx ss).length c7) (fx ss)::aJ out (de H I (aa a2 b2 d2) (aa a3 b3 d3) (aa a4 b4 d4) (aa a5 b5 d5) (aa u refs.length c6) (aa J (fx ss).length c7))::us) w'->
    ∀{K:ak->Prop},(∀w'',TS w0 (aO jl 3 (aa J (fx ss).length c7) (fx ss)::aJ out (de H I (aa a2 b2 d2) (aa a3 b3 d3) (aa a4 b4 d4) (aa a5 b5 d5) (aa u refs.length c6) (aa J (fx ss).length c7))::us) w''->K w'')->wr w' (aw out i) v K:=by
   intro w' us i v he hi h1 q K hk;obtain⟨g,q'⟩:=q.fq (pre:=[aO jl 3 _ _]) (a:=out) i (by simp[de];omega) v;refine⟨⟨h1,g⟩,hk _ ?_⟩;rw[he] at q';exact q'
  refine⟨_,h G (by simp) 0 rfl,_,h G (by simp) 1 rfl,_,_,_,h G (by simp) 2 rfl,_,_,_,h G (by simp) 3 rfl,_,_,_,h G (by simp) 4 rfl,_,_,_,h G (by simp) 5 rfl,_,_,_,h G (by simp) 6 rfl,_,_,_,h G (by simp) 7 rfl, ?_⟩;refine E 0 rfl (by omega) trivial G (λ w2 q2=> ?_);refine E 1 rfl (by omega) trivial q2 (λ w3 q3=> ?_);refine E 2 rfl (by omega) trivial q3 (λ w4 q4=> ?_);refine E 3 rfl (by omega) trivial q4 (λ w5 q5=> ?_);refine E 4 rfl (by omega) trivial q5 (λ w6 q6=> ?_);refine E 5 rfl (by omega) trivial q6 (λ w7 q7=> ?_);refine E 6 rfl (by omega) trivial q7 (λ w8 q8=> ?_);refine E 7 rfl (by omega) trivial q8 (λ w9 N=> ?_);refine⟨_,h N (by simp) 0 rfl,_,h N (by simp) 1 rfl,_,_,_,h N (by simp) 2 rfl,_,_,_,h N (by simp) 3 rfl,_,_,_,h N (by simp) 4 rfl,_,_,_,h N (by simp) 5 rfl,_,_,_,h N (by simp) 6 rfl,_,_,_,h N (by simp) 7 rfl, ?_⟩;exact hK w9 _ ss U N
end
abbrev vM:=dg×dg×List Wd
def lA(ws:List vM):List LT:=ws.flatMap λ y=>[aO bx 1 (b9 y.1) y.2.2,aO bx 1 (b9 y.2.1) y.2.2]
theorem amJ{α:Type}(a b c d e f:α)(vs ts:List α):(a::b::c::d::e::f::(vs++ts)).Perm (a::b::c::f::((vs++[e,d])++ts)):=by
 classical
 rw[oV];intro z;simp only[oW,List.count_append,List.count_nil];omega
theorem amK{α:Type}(a b c:α)(ss vs:List α):(ss++(a::b::c::vs)).Perm (a::b::c::(ss++vs)):=by
 classical
 rw[oV];intro z;simp only[oW,List.count_append];omega
theorem amL{α:Type}(a b c d e f:α):[a,b,c,d,e,f].Perm [c,d,e,a,b,f]:=by
 classical
 rw[oV];intro z;simp only[oW];omega
section
variable{w0 w w':ak}{ts us:List LT}{b0:Option Nat}{B rest l:Wd}{p po:OA}{cc co pt:Nat}{R g b ch dc d out:kd}{v:ay}{S:List Wd}{m:Wd->Option (List cQ)}{T:List (Wd×Wd×Nat)}{Lr:List bI}{refs:List Nat}
structure Ac(w0:ak)(R:kd)(v:ay)(B:Wd)(S:List Wd)(m:Wd->Option (List cQ))(pt:Nat)(T:List (Wd×Wd×Nat))(refs:List Nat)(Lr:List bI)(N:List Wd)(c:Wd->List Wd):Prop where
 rd:gd w0 R v B S m pt
 pt:qh B T pt
 tb:nE T B
 Bl:B.length<=67108864
 sl:S.length<=1000
 key:∀k,(m k).isSome->k=[]\/k∈S
 nm:WS N/\N.length<=1000/\∀n,n∈N↔n≠[]/\(m n).isSome
 vl:∀n∈N,∃i0 k,zZ T m n i0 k (c n)
 m0:m []=some [([],iw T 0)]
 T0:∃off rest,(∃h:0<T.length,T[0]=([],[],off))/\B.drop off=dh (fM refs)++rest/\off<9223372036854775808
 rl:refs.length<=1000
 fT:∀x∈refs,x<4294967296
 sr:KS S B refs Lr
theorem Ac.ne{N:List Wd}{c:Wd->List Wd}(h:Ac w0 R v B S m pt T refs Lr N c):B≠[]:=λ e=>by
 have:=h.pt.1;rw[e] at this;simp at this
theorem amM{K:ay->ak->Prop}{N:List Wd}{u:Wd->List Wd}{x0 x1:Int}{v2:ay}{G:OA}{E:Nat}{x':kd}(hv:∃p n c,v2=aa p n c)(h:Ac w0 R v B S m pt T refs Lr N u)
  (q:TS w0 (aO dd 1 ba []::aO dd 1 ba []::aJ out (de x0 x1 v2 (aa G N.length E) ba ba ba ba)::aO bx 1 (aa G N.length E) N::ts) w)
  (hK:∀w' I c4 J H v6 v7 (ws:List vM) (ss:List vK),ws.map (·.2.2)=N.map u->ss.map (·.2.2)=Lr->TS w0 (aO jl 3 v7 (fx ss)::aO cO 1 v6 refs::aO dd 1 (aa I ws.length c4) (ws.map (·.1))::aO dd 1 (aa J ws.length H) (ws.map (·.2.1))::aO bx 1 (aa G N.length E) N::(mE ss++(lA ws++ts))) w'->K (aZ #[aV ⟨de x0 x1 v2 (aa G N.length E) (aa I ws.length c4) (aa J ws.length H) v6 v7⟩,aQ true]) w'):
  GW K (some R) out x' G N.length E (N.length:Int) 0 w:=by
 obtain⟨hR,W,hT,U,hS,hmk,⟨hN1,hN2,VT⟩,hV,Ka,⟨off,rest,zG,hd,JO⟩,X,yt,hA⟩:=id h;refine abB (λ r o x P n C len i w'=>some R=r/\out=o/\x'=x/\G=P/\n=N.length/\E=C/\len=(N.length:Int)/\∃(j:Nat) (ws:List vM) (I J:OA) (c4 H:Nat),i=(j:Int)/\j<=N.length/\ws.map (·.2.2)=(N.take j).map u/\TS w0 (aO dd 1 (aa I ws.length c4) (ws.map (·.1))::aO dd 1 (aa J ws.length H) (ws.map (·.2.1))::aJ out (de x0 x1 v2 (aa G N.length E) (aa I ws.length c4) (aa J ws.length H) ba ba)::aO bx 1 (aa G N.length E) N::(lA ws++ts)) w')
  (λ _ _ _ _ _ _ len i _=>(len-i).toNat) ⟨rfl,rfl,rfl,rfl,rfl,rfl,rfl,0,[],none,none,0,0,rfl,dO _,rfl,q⟩ ?_
 rintro _ _ _ _ _ _ _ _ w1⟨rfl,rfl,rfl,rfl,rfl,rfl,rfl,j,ws,I,J,c4,H,rfl,hj,Q,q1⟩;unfold GV;have hwl:ws.length=j:=by
  have:=congrArg fZ Q;rw[fu,fu,fS] at this;omega
 refine bn (λ hc=> ?_) (λ hc=> ?_)
 ·have gU:j<N.length:=by simp at hc;omega
  have lL:cP bx 1 w1 (aa G N.length E) N:=q1.get (t:=aO bx 1 (aa G N.length E) N) (by simp);refine Sl.ix (enc:=bx) (z:=1) (l:=N) (λ _=>rfl) (by omega) lL.cV (by omega) (by omega) (λ a _ ha=>⟨_,by
   have:=ha 0 _ rfl;rwa[add_zero] at this, ?_⟩)
  have e:N[((j:Nat):Int).toNat]'(by simp;omega)=N[j]:=by congr 1
  rw[e];obtain⟨i0,k,hB⟩:=hV _ (iy gU);refine aF (Vz hR W hT U hB q1) ?_;rintro _ w2 ⟨xa,rfl,q2⟩;have Ij:cP bx 1 w2 xa (u N[j]):=q2.get (t:=aO bx 1 xa (u N[j])) (by simp);obtain⟨pa,ca,rfl,_⟩:=aX.ex Ij.cV;refine⟨_,_,rfl,_,_,_,rfl,_,rfl, ?_⟩;refine aF (k96 hR W hT U hB q2) ?_;rintro _ w3 ⟨xb,rfl,q3⟩;have DB:cP bx 1 w3 xb (u N[j]):=q3.get (t:=aO bx 1 xb (u N[j])) (by simp);obtain⟨pb,cb,rfl,_⟩:=aX.ex DB.cV;refine⟨_,_,rfl,_,_,_,rfl,_,rfl,_,λ w=>cE _ w,_,rfl,aT rfl ⟨_,λ w=>cE _ w,_,rfl,aT rfl ?_⟩⟩;have q4:=q3.perm (us:=aO dd 1 (aa I ws.length c4) (ws.map (·.1))::aO dd 1 (aa J ws.length H) (ws.map (·.2.1))::aJ out (de x0 x1 v2 (aa G N.length E) (aa I ws.length c4) (aa J ws.length H) ba ba)::aO bx 1 (aa pb (u N[j]).length cb) (u N[j])::aO bx 1 (aa pa (u N[j]).length ca) (u N[j])::aO bx 1 (aa G N.length E) N::(lA ws++ts))
   (vN (l₁:=[_,_,_,_,_,_]) (l₂:=[_,_,_,_,_,_]) (lA ws++ts) (amL _ _ _ _ _ _))
  refine amz (x:=(pa,(u N[j]).length,ca)) (y:=(pb,(u N[j]).length,cb)) (by rw[fu];omega) (by rw[fu];omega) q4 (λ w5 p4' c4' p5' Ku q5=> ?_);rw[show aq af ((j:Int)+1)=((j+1:Nat):Int) by rw[bk (by omega) (by omega)];omega];refine⟨⟨rfl,rfl,rfl,rfl,rfl,rfl,rfl,j+1,ws++[((pa,(u N[j]).length,ca),(pb,(u N[j]).length,cb),u N[j])],p4',p5',c4',Ku,rfl,by omega, ?_, ?_⟩,by omega⟩
  ·rw[iE,Q,jm gU,iE];rfl
  ·rw[fu,fu] at q5;have ev:lA (ws++[((pa,(u N[j]).length,ca),(pb,(u N[j]).length,cb),u N[j])])=lA ws++[aO bx 1 (aa pa (u N[j]).length ca) (u N[j]),aO bx 1 (aa pb (u N[j]).length cb) (u N[j])]:=by
    unfold lA;rw[jK];rfl
   rw[ev,aY,iE,iE];exact q5.perm (amJ _ _ _ _ _ _ _ _)
 ·have he:j=N.length:=by simp at hc;omega
  subst he;rw[fY] at Q;refine aF (c97 (K:=λ r w'=>r=aZ #[aC (bs []),aC (bs [])]/\w'=w1) ⟨rfl,rfl⟩) ?_;rintro _ w2 ⟨rfl,e⟩;subst e;refine⟨_,_,rfl,_,rfl,_,rfl, ?_⟩;refine⟨_,_,vi [] w2,_,_,_,rfl, ?_⟩;have q3:=q1.new (t:=aO bx 1 (aa (some ⟨w2.heap.size,0,none⟩) 1 1) [([]:Wd)]) (bA w2 (.cells ⟨bx []⟩ 9)) (amG [] w2) (λ b hb=>by
   have gD:some w2.heap.size=some b:=hb;cases gD;simp)
  refine aF (k98 hR W hT U Ka zG hd X JO q3) ?_;rintro _ w4 ⟨g,gv,rfl,hg,q4⟩;refine⟨_,_,rfl,_,rfl,_,rfl,_,λ w=>cE _ w,_,rfl,aT rfl ?_⟩;refine aF (Da q4 hg yt X) ?_;rintro _ w5 ⟨v6,rfl,q5⟩;have iJ:cP cO 1 w5 v6 refs:=q5.get (t:=aO cO 1 v6 refs) (by simp);obtain⟨Z,c6,rfl,_⟩:=aX.ex iJ.cV;refine⟨_,_,rfl,_,_,_,rfl,_,rfl, ?_⟩;obtain⟨g6,q6⟩:=q5.fq (pre:=[aO cO 1 _ _,aO dd 1 _ _,aO dd 1 _ _]) (a:=out) 6 (by simp[de]) (aa Z refs.length c6);refine⟨⟨trivial,g6⟩,aT rfl ?_⟩;generalize uF:w5.setCell _ _=w6;have q6:TS w0 (aO cO 1 (aa Z refs.length c6) refs::aO dd 1 (aa I ws.length c4) (ws.map (·.1))::aO dd 1 (aa J ws.length H) (ws.map (·.2.1))::aJ out (de x0 x1 v2 (aa G N.length E) (aa I ws.length c4) (aa J ws.length H) (aa Z refs.length c6) ba)::aO bx 1 (aa G N.length E) N::(lA ws++ts)) w6:=by rw[<-uF];exact q6
  refine⟨_,_,_,q6.at (a:=out) (cs:=de x0 x1 v2 (aa G N.length E) (aa I ws.length c4) (aa J ws.length H) (aa Z refs.length c6) ba) (by simp) 6 rfl, ?_⟩;have q7:=(q6.perm (us:=aJ out (de x0 x1 v2 (aa G N.length E) (aa I ws.length c4) (aa J ws.length H) (aa Z refs.length c6) ba)::aO cO 1 (aa Z refs.length c6) refs::aO dd 1 (aa I ws.length c4) (ws.map (·.1))::aO dd 1 (aa J ws.length H) (ws.map (·.2.1))::aO bx 1 (aa G N.length E) N::(lA ws++ts)) (gI (l₁:=[_,_,_]))).new (t:=aO jl 3 ba ([]:List (Nat×dg×dg))) (Fr.refl _ _) (Own.nil _ _) (λ b hb=>by cases hb);refine amH (ts:=aO dd 1 (aa I ws.length c4) (ws.map (·.1))::aO dd 1 (aa J ws.length H) (ws.map (·.2.1))::aO bx 1 (aa G N.length E) N::(lA ws++ts)) ⟨hv,⟨_,_,_,rfl⟩,⟨_,_,_,rfl⟩,⟨_,_,_,rfl⟩⟩ hR h.ne (by omega) hA X q7 (λ w8 v7 ss hss q8=>hK w8 I c4 J H _ v7 ws ss Q hss ?_);refine(q8.sub (us:=aO jl 3 v7 (fx ss)::aO cO 1 (aa Z refs.length c6) refs::(mE ss++(aO dd 1 (aa I ws.length c4) (ws.map (·.1))::aO dd 1 (aa J ws.length H) (ws.map (·.2.1))::aO bx 1 (aa G N.length E) N::(lA ws++ts)))) (.cons_cons _ (.cons _ (lE _)))).perm ?_;refine List.Perm.cons _ (List.Perm.cons _ ?_);exact amK _ _ _ _ _
end
def rz(w:ak)(v:ay)(ls:List (List Wd)):Prop:=∃c:List dg,c.length=ls.length/\Sl dd 1 w v c/\∀i (h:i<c.length) (q:i<ls.length),dK w (b9 c[i]) ls[i]
theorem rz.aH{w w':ak}{v:ay}{ls:List (List Wd)}(h:rz w v ls)(c:aS w w'):rz w' v ls:=by
 obtain⟨x,q,r,u⟩:=h;exact⟨x,q,Sl.aH r c,λ i a b=>Sl.aH (u i a b) c⟩
structure rA(w:ak)(B:Wd)(S:List Wd)(N:List Wd)(Vf:Wd->List Wd)(refs:List Nat)(Lr:List bI)(v2 c v4 h v6 v7:ay):Prop where
 sy:dK w v2 S
 nm:dK w c N
 vs:rz w v4 (N.map Vf)
 ss:rz w h (N.map Vf)
 rf:Refs w v6 refs
 sr:im w v7 Lr
theorem rA.aH{w w':ak}{B:Wd}{S N:List Wd}{Vf:Wd->List Wd}{refs:List Nat}{Lr:List bI}{v2 q v4 r v6 v7:ay}(h:rA w B S N Vf refs Lr v2 q v4 r v6 v7)(c:aS w w'):rA w' B S N Vf refs Lr v2 q v4 r v6 v7:=
 ⟨Sl.aH h.sy c,Sl.aH h.nm c,h.vs.aH c,h.ss.aH c,Sl.aH h.rf c,h.sr.aH c⟩
def tv(base:Nat)(w:ak)(B:Wd)(S:List Wd)(N:List Wd)(Vf:Wd->List Wd)(refs:List Nat)(Lr:List bI)(v2 c v4 h v6 v7:ay):Prop:=
 ∃us:List LT,(∀t∈us,t.F w/\∀b,t.B b->base<=b)/\∀w',(∀t∈us,t.F w')->rA w' B S N Vf refs Lr v2 c v4 h v6 v7
theorem tv.fr{base:Nat}{S':Nat->Nat->Prop}{w w':ak}{B:Wd}{S N:List Wd}{Vf:Wd->List Wd}{refs:List Nat}{Lr:List bI}{v2 r v4 u v6 v7:ay}(h:tv base w B S N Vf refs Lr v2 r v4 u v6 v7)(G:Fr S' w w')(y:∀b o,S' b o->b<base):tv base w' B S N Vf refs Lr v2 r v4 u v6 v7:=by
 obtain⟨us,c,x⟩:=h;refine⟨us,λ t q=>⟨t.st (c t q).1 G (λ b o H E=> ?_),(c t q).2⟩,x⟩;have:=(c t q).2 b E;have:=y b o H;omega
theorem tv.get{base:Nat}{w:ak}{B:Wd}{S N:List Wd}{Vf:Wd->List Wd}{refs:List Nat}{Lr:List bI}{v2 c v4 q v6 v7:ay}(h:tv base w B S N Vf refs Lr v2 c v4 q v6 v7):rA w B S N Vf refs Lr v2 c v4 q v6 v7:=by
 obtain⟨us,r,u⟩:=h;exact u w (λ t x=>(r t x).1)
section
variable{w0 w w':ak}{ts us:List LT}{b0:Option Nat}{B rest l:Wd}{p po:OA}{cc co pt:Nat}{R g b ch dc d out:kd}{v:ay}{S:List Wd}{m:Wd->Option (List cQ)}{T:List (Wd×Wd×Nat)}{Lr:List bI}{refs:List Nat}{N:List Wd}{Vf:Wd->List Wd}
theorem VU{H I J:OA}{c3 c4 G:Nat}{v2 v6 v7:ay}{ws:List vM}{ss:List vK}(u:ws.map (·.2.2)=N.map Vf)(Q:ss.map (·.2.2)=Lr)
  (q:∀t∈(aO jl 3 v7 (fx ss)::aO cO 1 v6 refs::aO dd 1 (aa I ws.length c4) (ws.map (·.1))::aO dd 1 (aa J ws.length G) (ws.map (·.2.1))::aO bx 1 (aa H N.length c3) N::(mE ss++(lA ws++aO bx 1 v2 S::ts))),t.F w):
  rA w B S N Vf refs Lr v2 (aa H N.length c3) (aa I ws.length c4) (aa J ws.length G) v6 v7:=by
 have Z:cP bx 1 w v2 S:=q (aO bx 1 v2 S) (by simp);have o3:cP bx 1 w (aa H N.length c3) N:=q (aO bx 1 (aa H N.length c3) N) (by simp);have o4:cP dd 1 w (aa I ws.length c4) (ws.map (·.1)):=q (aO dd 1 (aa I ws.length c4) (List.map (λ y:vM=>y.1) ws)) (by simp);have o5:cP dd 1 w (aa J ws.length G) (ws.map (·.2.1)):=q (aO dd 1 (aa J ws.length G) (List.map (λ y:vM=>y.2.1) ws)) (by simp);have o6:cP cO 1 w v6 refs:=q (aO cO 1 v6 refs) (by simp);have o7:cP jl 3 w v7 (fx ss):=q (aO jl 3 v7 (fx ss)) (by simp);have E:ws.length=(N.map Vf).length:=by rw[<-u,fu]
 have W:∀i (c:i<ws.length),cP bx 1 w (b9 ws[i].1) ws[i].2.2/\cP bx 1 w (b9 ws[i].2.1) ws[i].2.2:=λ i c=>by
  have r:=iy c;generalize ws[i]=y at r⊢;have K:aO bx 1 (b9 y.1) y.2.2∈lA ws:=jJ.2 ⟨y,r,by simp⟩;have x:aO bx 1 (b9 y.2.1) y.2.2∈lA ws:=jJ.2 ⟨y,r,by simp⟩;exact⟨q (aO bx 1 (b9 y.1) y.2.2) (by simp[K]),q (aO bx 1 (b9 y.2.1) y.2.2) (by simp[x])⟩
 have X:∀i (c:i<ss.length),cP db 2 w (b9 ss[i].1) ss[i].2.2.labels/\cP ff 3 w (b9 ss[i].2.1) ss[i].2.2.chunks:=λ i c=>by
  have r:=iy c;generalize ss[i]=y at r⊢;have K:aO db 2 (b9 y.1) y.2.2.labels∈mE ss:=jJ.2 ⟨y,r,by simp⟩;have x:aO ff 3 (b9 y.2.1) y.2.2.chunks∈mE ss:=jJ.2 ⟨y,r,by simp⟩;exact⟨q (aO db 2 (b9 y.1) y.2.2.labels) (by simp[K]),q (aO ff 3 (b9 y.2.1) y.2.2.chunks) (by simp[x])⟩
 refine⟨Z.cV,o3.cV,⟨ws.map (·.1),by rw[fu,E], ?_,λ i c U=> ?_⟩,⟨ws.map (·.2.1),by rw[fu,E], ?_,λ i c U=> ?_⟩,o6.cV, ?_⟩
 ·exact o4.cV
 ·have h:i<ws.length:=by rwa[fu] at c
  have e:(N.map Vf)[i]=ws[i].2.2:=by
   simp only[<-u,mJ]
  rw[e,mJ];exact(W i h).1.cV
 ·exact o5.cV
 ·have h:i<ws.length:=by rwa[fu] at c
  have e:(N.map Vf)[i]=ws[i].2.2:=by
   simp only[<-u,mJ]
  rw[e,mJ];exact(W i h).2.cV
 ·subst Q;refine⟨(fx ss).map λ y=>(y.1,b9 y.2.1,b9 y.2.2),by unfold fx;simp, ?_,λ i c U=> ?_⟩
  ·have e:((fx ss).map λ y=>(y.1,b9 y.2.1,b9 y.2.2)).flatMap yG=(fx ss).flatMap jl:=by
    rw[List.flatMap_map];rfl
   have:=o7.cV;show aX w 3 v7 _ _;rw[e,fu];exact this
  ·have h:i<ss.length:=by unfold fx at c;simpa using c
   obtain⟨a,b⟩:=X i h;have e:((fx ss).map λ y=>(y.1,b9 y.2.1,b9 y.2.2))[i]=(ss[i].2.2.ref,b9 ss[i].1,b9 ss[i].2.1):=by
    unfold fx;simp
   have x:(ss.map (·.2.2))[i]=ss[i].2.2:=mJ _;rw[e,x];exact⟨rfl,a.cV,b.cV⟩
theorem k38(h:Ac w R v B S m pt T refs Lr N Vf):
  au ag 38 #[an (some R)] w λ r w'=>∃v2 y v4 v5 v6 v7,r=aZ #[aV ⟨de 2 (B.length:Int) v2 y v4 v5 v6 v7⟩,aQ true]/\(∃c n2 c2 q n3 c3 p4 n4 c4 p5 n5 c5 p6 n6 c6 p7 n7 c7,v2=aa c n2 c2/\y=aa q n3 c3/\v4=aa p4 n4 c4/\v5=aa p5 n5 c5/\v6=aa p6 n6 c6/\v7=aa p7 n7 c7)/\tv w.heap.size w' B S N Vf refs Lr v2 y v4 v5 v6 v7/\aS w w':=by
 obtain⟨W,hN2,X⟩:=h.nm;have E:=h.sl;apply c38;unfold Pj;refine gf (cs:=de 0 0 ba ba ba ba ba ba) (by simp[de]) (λ w1 o1 k1 z1=> ?_);have q1:=(TS.nil (Fr.refl _ w)).ob o1 k1 rfl (by omega);generalize (⟨w.heap.size,0,none⟩:kd)=out at q1⊢;refine aF k49 ?_;rintro _ w2 ⟨rfl,k2⟩;have q2:=q1.aH k2;refine⟨rfl,vG (λ w3 k3 z3=> ?_)⟩;have q3:=q2.aH k3;refine aF (k90 (h.rd.aH q3.1)) ?_;rintro _ w3' ⟨rfl,e⟩;subst e;refine⟨_,rfl,aF (k91 (h.rd.aH q3.1)) ?_⟩;rintro _ aqi ⟨rfl,e⟩;subst e;refine⟨_,rfl,aF (k93 h.rd h.ne (by omega) q3) ?_⟩;rintro _ w4 ⟨n,v',rfl,lO,q4⟩;refine⟨_,rfl,aF (k92 q4 lO E) ?_⟩;rintro v2 w5 q5;have gy:cP bx 1 w5 v2 S:=q5.get (t:=aO bx 1 v2 S) (by simp);obtain⟨c,c2,rfl,_⟩:=aX.ex gy.cV;refine⟨_,_,_,rfl, ?_⟩;obtain⟨g1,q6⟩:=q5.fq (pre:=[aO bx 1 _ _]) (a:=out) 0 (by simp[de]) (ah af 2);rw[add_zero] at g1 q6;refine⟨⟨trivial,g1⟩, ?_⟩;obtain⟨g2,q7⟩:=q6.fq (pre:=[aO bx 1 _ _]) (a:=out) 1 (by simp[de]) (ah af (B.length:Int));refine⟨⟨trivial,g2⟩, ?_⟩;obtain⟨g3,q8⟩:=q7.fq (pre:=[aO bx 1 _ _]) (a:=out) 2 (by simp[de]) (aa c S.length c2);refine⟨⟨trivial,g3⟩, ?_⟩;generalize hw8:nI _ (out.add 2) _=w8;have q8:TS w (aO bx 1 (aa c S.length c2) S::[aJ out (de 2 (B.length:Int) (aa c S.length c2) ba ba ba ba ba)]) w8:=by rw[<-hw8];exact q8
 refine aF (k94 h.rd E h.key q8) ?_;rintro _ w9 ⟨y,l,rfl,Z,jc,q9⟩;have hlN:l=N:=CU Z W (λ x=>by rw[jc,X]);subst hlN;have lL:cP bx 1 w9 y l:=q9.get (t:=aO bx 1 y l) (by simp);obtain⟨q,c3,rfl,_⟩:=aX.ex lL.cV;refine⟨_,_,rfl,_,_,_,rfl,_,rfl,_,λ w=>cE _ w,_,rfl,aT rfl ?_⟩;obtain⟨g4,u⟩:=q9.fq (pre:=[aO bx 1 _ _,aO bx 1 _ _]) (a:=out) 3 (by simp[de]) (aa q l.length c3);refine⟨⟨trivial,g4⟩, ?_⟩;generalize J:nI _ (out.add 3) _=jg;have u:TS w (aO bx 1 (aa q l.length c3) l::aO bx 1 (aa c S.length c2) S::[aJ out (de 2 (B.length:Int) (aa c S.length c2) (aa q l.length c3) ba ba ba ba)]) jg:=by rw[<-J];exact u
 have C7:=((u.perm (us:=aJ out (de 2 (B.length:Int) (aa c S.length c2) (aa q l.length c3) ba ba ba ba)::aO bx 1 (aa q l.length c3) l::aO bx 1 (aa c S.length c2) S::[]) (gI (l₁:=[_,_]) (l₂:=[]))).new (t:=aO dd 1 ba ([]:List dg)) (Fr.refl _ _) (Own.nil _ _) (λ b G=>by cases G)).new (t:=aO dd 1 ba ([]:List dg)) (Fr.refl _ _) (Own.nil _ _) (λ b G=>by cases G);refine amM ⟨_,_,_,rfl⟩ h C7 (λ w' p4 c4 p5 c5 v6 v7 ws ss K I U=> ?_);have H:=VU (B:=B) K I (λ t Q=>(U.2.1 t Q).1);obtain⟨p6,c6,rfl,_⟩:=aX.ex H.rf;obtain⟨p7,c7,rfl,_⟩:=H.sr.ex;exact⟨_,_,_,_,_,_,rfl,⟨_,_,_,_,_,_,_,_,_,_,_,_,_,_,_,_,_,_,rfl,rfl,rfl,rfl,rfl,rfl⟩,⟨_,λ t Q=>⟨(U.2.1 t Q).1,λ b G=>((U.2.1 t Q).2 b G).1⟩,λ w'' h=>VU K I h⟩,U.1⟩
end
theorem VV:gW ag 26 5 fK 1 1 [ah aG 0]:=
 ⟨qH,λ _=>rfl,λ x u c=>by simp[fK] at c;subst c;rfl⟩
section
variable{w0 w w':ak}{ts us:List LT}{b0:Option Nat}{B rest l:Wd}{p po:OA}{cc co pt:Nat}{R g b ch dc d out:kd}{v:ay}{S:List Wd}{m:Wd->Option (List cQ)}{T:List (Wd×Wd×Nat)}{L Lr:List bI}{refs Rf:List Nat}{N:List Wd}{Vf:Wd->List Wd}{c0 c1 c2:kd}
structure Ad(B:Wd)(S:List Wd)(T:List (Wd×Wd×Nat))(refs:List Nat)(Lr:List bI)(N:List Wd)(Vf:Wd->List Wd):Prop where
 tb:nE T B
 Bl:B.length<=67108864
 ws:WS S
 sl:S.length<=1000
 key:∀k,(g_ T k).isSome->k=[]\/k∈S
 nm:WS N/\N.length<=1000/\∀n,n∈N↔n≠[]/\(g_ T n).isSome
 vl:∀n∈N,∃i0 k,zZ T (g_ T) n i0 k (Vf n)
 m0:g_ T []=some [([],iw T 0)]
 T0:∃off rest,(∃c:0<T.length,T[0]=([],[],off))/\B.drop off=dh (fM refs)++rest/\off<9223372036854775808
 rl:refs.length<=1000
 fT:∀x∈refs,x<4294967296
 sr:KS S B refs Lr
theorem Ad.of(h:Ad B S T refs Lr N Vf)(c:gd w R v B S (g_ T) pt)(q:qh B T pt):Ac w R v B S (g_ T) pt T refs Lr N Vf:=
 ⟨c,q,h.tb,h.Bl,h.sl,h.key,h.nm,h.vl,h.m0,h.T0,h.rl,h.fT,h.sr⟩
theorem KU{x0 x1 y0 y1:Int}{v2 v3 v4 v5 v6 v7 y E G H I J:ay}{base:Nat}{K:ak->Prop}(q:TS w0 (aJ c1 (de x0 x1 v2 v3 v4 v5 v6 v7)::ts) w)
  (h:gj y/\gj E/\gj G/\gj H/\gj I/\gj J)
  (r:∀w',TS w0 (aJ c1 (de y0 y1 y E G H I J)::ts) w'->Fr (λ b _=>b=c1.block) w w'->K w'):
  wr w (aw c1 0) (ah af y0) λ Q=>wr Q (aw c1 1) (ah af y1) λ U=>wr U (aw c1 2) y λ W=>wr W (aw c1 3) E λ X=>wr X (aw c1 4) G λ Z=>wr Z (aw c1 5) H λ w6=>wr w6 (aw c1 6) I λ w7=>wr w7 (aw c1 7) J K:=by
 have st:∀{w' w'':ak} {cs:List ay} (i:Nat) {u:ay} {K:ak->Prop},gj u->i<cs.length->Fr (λ b _=>b=c1.block) w w'->TS w0 (aJ c1 cs::ts) w'->(∀w'',Fr (λ b _=>b=c1.block) w w''->TS w0 (aJ c1 (cs.set i u)::ts) w''->K w'')->wr w' (aw c1 i) u K:=by
  intro w' w'' cs i u K h hi hf q r;obtain⟨g,q'⟩:=q.wr i hi u;have c:Fr (λ b _=>b=c1.block) w' (w'.setCell (c1.add i) u):=(Fr.set w' (c1.add i) u).mono (λ b o _ hS=>by rw[hS.1,cT]);exact⟨⟨h,g⟩,r _ (hf.step c (λ _ _ x _=>x)) q'⟩
 obtain⟨a2,a3,a4,a5,a6,a7⟩:=h;refine st (w'':=w) 0 trivial (by simp[de]) (Fr.refl _ _) q (λ Q f1 q1=> ?_);refine st (w'':=w) 1 trivial (by simp[de]) f1 q1 (λ U c q2=> ?_);refine st (w'':=w) 2 a2 (by simp[de]) c q2 (λ W f3 q3=> ?_);refine st (w'':=w) 3 a3 (by simp[de]) f3 q3 (λ X f4 q4=> ?_);refine st (w'':=w) 4 a4 (by simp[de]) f4 q4 (λ Z f5 q5=> ?_);refine st (w'':=w) 5 a5 (by simp[de]) f5 q5 (λ w6 f6 q6=> ?_);refine st (w'':=w) 6 a6 (by simp[de]) f6 q6 (λ w7 f7 q7=> ?_);refine st (w'':=w) 7 a7 (by simp[de]) f7 q7 (λ w8 f8 q8=> ?_);exact r w8 q8 f8
end
theorem amV{α:Type}(a b c d:α):[a,b,c,d].Perm [c,b,d,a]:=by
 classical
 rw[oV];intro z;simp only[oW];omega
section
variable{w0 w w':ak}{ts us:List LT}{b0:Option Nat}{B rest l:Wd}{p po:OA}{cc co pt:Nat}{R g b ch dc d out:kd}{v:ay}{S:List Wd}{m:Wd->Option (List cQ)}{T:List (Wd×Wd×Nat)}{L Lr:List bI}{refs Rf:List Nat}{N:List Wd}{Vf:Wd->List Wd}{c0 c1 c2:kd}
def VW(v2 Q v4 U v6 v7:ay):Prop:=∃E h c2 G q c3 H r c4 I u c J x c6 K y c7,v2=aa E h c2/\Q=aa G q c3/\v4=aa H r c4/\U=aa I u c/\v6=aa J x c6/\v7=aa K y c7
theorem amW{w:ak}{a b c:OA}{K:ay->ak->Prop}(h:au ag 36 #[an a,an b,an c] w K):eJ ag (.func (.func 36) #[] #[an a,an b,an c]) #[] w K:=⟨36,_,by kernel_rfl,h⟩
theorem amX{v:ay}{K:OA->Nat->Nat->ak->Prop}(q:TS w0 ts w)(hv:v=aa p B.length cc)(h:cz w0 v B)(hB:B.length<=1073741824)
  (hk:∀y u w',TS w0 ts w'->(w.heap.size<=w'.heap.size/\∀b,aN (aa y B.length u)=some b->w.heap.size<=b)->cz w' (aa y B.length u) B->K y B.length u w'){Q:OA}{J I:Nat}(hs:Q=some ⟨w.heap.size,0,none⟩/\J=0/\I=0):
  aP ag (cM #[26,26] 26 #[aa Q J I,v]) (w.alloc (.cells #[] 5)) λ r w2=>az (ax r) λ p n c=>K p n c w2:=by
 obtain⟨rfl,rfl,rfl⟩:=hs;subst hv;have q1:=q.aH (bA w (.cells #[] 5));refine oi (enc:=fK) (l:=([]:Wd)) (m:=B) VV (va w 1 5) (aX.aH h q1.1) (by simp;omega) (by simp;omega) (λ y u U G Z x=> ?_);have H:aS w U:=Fr.new (bA w (.cells #[] 5)) Z (λ b o X=>by
  have h:some w.heap.size=some b:=X.1;cases h;exact bB _)
 have e:([]:Wd).length+B.length=B.length:=by simp
 rw[e] at G⊢;rw[e] at x;refine hk y u U (q.aH H) ⟨H.size,λ b h=> ?_⟩ G.cV;rcases x with W|⟨g,hg,E⟩
 ·rw[W] at h;cases h;exact bB _
 ·rw[hg] at h;cases h;simp at E;omega
theorem uY(G:cz w0 (aa p B.length cc) B)(hI:jV S L B Rf T)(c:Ad B S T refs Lr N Vf)(q:TS w0 (aJ c1 (de 0 0 ba ba ba ba ba ba)::aJ c2 [aQ false]::aJ c0 [aa p B.length cc]::ts) w):
  au ag 36 #[an (some c0),an (some c1),an (some c2)] w λ r w'=>∃v2 u v4 x v6 v7,VW v2 u v4 x v6 v7/\tv w.heap.size w' B S N Vf refs Lr v2 u v4 x v6 v7/\TS w0 (aJ c1 (de 2 (B.length:Int) v2 u v4 x v6 v7)::aJ c2 [aQ true]::aJ c0 [aa p B.length cc]::ts) w':=by
 have Z:=c.Bl;have lx:=c.sl;apply c36;unfold Ph;refine⟨_,_,Ju w,_,_,_,rfl, ?_⟩;have q1:=q.aH (bA w (.cells #[] 5));refine⟨_,_,_,q1.ei (a:=c0) (v:=aa p B.length cc) (by simp), ?_⟩;dsimp only;refine amX (p:=p) (cc:=cc) (B:=B) q rfl G (by omega) (λ p' c' w3 q3 lJ H=> ?_) ⟨rfl,rfl,rfl⟩;refine aF (k37 H hI c.ws (by omega) c.tb c.key) ?_;rintro _ w4 ⟨R,pt,rfl,hR,I,k4⟩;refine⟨_,_,rfl,_,rfl,_,rfl,_,λ w=>pK _ w,_,rfl,cJ rfl ?_⟩;refine aF (k38 (c.of hR I)) ?_;rintro _ w5 ⟨v2,u,v4,x,v6,v7,rfl,h,hU,k5⟩;have q5:=(q3.aH k4).aH k5;obtain⟨p2,n2,d2,p3,n3,d3,p4,n4,d4,p5,n5,d5,p6,n6,d6,p7,n7,d7,rfl,rfl,rfl,rfl,rfl,rfl⟩:=id h;refine⟨_,_,rfl,_,_,_,_,_,_,_,_,_,_,_,_,_,_,_,_,_,_,_,_,rfl,_,rfl, ?_⟩;have fj:c1.block<w.heap.size:=q.blt (t:=aJ c1 (de 0 0 ba ba ba ba ba ba)) (by simp) rfl;have kL:c2.block<w.heap.size:=q.blt (t:=aJ c2 [aQ false]) (by simp) rfl;have ko:=k4.size;refine KU (base:=0) q5 ⟨trivial,trivial,trivial,trivial,trivial,trivial⟩ (λ w6 q6 W=> ?_);have y:=hU.fr W (λ b o c=>by omega);obtain⟨J,U⟩:=q6.fq (pre:=[aJ c1 _]) (a:=c2) (cs:=[aQ false]) 0 (by simp) (aQ true);rw[add_zero] at J U;refine⟨⟨trivial,J⟩,_,_,_,_,_,_,h, ?_,U⟩;have E:=y.fr (Fr.set w6 c2 (aQ true)) (λ b o c=>by rw[c.1];omega);obtain⟨us,K,X⟩:=E;exact⟨us,λ t Q=>⟨(K t Q).1,λ b G=>by have:=(K t Q).2 b G;omega⟩,X⟩
theorem dj(G:cz w (aa p B.length cc) B)(hI:jV S L B Rf T)(E:Ad B S T refs Lr N Vf):
  au ag 10 #[aa p B.length cc] w λ r w'=>∃v2 Q v4 U v6 v7,r=aZ #[aV ⟨de 2 (B.length:Int) v2 Q v4 U v6 v7⟩,aQ true]/\VW v2 Q v4 U v6 v7/\rA w' B S N Vf refs Lr v2 Q v4 U v6 v7/\aS w w':=by
 apply c10;unfold v10;refine gf (cs:=[aa p B.length cc]) (by simp) (λ w1 o1 k1 z1=> ?_);have q1:=(TS.nil (Fr.refl _ w)).ob o1 k1 rfl (by omega);generalize (⟨w.heap.size,0,none⟩:kd)=c0 at q1⊢;refine gf (cs:=de 0 0 ba ba ba ba ba ba) (by simp[de]) (λ w2 o2 k2 z2=> ?_);have q2:=q1.ob o2 k2 rfl (by omega);generalize (⟨w1.heap.size,0,none⟩:kd)=c1 at q2⊢;refine gf (cs:=[aQ false]) (by simp) (λ w3 o3 k3 z3=> ?_);have H:=q2.ob o3 k3 rfl (by omega);generalize (⟨w2.heap.size,0,none⟩:kd)=c2 at H⊢;have fj:c1.block<w3.heap.size:=H.blt (t:=aJ c1 (de 0 0 ba ba ba ba ba ba)) (by simp) rfl;have kL:c2.block<w3.heap.size:=H.blt (t:=aJ c2 [aQ false]) (by simp) rfl;refine DT (λ w4 g k4 hg og=> ?_);have k4s:=k4.size;have J:=og.lt (by simp);have q4:TS w (aJ ⟨g,0,none⟩ [aQ false]::aJ c2 [aQ false]::aJ c1 (de 0 0 ba ba ba ba ba ba)::aJ c0 [aa p B.length cc]::[]) w4:=by
  have h:=H.aH k4;refine⟨h.1,λ t ht=> ?_,iF.2 ⟨λ u hu b G hub=> ?_,h.2.2⟩⟩
  ·rcases dX.1 ht with rfl|ht
   ·refine⟨og,λ b G=> ?_⟩;have gD:b=g:=G;have:=H.1.size;simp only at J;omega
   ·exact h.2.1 t ht
  ·have gD:b=g:=G;have:=((H.2.1 u hu).2 b hub).2;omega
 have q5:=q4.perm (us:=aJ c1 (de 0 0 ba ba ba ba ba ba)::aJ c2 [aQ false]::aJ c0 [aa p B.length cc]::[aJ ⟨g,0,none⟩ [aQ false]]) (amV _ _ _ _);refine amW (aF (uY G hI E q5) ?_);rintro _ w6 ⟨v2,Q,v4,U,v6,v7,K,hU,q6⟩;refine⟨q6.get (t:=aJ ⟨g,0,none⟩ [aQ false]) (by simp),λ w7 f7=>⟨_,rfl,aT rfl ?_⟩⟩;obtain⟨p2,n2,W,p3,n3,X,p4,n4,Z,p5,n5,d5,p6,n6,d6,p7,n7,d7,rfl,rfl,rfl,rfl,rfl,rfl⟩:=id K;simp only at J;have hU7:=hU.fr f7 (λ b o E=>by omega);have x:=(q6.perm (us:=aJ ⟨g,0,none⟩ [aQ false]::aJ c1 (de 2 (B.length:Int) (aa p2 n2 W) (aa p3 n3 X) (aa p4 n4 Z) (aa p5 n5 d5) (aa p6 n6 d6) (aa p7 n7 d7))::aJ c2 [aQ true]::[aJ c0 [aa p B.length cc]]) (gI (l₁:=[_,_,_]) (l₂:=[]))).ey (t':=KR (λ b=>b=g)) f7 (λ b o E=>E) trivial (λ b G=> .inl G);have x:=x.tail;refine⟨_,x.ei (a:=c2) (v:=aQ true) (by simp),aT rfl ?_⟩;unfold GQ;have c:∀{w':ak} {us},TS w us w'->aJ c1 (de 2 (B.length:Int) (aa p2 n2 W) (aa p3 n3 X) (aa p4 n4 Z) (aa p5 n5 d5) (aa p6 n6 d6) (aa p7 n7 d7))∈us->∀i {v},(de 2 (B.length:Int) (aa p2 n2 W) (aa p3 n3 X) (aa p4 n4 Z) (aa p5 n5 d5) (aa p6 n6 d6) (aa p7 n7 d7))[i]? =some v->at_ w' (c1.add i) v:=λ q hm i v hv=>q.at hm i hv
 refine⟨_,c x (by simp) 0 rfl,_,c x (by simp) 1 rfl,_,_,_,c x (by simp) 2 rfl,_,_,_,c x (by simp) 3 rfl,_,_,_,c x (by simp) 4 rfl,_,_,_,c x (by simp) 5 rfl,_,_,_,c x (by simp) 6 rfl,_,_,_,c x (by simp) 7 rfl, ?_⟩;have hu7:=f7.size;refine KU (base:=0) x ⟨trivial,trivial,trivial,trivial,trivial,trivial⟩ (λ w8 q8 f8=> ?_);have hU8:=hU7.fr f8 (λ b o E=>by omega);obtain⟨g9,y⟩:=q8.fq (pre:=[aJ c1 _]) (a:=c2) (cs:=[aQ true]) 0 (by simp) (aQ true);rw[add_zero] at g9 y;have I:=hU8.fr (Fr.set w8 c2 (aQ true)) (λ b o E=>by rw[E.1];omega);refine⟨⟨trivial,g9⟩, ?_⟩;generalize w8.setCell c2 _=w9 at y I⊢;refine⟨_,c y (by simp) 0 rfl,_,c y (by simp) 1 rfl,_,_,_,c y (by simp) 2 rfl,_,_,_,c y (by simp) 3 rfl,_,_,_,c y (by simp) 4 rfl,_,_,_,c y (by simp) 5 rfl,_,_,_,c y (by simp) 6 rfl,_,_,_,c y (by simp) 7 rfl,_,y.ei (a:=c2) (v:=aQ true) (by simp), ?_⟩;exact⟨_,_,_,_,_,_,rfl,K,I.get,y.1⟩
end
section
variable{S:List Wd}{L:List bI}{B:Wd}{R:List Nat}{T:List (Wd×Wd×Nat)}
def withRef(x:bI)(r:Nat):bI:=⟨r,x.labels,x.chunks⟩
def tw(L:List bI)(R:List Nat):List bI:=List.zipWith withRef L R
abbrev gR(L:List bI):List Wd:=ni (L.map (·.labels))
abbrev jw(L:List bI)(n:Wd):List Wd:=valuesOf (L.map (·.labels)) n
theorem dE.VX(h:dE S L){n v:Wd}:v∈jw L n↔∃x∈L,(n,v)∈x.labels:=by
 rw[CV (λ x c=>by
   obtain⟨y,q,rfl⟩:=dt.1 c;exact⟨h.names q,λ z u=>((h.fQ y q).2.2.1.1 z u).2⟩)]
 constructor
 ·rintro⟨x,c,r⟩;obtain⟨y,q,rfl⟩:=dt.1 c;exact⟨y,q,r⟩
 ·rintro⟨x,c,r⟩;exact⟨_,dt.2 ⟨x,c,rfl⟩,r⟩
theorem VY{n:Wd}:n∈gR L↔∃x∈L,∃v,(n,v)∈x.labels:=by
 rw[Sc];constructor
 ·rintro⟨x,h,c⟩;obtain⟨y,q,rfl⟩:=dt.1 h;exact⟨y,q,c⟩
 ·rintro⟨x,h,c⟩;exact⟨_,dt.2 ⟨x,h,rfl⟩,c⟩
theorem dE.D5(h:dE S L){n:Wd}(r:n∈gR L):n∈S/\n≠[]/\n.length<=200:=by
 obtain⟨x,q,v,c⟩:=VY.1 r;exact⟨(h.sym x q _ c).1,((h.fQ x q).2.2.1.1 _ c).1,((h.fQ x q).2.2.2 _ c).1⟩
theorem dE.KV(h:dE S L):(gR L).length<=200:=by
 have c:gR L⊆S:=λ n q=>(h.D5 q).1
 have r:(gR L).length<=S.length:=(ow (ox _:WS (gR L))).length_le_of_subset c;have:=h.sl;omega
theorem dE.VZ(h:dE S L)(n:Wd):(jw L n).length<=20:=by
 have c:(jw L n).length<=L.length:=by
  unfold jw valuesOf;refine eX (yQ _) (eX (List.length_filter_le _ _) ?_);simp
 have:=h.ll;omega
def lX(L:List bI):List (Wd×List Wd):=([],[[]])::(gR L).map λ n=>(n,jw L n)
theorem am1(L:List bI):(lX L).flatMap (λ b=>b.2.map λ v=>(b.1,v))=([],[])::kr L:=by
 unfold lX kr;rw[fG,List.flatMap_map];rfl
theorem dE.V0(h:dE S L):(∀b∈lX L,b.2≠[]/\b.2.length<=32)/\((lX L).map (·.1)).Nodup:=by
 refine⟨λ b q=> ?_, ?_⟩
 ·rcases dX.1 q with rfl|q
  ·simp
  ·obtain⟨n,r,rfl⟩:=dt.1 q;obtain⟨x,w,v,u⟩:=VY.1 r;have c:v∈jw L n:=h.VX.2 ⟨x,w,u⟩;have:=h.VZ n;refine⟨λ e=> ?_, ?_⟩
   ·have e:jw L n=[]:=e;rw[e] at c;cases c
   ·show(jw L n).length<=32;omega
 ·unfold lX;rw[hW,List.map_map,aq9];have e:(gR L).map ((·.1)∘λ n=>(n,jw L n))=gR L:=List.map_id _;rw[e];exact⟨λ c=>(h.D5 c).2.1 rfl,ow (ox _)⟩
theorem dE.am2(h:dE S L)(K:jV S L B R T):∃bs:ry,lz T=kA bs/\bs.map (λ b=>(b.1,b.2.map (·.1)))=lX L/\(∀b∈bs,g_ T b.1=some (tm b.2))/\∀n,n∉bs.map (·.1)->g_ T n=none:=by
 have e:(lz T).map (λ y=>(y.1,y.2.1))=(lX L).flatMap (λ b=>b.2.map λ v=>(b.1,v)):=by rw[akP,K.Iw,am1]
 obtain⟨bs,E,u⟩:=akQ (lX L) e;have c:bs.map (·.1)=(lX L).map (·.1):=by rw[<-u,List.map_map];rfl
 obtain⟨I,J⟩:=h.V0;have q:(bs.map (·.1)).Nodup:=by rw[c];exact J
 have w:∀b∈bs,b.2≠[]/\b.2.length<=32:=λ b w=>by
  have Q:(b.1,b.2.map (·.1))∈lX L:=by rw[<-u];exact dt.2 ⟨b,w,rfl⟩
  obtain⟨x,r⟩:=I _ Q;dsimp only at x r;rw[fu] at r;exact⟨λ e=>x (by rw[e];rfl),r⟩
 have N:g_ T=tn bs (λ _=>none):=by
  unfold g_ jv;rw[<-DZ T,fY,E];exact akN bs (s:=DW) (λ z U=>by cases U) w q (λ b _=>rfl)
 obtain⟨G,H⟩:=akO bs (f:=λ _=>none) q;rw[N];exact⟨bs,E,u,G,H⟩
theorem V1{bs pre post:ry}{b:Wd×List cQ}(h:lz T=kA bs)(G:bs=pre++b::post):(kA pre).length+b.2.length<=T.length/\
  ∀k (r:k<b.2.length) (c:(kA pre).length+k<T.length),(T[(kA pre).length+k]).1=b.1/\(T[(kA pre).length+k]).2.1=(b.2[k]).1/\iw T ((kA pre).length+k)=(b.2[k]).2:=by
 have e:lz T=kA pre++((b.2.map λ y=>(b.1,y))++kA post):=by
  rw[h,G];unfold kA;rw[jK,fG]
 have H:=congrArg fZ e;rw[DZ,aY,aY,fu] at H;refine⟨by omega,λ k r c=> ?_⟩;have u:=Ky c;rw[e,rE (by omega),tz,oT (by rw[fu];exact r),List.getElem?_map,gH r] at u;have q:=iW u;have w:=congrArg Prod.fst q;have x:=congrArg (λ y=>y.2.1) q;have E:=congrArg (λ y=>y.2.2) q;exact⟨w.symm,x.symm,E.symm⟩
theorem am3{bs:ry}{b:Wd×List cQ}{m:Wd->Option (List cQ)}(h:lz T=kA bs)(W:b∈bs)(Z:m b.1=some (tm b.2))(K:b.2≠[])(I:(b.2.map (·.1)).Nodup):∃i0,zZ T m b.1 i0 b.2.length (b.2.map (·.1)):=by
 obtain⟨pre,post,e⟩:=List.append_of_mem W;obtain⟨U,E⟩:=V1 h e;have c:=List.length_pos_iff.2 K;refine⟨(kA pre).length,c,U,λ k H=>(E k H (by omega)).1,by simp,λ k H=> ?_,I, ?_⟩
 ·rw[(E k H (by omega)).2.1,mJ]
 ·obtain⟨y,r,J⟩:=List.exists_cons_of_ne_nil K;have N:=(E 0 c (by omega)).2.2;have Q:(b.2[0]'c)=y:=by simp[J]
  rw[Q] at N;have q:∀(X:b.2.length-1<(b.2.map (·.1)).length),(b.2.map (·.1))[b.2.length-1]=((y::r).getLast (by simp)).1:=λ X=>by
   simp only[mJ,J];rw[List.getLast_eq_getElem]
  refine⟨y,r.getLast?.toList,by rw[Z,J];rfl,N.symm, ?_, ?_⟩
  ·cases r.getLast? <;>simp
  ·rw[q];cases G:r.getLast? with
   |none=>
    have:r=[]:=by simpa using G
    subst this;rfl
   |some u=>
    have w:r≠[]:=by rintro rfl;cases G
    have x:=List.getLast?_eq_some_getLast w;rw[G] at x;have x:=iW x;rw[List.getLast_cons w,<-x];rfl
end
section
variable{S:List Wd}{L:List bI}{B:Wd}{R:List Nat}{T:List (Wd×Wd×Nat)}
theorem am4:∀{l:eh},ia l->(bh l).length<=402*l.length:=by
 intro l;induction l with
 |nil=>intro _;simp[bh]
 |cons x l q=>
  intro h;have r:=h x (by simp);have u:=q (λ y c=>h y (by simp[c]));rw[kK,aY,aY,eK,eK,dH];omega
theorem dE.V2(h:dE S L){x:Wd×Wd}(q:x∈kr L):x.1≠[]/\x.1.length<=200/\x.2.length<=200:=by
 obtain⟨n,w,q⟩:=jJ.1 q;obtain⟨v,c,rfl⟩:=dt.1 q;obtain⟨y,u,c⟩:=h.VX.1 c;have r:=(h.fQ y u).2.2.2 _ c;exact⟨((h.fQ y u).2.2.1.1 _ c).1,r.1,r.2⟩
theorem KW(c:jV S L B R T){i:Nat}(hi:i<T.length):(i=0/\(T[i]).1=[]/\(T[i]).2.1=[])\/(0<i/\((T[i]).1,(T[i]).2.1)∈kr L):=by
 have h:(T.map λ t=>(t.1,t.2.1))[i]? =(([],[])::kr L)[i]? :=by rw[c.Iw]
 rw[List.getElem?_map,gH hi] at h;rcases i with _|i
 ·have h:=iW h;exact .inl ⟨rfl,congrArg Prod.fst h,congrArg Prod.snd h⟩
 ·have h:some ((T[i+1]).1,(T[i+1]).2.1)=(kr L)[i]? :=h;exact .inr ⟨by omega,List.mem_of_getElem? h.symm⟩
theorem Ae(c:R.length=L.length):(tw L R).length=L.length:=by
 unfold tw;rw[List.length_zipWith];omega
theorem am5(h:dE S L)(c:jV S L B R T):Ad B S T R (tw L R) (gR L) (jw L):=by
 obtain⟨bs,jE,u,W,yB⟩:=h.am2 c;have oD:T.length=(kr L).length+1:=by
  have:=congrArg fZ c.Iw;rw[fu,dH] at this;exact this
 have sU:=h.U0;have iP:=h.sl;have jF:=h.ll;have gQ:=c.len;have X:∀b∈bs,(b.1,b.2.map (·.1))∈lX L:=λ b J=>by rw[<-u];exact dt.2 ⟨b,J,rfl⟩
 have G:∀y∈lX L,∃b∈bs,b.1=y.1/\b.2.map (·.1)=y.2:=λ y hy=>by
  rw[<-u] at hy;obtain⟨b,J,rfl⟩:=dt.1 hy;exact⟨b,J,rfl,rfl⟩
 have H:∀k,(g_ T k).isSome->k=[]\/k∈gR L:=λ k Z=>by
  by_cases w:k∈bs.map (·.1)
  ·obtain⟨b,J,rfl⟩:=dt.1 w;rcases dX.1 (X b J) with e|e
   ·exact .inl (congrArg Prod.fst e)
   ·obtain⟨n,Q,e⟩:=dt.1 e;have q:n=b.1:=congrArg Prod.fst e;rw[<-q];exact .inr Q
  ·rw[yB k w] at Z;cases Z
 have E:0<T.length:=by omega
 have K:(T[0]).1=[]/\(T[0]).2.1=[]:=by
  rcases KW c E with h|h
  ·exact h.2
  ·omega
 refine⟨⟨by omega,λ t ht=> ?_,λ i hi h0=> ?_,λ h0=>K.1⟩,gQ,h.ws,by omega,λ k Z=> ?_,⟨ox _,by have:=h.KV;omega,λ n=>⟨λ Q=>⟨(h.D5 Q).2.1, ?_⟩,λ Q=>(H n Q.2).resolve_left Q.1⟩⟩,λ n Q=> ?_, ?_, ?_,by rw[c.yS];omega,λ x hx=>(c.fT x hx).2, ?_⟩
 ·obtain⟨i,hi,rfl⟩:=List.mem_iff_getElem.1 ht;have hp:=(c.post _ ht).1;rcases KW c hi with⟨_,q,I⟩|⟨_,w⟩
  ·rw[q,I];exact⟨by simp,by simp,by omega⟩
  ·have:=h.V2 w;dsimp only at this;exact⟨by omega,by omega,by omega⟩
 ·rcases KW c hi with⟨e,_⟩|⟨_,w⟩
  ·omega
  ·exact(h.V2 w).1
 ·rcases H k Z with e|e
  ·exact .inl e
  ·exact .inr (h.D5 e).1
 ·obtain⟨b,J,q,_⟩:=G (n,jw L n) (jI _ (dt.2 ⟨n,Q,rfl⟩));have q:b.1=n:=q;rw[<-q,W b J];rfl
 ·have w:(n,jw L n)∈lX L:=jI _ (dt.2 ⟨n,Q,rfl⟩);obtain⟨b,J,q,I⟩:=G _ w;have q:b.1=n:=q;have I:b.2.map (·.1)=jw L n:=I;have eY:b.2≠[]:=λ e=>by
   have:=(h.V0.1 _ w).1;rw[e] at I;exact this I.symm
  obtain⟨i0,Z⟩:=am3 jE J (W b J) eY (by rw[I];exact ow (ox _));rw[q,I] at Z;exact⟨i0,_,Z⟩
 ·cases N:bs with
  |nil=>rw[N] at u;cases u
  |cons b bs'=>
   rw[N] at u;have e:=List.head_eq_of_cons_eq u;have q:b.1=[]:=congrArg Prod.fst e;have I:b.2.map (·.1)=[[]]:=congrArg Prod.snd e;obtain⟨y,hy,Kx⟩:=List.map_eq_singleton_iff.1 I;have w:=W b (by rw[N];simp);obtain⟨_,hp⟩:=V1 (pre:=[]) (post:=bs') jE (by rw[N];rfl);have U:=(hp 0 (by rw[hy];simp) (by show 0+0<_;omega)).2.2;rw[q,hy] at w;rw[w];have e5:(b.2[0]'(by rw[hy];simp))=y:=by simp[hy]
   rw[e5] at U;have U:iw T 0=y.2:=U;rw[U];have:y=([],y.2):=Prod.ext Kx rfl
   conv=>lhs;rw[this]
   rfl
 ·obtain⟨sE,r,uH⟩:=c.post _ (iy E);refine⟨(T[0]).2.2,r,⟨E, ?_⟩, ?_,by omega⟩
  ·exact Prod.ext K.1 (Prod.ext K.2 rfl)
  ·unfold yR at uH;rw[if_pos K.1] at uH;exact uH
 ·refine⟨by rw[Ae c.yS,c.yS],λ j h1 h2=> ?_⟩;have hj:j<L.length:=by rw[Ae c.yS] at h1;exact h1
  have e:(tw L R)[j]=withRef L[j] R[j]:=List.getElem_zipWith;obtain⟨a1,a2,a3,a4⟩:=h.fQ _ (iy hj);obtain⟨r,hr,_⟩:=c.ser j hj h2;have sJ:=am4 a4;rw[e];exact⟨rfl,(c.fT _ (iy h2)).2,⟨⟨a1,a2⟩,a4,h.sym L[j] (iy hj),h.gk L[j] (iy hj)⟩,by show(bh L[j].labels).length<=_;omega,r,hr⟩
end
section
variable{w0 w w':ak}{ts us:List LT}{p:OA}{cc:Nat}{f g:kd}{r:Option Nat}{l:List Nat}{v x:ay}
theorem k53{refs:List Nat}(q:TS w0 ts w)(Q:ie cO 1 (aa p refs.length cc) refs∈ts)(hl:refs.length<=1000):
  au ag 53 #[aa p refs.length cc] w λ r w'=>TS w0 (aO cO 1 r refs::ts) w':=by
 apply YH;unfold v53;have W:=q.new (t:=aO cO 1 ba ([]:List Nat)) (Fr.refl _ _) (Own.nil _ _) (λ b K=>by cases K);refine YG (λ P k C U R I X Z w'=>p=U/\R=refs.length/\cc=I/\X=(refs.length:Int)/\Z=(k:Int)/\k<=refs.length/\TS w0 (aO cO 1 (aa P k C) (refs.take k)::ts) w') (λ _ k _ _ _ _ _ _ _=>refs.length-k) ⟨rfl,rfl,rfl,rfl,rfl,dO _,W⟩ ?_;rintro P k C _ _ _ _ _ H ⟨rfl,rfl,rfl,rfl,rfl,hk,c⟩;unfold FO;refine bn (λ h=> ?_) (λ h=> ?_)
 ·have y:k<refs.length:=by simp at h;omega
  have E:Sl cO 1 H (aa p refs.length cc) refs:=c.get (t:=ie cO 1 (aa p refs.length cc) refs) (jI _ Q);refine Sl.ix (enc:=cO) (z:=1) (l:=refs) (λ _=>rfl) (by omega) E (by omega) (by omega) (λ a _ J=>⟨_,by
   have:=J 0 _ rfl;rwa[add_zero] at this, ?_⟩)
  have u:(refs.take k).length=k:=by rw[fS];omega
  have e:refs[((k:Nat):Int).toNat]'(by simp;omega)=refs[k]:=by congr 1
  rw[e];refine c.kB KK (x:=refs[k]) (KL _ H) (by omega) (by omega) (λ p6 c6 w6 G _=> ?_);rw[u] at G⊢;rw[<-jm y] at G;rw[show aq af ((k:Int)+1)=((k+1:Nat):Int) by rw[bk (by omega) (by omega)];omega];exact⟨⟨rfl,rfl,rfl,rfl,rfl,by omega,G⟩,by omega⟩
 ·have N:k=refs.length:=by simp at h;omega
  subst N;rw[fY] at c;exact c
def dG(f:kd)(r:Option Nat)(l:List Nat)(cur:Nat):LT:=
 ⟨λ b=>b=f.block\/r=some b,λ w=>∃v,Ob w f [v,ah aj (cur:Int)]/\Sl cO 1 w v l/\aN v=r/\r≠some f.block,by
  rintro S w w'⟨v,E,G,q,H⟩u y;exact⟨v,E.fr u (λ o _ _ h=>y _ o h (.inl rfl)),aX.fr G u (λ a l c e o _ _ h=>y a.block o h (.inr (by rw[<-q,e];rfl))),q,H⟩⟩
theorem k52{refs:List Nat}(q:TS w0 (aO cO 1 x refs::ts) w):au ag 52 #[x] w λ r w'=>∃f b,r=cG 208 (an (some f))/\TS w0 (dG f b refs 0::ts) w':=by
 have u:cP cO 1 w x refs:=q.get (t:=aO cO 1 x refs) (by simp);obtain⟨p,c,rfl,_⟩:=aX.ex u.cV;apply Yz;unfold MT;refine aF (YA (K:=λ r w'=>∃f,r=an (some f)/\∃b,TS w0 (dG f b refs 0::ts) w') ?_) ?_
 ·unfold MU;refine gf (cs:=[aa p refs.length c,ah aj ((0:Nat):Int)]) (by simp) (λ I G y J=>⟨_,rfl,aN (aa p refs.length c), ?_⟩);have h:∀b,aN (aa p refs.length c)=some b->b<w.heap.size:=λ b e=>u.lt e
  refine q.ey (t':=dG ⟨w.heap.size,0,none⟩ (aN (aa p refs.length c)) refs 0) y (λ b o E=>E.elim) ⟨_,G,aX.aH u.cV y,rfl,λ e=>by have:=h _ e;simp only at this;omega⟩ (λ b h=> ?_);rcases h with e|e
  ·refine .inr ?_;have e:b=w.heap.size:=e;omega
  ·exact .inl e
 ·rintro _ I ⟨f,rfl,b,H⟩;exact⟨_,rfl,f,b,rfl,H⟩
theorem KX{K:ay->ak->Prop}(h:au ag 322 #[an (some f)] w K):cS ag (cG 208 (an (some f))) "Next" #[] w K:=⟨322,_,by kernel_rfl,h⟩
theorem am_{K:ay->ak->Prop}(h:au ag 319 #[an (some f)] w K):cS ag (cG 208 (an (some f))) "At" #[] w K:=⟨319,_,by kernel_rfl,h⟩
theorem V3{K:ay->ak->Prop}(h:au ag 320 #[an (some f)] w K):cS ag (cG 208 (an (some f))) "Err" #[] w K:=⟨320,_,by kernel_rfl,h⟩
theorem am'{cur:Nat}(q:TS w0 us w)(h:dG f r l cur∈us):au ag 319 #[an (some f)] w λ r w'=>r=ah aj (cur:Int)/\w'=w:=by
 obtain⟨v,c,_⟩:=q.get h;exact YC ⟨_,c.at 1 rfl,rfl,rfl⟩
theorem ana{cur:Nat}(q:TS w0 (dG f r [] cur::ts) w):au ag 322 #[an (some f)] w λ r' w'=>r'=aQ false/\TS w0 (dG f r [] 0::ts) w':=by
 obtain⟨v,h,y,E,G⟩:=q.get (t:=dG f r [] cur) (by simp);obtain⟨p,c,rfl,_⟩:=aX.ex y;apply MW;unfold FM;have u:=h.at 0 rfl;rw[add_zero] at u;refine⟨_,_,_,u,aT rfl ⟨⟨trivial,h.can 1 (by simp)⟩,rfl, ?_⟩⟩;have J:=Fr.set w (f.add 1) (ah aj 0);refine q.ey (t':=dG f r [] 0) J (λ b o H=>by rw[H.1,cT];exact .inl rfl) ⟨_,h.set 1 (by simp) (ah aj 0),aX.nil _ _ _ _,E,G⟩ (λ b I=> .inl I)
theorem V4{cur n:Nat}(q:TS w0 (dG f r (n::l) cur::ts) w)(hl:l.length<=1000):au ag 322 #[an (some f)] w λ r' w'=>r'=aQ true/\TS w0 (dG f r l n::ts) w':=by
 obtain⟨v,H,I,J,K⟩:=q.get (t:=dG f r (n::l) cur) (by simp);obtain⟨p,c,rfl,hc⟩:=aX.ex I;apply MW;unfold FM;have G:=H.at 0 rfl;rw[add_zero] at G;refine⟨_,_,_,G,cJ (by rw[decide_eq_true_iff,dH];omega) ⟨_,_,_,G, ?_⟩⟩;refine Sl.ix (enc:=cO) (z:=1) (l:=n::l) (λ _=>rfl) (by omega) I (by omega) (by rw[dH];omega) (λ a _ ha=>⟨_,by
  have:=ha 0 _ rfl;rwa[add_zero] at this,⟨trivial,H.can 1 (by simp)⟩, ?_⟩)
 have Q:=H.set 1 (by simp) (ah aj (n:Int));have R:=Fr.set w (f.add 1) (ah aj (n:Int));have y:=Q.at 0 rfl;rw[add_zero] at y;have s2:Sl cO 1 (w.setCell (f.add 1) (ah aj (n:Int))) (aa p (n::l).length c) (n::l):=aX.fr I R (λ a l' Z e o _ _ h=>K (by rw[<-J,e];have:=h.1;rw[cT] at this;rw[<-this];rfl));refine⟨_,_,_,y,_,λ w=>gV (e:=113) (by kernel_rfl) (z:=1) (by kernel_rfl) p _ c 1 _ (by rw[dH];omega) hc _ none (.inr ⟨_,rfl⟩) (.inl ⟨rfl,rfl⟩) w,_,_,_,rfl, ?_⟩;have u:=Q.can 0 (by simp);rw[add_zero] at u;refine⟨⟨trivial,u⟩,rfl, ?_⟩;have X:=Q.set 0 (by simp) (aa (C4 p 1 c 1) ((n::l).length-1) (c-1));rw[add_zero] at X;have U:=Fr.set (w.setCell (f.add 1) (ah aj (n:Int))) f (aa (C4 p 1 c 1) ((n::l).length-1) (c-1));have E:Fr (λ b _=>b=f.block) w ((w.setCell (f.add 1) (ah aj (n:Int))).setCell f (aa (C4 p 1 c 1) ((n::l).length-1) (c-1))):=(R.mono (λ b o _ h=>by rw[h.1,cT])).step (U.mono (λ b o _ h=>h.1)) (λ _ _ x _=>x);refine q.ey (t':=dG f r l n) E (λ b o h=> .inl h) ⟨_,X, ?_,(mg _ _ _ _ _ _ _).trans J,K⟩ (λ b hb=> .inl hb);have W:=aX.sub s2 1 (n::l).length (by rw[dH];omega) (bB _);have e:(((n::l).flatMap cO).drop (1*1)).take (((n::l).length-1)*1)=l.flatMap cO:=by
  rw[fG];show((l.flatMap cO).take _)=_;rw[lD];rw[kF (enc:=cO) (z:=1) (λ _=>rfl),dH];omega
 rw[e] at W;have N:=aX.fr W U (λ a l' Z e o _ _ h=>K (by
  have e2:aN (aa (C4 p 1 c 1) ((n::l).length-1) (c-1))=some a.block:=by rw[e];rfl
  rw[<-J,<-mg p 1 c ((n::l).length-1) (c-1) (n::l).length c,e2,h.1]))
 exact N
end
section
variable{w0 w w':ak}{ts us:List LT}{p:OA}{cc:Nat}{f g rm:kd}{r r':Option Nat}{l l':List Nat}{v x:ay}{o t:LT}
def gh(f g:kd)(cur:Nat)(i a b:Bool):List ay:=[cG 208 (an (some f)),cG 208 (an (some g)),ah aj (cur:Int),aQ i,aQ a,aQ b]
theorem V5{K:ay->ak->Prop}{cur n:Nat}(q:TS w0 (o::dG f r (n::l) cur::ts) w)(h:l.length<=1000)(c:∀w',TS w0 (o::dG f r l n::ts) w'->K (aQ true) w'):cS ag (cG 208 (an (some f))) "Next" #[] w K:=
 KX (aF (V4 (q.perm (d_ _ _ _)) h) (by rintro _ w' ⟨rfl,u⟩;exact c w' (u.perm (d_ _ _ _))))
theorem anb{K:ay->ak->Prop}{cur:Nat}(q:TS w0 (o::dG f r [] cur::ts) w)(c:∀w',TS w0 (o::dG f r [] 0::ts) w'->K (aQ false) w'):cS ag (cG 208 (an (some f))) "Next" #[] w K:=
 KX (aF (ana (q.perm (d_ _ _ _))) (by rintro _ w' ⟨rfl,h⟩;exact c w' (h.perm (d_ _ _ _))))
theorem onG{K:ay->ak->Prop}{cur n:Nat}(q:TS w0 (o::t::dG g r (n::l) cur::ts) w)(h:l.length<=1000)(c:∀w',TS w0 (o::t::dG g r l n::ts) w'->K (aQ true) w'):cS ag (cG 208 (an (some g))) "Next" #[] w K:=
 KX (aF (V4 (q.perm (gI (l₁:=[o,t]))) h) (by rintro _ w' ⟨rfl,u⟩;exact c w' (u.perm (gI (l₁:=[o,t])).symm)))
theorem D6{K:ay->ak->Prop}{cur:Nat}(q:TS w0 us w)(h:dG f r l cur∈us)(c:K (ah aj (cur:Int)) w):cS ag (cG 208 (an (some f))) "At" #[] w K:=
 am_ (aF (am' q h) (by rintro _ w' ⟨rfl,rfl⟩;exact c))
def KY(w:ak)(rm:kd):Nat:=match w.cell? (rm.add 4) with|some (aQ true)=>1|_=>0
theorem V6{b:Bool}(h:at_ w (rm.add 4) (aQ b)):KY w rm=if b then 1 else 0:=by
 have h:w.cell? (rm.add 4)=some (aQ b):=h;unfold KY;rw[h];cases b<;>rfl
theorem ane(q:TS w0 (aJ rm (gh f g 0 false false false)::dG f r [1,2] 0::dG g r' [2] 0::ts) w):
  au ag 360 #[an (some rm)] w λ x w'=>x=aQ true/\TS w0 (aJ rm (gh f g 1 true true true)::dG f r [] 2::dG g r' [] 2::ts) w':=by
 apply MS;unfold FK;have u:∀{w:ak} {us} {c i a b},TS w0 us w->aJ rm (gh f g c i a b)∈us->at_ w rm (cG 208 (an (some f)))/\at_ w (rm.add 1) (cG 208 (an (some g)))/\at_ w (rm.add 3) (aQ i)/\at_ w (rm.add 4) (aQ a)/\at_ w (rm.add 5) (aQ b):=λ q y=>⟨by
  have:=q.at y 0 rfl;rwa[add_zero] at this,q.at y 1 rfl,q.at y 3 rfl,q.at y 4 rfl,q.at y 5 rfl⟩
 obtain⟨h,E,G,H,I⟩:=u q (c:=0) (i:=false) (a:=false) (b:=false) (by simp);refine⟨_,G,cJ rfl ⟨_,h,V5 q (by simp) (λ w1 q1=>⟨_,rfl, ?_⟩)⟩⟩;obtain⟨g2,J⟩:=q1.wr 4 (by simp[gh]) (aQ true);refine⟨⟨trivial,g2⟩, ?_⟩;have J:TS w0 (aJ rm (gh f g 0 false true false)::dG f r [2] 1::dG g r' [2] 0::ts) (w1.setCell (rm.add 4) (aQ true)):=J;obtain⟨h,E,G,H,I⟩:=u J (c:=0) (i:=false) (a:=true) (b:=false) (by simp);refine⟨_,E,onG J (by simp) (λ w3 q3=>⟨_,rfl, ?_⟩)⟩;obtain⟨g4,q4⟩:=q3.wr 5 (by simp[gh]) (aQ true);refine⟨⟨trivial,g4⟩, ?_⟩;obtain⟨g5,K⟩:=q4.wr 3 (by simp[gh]) (aQ true);refine⟨⟨trivial,g5⟩, ?_⟩;generalize nI _ (rm.add 3) _=w5 at K⊢;have K:TS w0 (aJ rm (gh f g 0 true true true)::dG f r [2] 1::dG g r' [] 2::ts) w5:=K;unfold wV;refine MR (λ c w'=>rm=c/\TS w0 (aJ rm (gh f g 0 true true true)::dG f r [2] 1::dG g r' [] 2::ts) w') (λ _ _=>0) ⟨rfl,K⟩ ?_;rintro _ w6 ⟨rfl,X⟩;unfold wU;obtain⟨h,E,G,H,I⟩:=u X (c:=0) (i:=true) (a:=true) (b:=true) (by simp);have N:=X.drew;obtain⟨Z,b1,b3,b4,b5⟩:=u N (c:=0) (i:=true) (a:=true) (b:=true) (by simp);refine⟨_,H,aT rfl ⟨_,I,aT rfl ⟨_,Z,_,b1,D6 (r:=r) (l:=[2]) (cur:=1) N (by simp) ⟨_,rfl,b1,D6 (r:=r') (l:=[]) (cur:=2) N (by simp) ⟨_,rfl,cJ rfl ?_⟩⟩⟩⟩⟩;obtain⟨g8,Q⟩:=N.wr 2 (by simp[gh]) (ah aj ((1:Nat):Int));refine⟨⟨trivial,g8⟩, ?_⟩;generalize U:nI _ (rm.add 2) _=w8;have Q:TS w0 (aJ rm (gh f g 1 true true true)::dG f r [2] 1::dG g r' [] 2::ts) w8:=by rw[<-U];exact Q
 obtain⟨h,E,G,H,I⟩:=u Q (c:=1) (i:=true) (a:=true) (b:=true) (by simp);refine⟨_,h,V5 Q (by simp) (λ w9 q9=>⟨_,rfl, ?_⟩)⟩;obtain⟨R,W⟩:=q9.wr 4 (by simp[gh]) (aQ true);exact⟨⟨trivial,R⟩,rfl,W⟩
theorem anf(q:TS w0 (aJ rm (gh f g 1 true true true)::dG f r [] 2::dG g r' [] 2::ts) w):
  au ag 360 #[an (some rm)] w λ x w'=>x=aQ false/\TS w0 (aJ rm (gh f g 1 true false true)::dG f r [] 0::dG g r' [] 2::ts) w':=by
 apply MS;unfold FK;have u:∀{w:ak} {us} {c i a b},TS w0 us w->aJ rm (gh f g c i a b)∈us->at_ w rm (cG 208 (an (some f)))/\at_ w (rm.add 1) (cG 208 (an (some g)))/\at_ w (rm.add 3) (aQ i)/\at_ w (rm.add 4) (aQ a)/\at_ w (rm.add 5) (aQ b):=λ q y=>⟨by
  have:=q.at y 0 rfl;rwa[add_zero] at this,q.at y 1 rfl,q.at y 3 rfl,q.at y 4 rfl,q.at y 5 rfl⟩
 obtain⟨K,N,I,h,J⟩:=u q (c:=1) (i:=true) (a:=true) (b:=true) (by simp);refine⟨_,I,aT rfl ?_⟩;unfold wV;refine MR (λ c w'=>rm=c/\(TS w0 (aJ rm (gh f g 1 true true true)::dG f r [] 2::dG g r' [] 2::ts) w'\/TS w0 (aJ rm (gh f g 1 true false true)::dG f r [] 0::dG g r' [] 2::ts) w')) (λ c w=>KY w c) ⟨rfl, .inl q⟩ ?_;rintro _ w6 ⟨rfl,E|E⟩
 ·unfold wU;obtain⟨K,N,I,h,J⟩:=u E (c:=1) (i:=true) (a:=true) (b:=true) (by simp);have R:=V6 h;have G:=E.drew;obtain⟨Q,b1,Z,b4,b5⟩:=u G (c:=1) (i:=true) (a:=true) (b:=true) (by simp);refine⟨_,h,aT rfl ⟨_,J,aT rfl ⟨_,Q,_,b1,D6 (r:=r) (l:=[]) (cur:=2) G (by simp) ⟨_,rfl,b1,D6 (r:=r') (l:=[]) (cur:=2) G (by simp) ⟨_,rfl,aT rfl (aT rfl ⟨_,Q,anb G (λ X W=>⟨_,rfl, ?_⟩)⟩)⟩⟩⟩⟩⟩;obtain⟨U,H⟩:=W.wr 4 (by simp[gh]) (aQ false);refine⟨⟨trivial,U⟩,⟨rfl, .inr H⟩, ?_⟩;have H:TS w0 (aJ rm (gh f g 1 true false true)::dG f r [] 0::dG g r' [] 2::ts) (X.setCell (rm.add 4) (aQ false)):=H;rw[V6 (u H (c:=1) (i:=true) (a:=false) (b:=true) (by simp)).2.2.2.1,R];decide
 ·unfold wU;obtain⟨K,N,I,h,J⟩:=u E (c:=1) (i:=true) (a:=false) (b:=true) (by simp);exact⟨_,h,cJ rfl ⟨rfl,E⟩⟩
end
section
variable{w0 w w':ak}{ts us:List LT}{p:OA}{cc:Nat}{f g rm:kd}{r r':Option Nat}{l l':List Nat}{v x:ay}{o t:LT}
theorem V7{K:ay->ak->Prop}(h:au ag 360 #[an (some rm)] w K):cS ag (cG 319 (an (some rm))) "Next" #[] w K:=⟨360,_,by kernel_rfl,h⟩
theorem ang{K:ay->ak->Prop}(h:au ag 358 #[an (some rm)] w K):cS ag (cG 319 (an (some rm))) "At" #[] w K:=⟨358,_,by kernel_rfl,h⟩
theorem anh{K:ay->ak->Prop}(h:au ag 359 #[an (some rm)] w K):cS ag (cG 319 (an (some rm))) "Err" #[] w K:=⟨359,_,by kernel_rfl,h⟩
theorem ani{c:Nat}{i a b:Bool}(q:TS w0 us w)(u:aJ rm (gh f g c i a b)∈us):au ag 359 #[an (some rm)] w λ x w'=>x=aA/\w'=w:=by
 have h:=q.at u 0 rfl;rw[add_zero] at h;apply Yy;unfold MP;refine⟨_,h,V3 (MV ⟨_,rfl,_,λ w=>cE _ w,_,rfl,aT rfl ⟨_,q.at u 1 rfl,V3 (MV ⟨_,rfl,rfl,rfl⟩)⟩⟩)⟩
theorem anj(q:TS w0 (aJ rm (gh f g 0 false false false)::dG f r [1,2] 0::dG g r' [2] 0::ts) w):
  au ag 141 #[cG 319 (an (some rm))] w λ y w'=>∃x,y=aZ #[x,aA]/\TS w0 (aO cO 1 x [1]::ts) w':=by
 apply MZ;unfold v141;have I:=q.new (t:=aO cO 1 ba ([]:List Nat)) (Fr.refl _ _) (Own.nil _ _) (λ b H=>by cases H);refine MY (λ u P k C w'=>cG 319 (an (some rm))=u/\((k=0/\TS w0 (aO cO 1 (aa P k C) []::aJ rm (gh f g 0 false false false)::dG f r [1,2] 0::dG g r' [2] 0::ts) w')\/(k=1/\TS w0 (aO cO 1 (aa P k C) [1]::aJ rm (gh f g 1 true true true)::dG f r [] 2::dG g r' [] 2::ts) w'))) (λ _ _ k _ _=>1-k) ⟨rfl, .inl ⟨rfl,I⟩⟩ ?_;rintro _ P k C Q ⟨rfl,⟨rfl,E⟩|⟨rfl,E⟩⟩
 ·unfold wW;refine V7 (aF (ane (E.perm (gI (l₁:=[_,_,_]) (l₂:=ts)).symm)) ?_);rintro _ G ⟨rfl,h⟩;refine⟨_,rfl,cJ rfl (ang (Yx ⟨_,h.at (a:=rm) (cs:=gh f g 1 true true true) (by simp) 2 rfl,_,rfl, ?_⟩))⟩;have J:=h.perm (gI (l₁:=[_,_,_]) (l₂:=ts));refine J.kB KK (x:=1) (KL 1 G) (by simp) (by simp) (λ N c6 U K _=> ?_);exact⟨⟨rfl, .inr ⟨rfl,K⟩⟩,by simp⟩
 ·unfold wW;refine V7 (aF (anf (E.perm (gI (l₁:=[_,_,_]) (l₂:=ts)).symm)) ?_);rintro _ G ⟨rfl,h⟩;refine⟨_,rfl,aT rfl (anh (aF (ani (f:=f) (g:=g) (c:=1) (i:=true) (a:=false) (b:=true) h (by simp)) ?_))⟩;rintro _ R ⟨rfl,rfl⟩;exact⟨_,rfl,_,rfl,h.tail.tail.tail⟩
theorem ank(q:TS w0 (aJ rm (gh f g 0 false false false)::dG f r [1,2] 0::dG g r' [2] 0::ts) w):
  au ag 67 #[cG 319 (an (some rm))] w λ y w'=>∃x,y=aZ #[x,aQ true]/\TS w0 (aO cO 1 x [1]::ts) w':=by
 apply MG;unfold FI;refine aF (anj q) ?_;rintro _ H ⟨x,rfl,h⟩;have G:cP cO 1 H x [1]:=h.get (t:=aO cO 1 x [1]) (by simp);obtain⟨p,cc,rfl,_⟩:=aX.ex G.cV;refine⟨_,_,rfl,_,_,_,rfl,_,rfl,_,λ w=>cE _ w,_,rfl,aT rfl ?_⟩;refine aF (VB h (by simp)) ?_;rintro y I u;have c:cP cO 1 I y [1]:=u.get (t:=aO cO 1 y [1]) (by simp);obtain⟨J,E,rfl,_⟩:=aX.ex c.cV;exact⟨_,_,_,rfl,_,rfl,u.sub (.cons_cons _ (.cons _ (lE _)))⟩
theorem anl{refs:List Nat}(q:TS w0 ts w)(c:ie cO 1 (aa p refs.length cc) refs∈ts)(J:refs.length<=1000):
  au ag 68 #[aV #[ah af 0,aa p refs.length cc,ba]] w λ y w'=>∃f b,y=cG 208 (an (some f))/\TS w0 (dG f b refs 0::ts) w':=by
 apply MN;unfold FJ;refine gf (cs:=[ah af 0,aa p refs.length cc,ba]) (by simp) (λ X R N z1=> ?_);have u:=q.ob R N rfl (by omega);generalize (⟨w.heap.size,0,none⟩:kd)=s at u⊢;have h:∀{w:ak} {us},TS w0 us w->aJ s [ah af 0,aa p refs.length cc,ba]∈us->at_ w s (ah af 0)/\at_ w (s.add 1) (aa p refs.length cc)/\at_ w (s.add 2) ba:=λ q c=>⟨by
  have:=q.at c 0 rfl;rwa[add_zero] at this,q.at c 1 rfl,q.at c 2 rfl⟩
 refine⟨_,_,_,(h u (by simp)).2.2, ?_⟩;refine MM (λ s' t P n C I Q H a b w'=>s=s'/\a=0/\b=0/\TS w0 (aJ s [ah af 0,aa p refs.length cc,ba]::ts) w') (λ _ _ _ _ _ _ _ _ _ _ _=>0) ⟨rfl,rfl,rfl,u⟩ ?_;rintro _ t P n C I Q H _ _ Z ⟨rfl,rfl,rfl,E⟩;unfold tU;refine aT rfl ⟨_,(h E (by simp)).1,cJ rfl ⟨_,_,_,(h E (by simp)).2.1,aF (k53 E.tail c J) ?_⟩⟩;rintro x W G;have K:cP cO 1 W x refs:=G.get (t:=aO cO 1 x refs) (by simp);obtain⟨xp,xc,rfl,_⟩:=aX.ex K.cV;refine⟨_,_,_,rfl,aF (k52 G) ?_⟩;rintro _ w4 ⟨f,b,rfl,U⟩;exact⟨_,rfl,f,b,rfl,U⟩
theorem V8{w:ak}:au ag 143 #[] w λ r w'=>r=cG 312 (aV #[aA])/\w'=w:=ac2 ⟨rfl,rfl⟩
theorem anm(q:TS w0 ts w):au ag 146 #[cG 208 (an (some f)),cG 208 (an (some g))] w λ y w'=>∃rm,y=cG 319 (an (some rm))/\TS w0 (aJ rm (gh f g 0 false false false)::ts) w':=by
 apply Yu;unfold v146;refine aF V8 ?_;rintro _ c ⟨rfl,rfl⟩;refine⟨_,rfl,aQ false,λ w=>by kernel_rfl,_,rfl,aT rfl (aF V8 ?_)⟩;rintro _ c ⟨rfl,rfl⟩;refine⟨_,rfl,aQ false,λ w=>by kernel_rfl,_,rfl,aT rfl ?_⟩;refine aF (Yv (K:=λ y w'=>∃rm,y=an (some rm)/\TS w0 (aJ rm (gh f g 0 false false false)::ts) w') ?_) ?_
 ·unfold MO;refine D4 (D4 ?_);exact gf (cs:=gh f g 0 false false false) (by simp[gh]) (λ c u h H=>⟨_,rfl,q.ob u h rfl (by omega)⟩)
 ·rintro _ G ⟨rm,rfl,E⟩;exact⟨_,rfl,rm,rfl,E⟩
end
def kO(t:dg):List ay:=[ah af 0,b9 t,ba]
def oK(f:kd):List ay:=[cG 208 (an (some f))]
theorem V9:gW ag 242 117 oK 1 16 [aA]:=
 ⟨⟨by kernel_rfl,by kernel_rfl,rfl,by decide⟩,λ _=>rfl,λ x u c=>by simp[oK] at c;subst c;rfl⟩
theorem V_(x:kd)(w:ak):(bw 242 1 #[(0,cG 208 (an (some x)))]).run ag w= .ok (aa (some ⟨w.heap.size,0,none⟩) 1 1) (w.alloc (.cells ⟨oK x⟩ 117)):=by kernel_rfl
section
variable{w0 w w':ak}{ts us:List LT}{p:OA}{cc:Nat}{f g rm:kd}{r r':Option Nat}{l l':List Nat}{v x:ay}{o t:LT}{p1 p2 p3:OA}{d1 d2 d3:Nat}
def lB(p1 p2 p3:OA)(d1 d2 d3:Nat):List LT:=[ie kO 3 (aa p3 2 d3) [(p1,2,d1),(p2,1,d2)],ie cO 1 (aa p1 2 d1) [1,2],ie cO 1 (aa p2 1 d2) [2]]
theorem ann(q:TS w0 (lB p1 p2 p3 d1 d2 d3++ts) w):
  au ag 68 #[aV #[ah af 4,ba,aa p3 2 d3]] w λ y w'=>∃rm f b g b',y=cG 319 (an (some rm))/\TS w0 (aJ rm (gh f g 0 false false false)::dG f b [1,2] 0::dG g b' [2] 0::ts) w':=by
 apply MN;unfold FJ;refine gf (cs:=[ah af 4,ba,aa p3 2 d3]) (by simp) (λ w1 Q k1 z1=> ?_);have R:=q.ob Q k1 rfl (by omega);generalize (⟨w.heap.size,0,none⟩:kd)=s at R⊢;have hs:∀{w:ak} {us},TS w0 us w->aJ s [ah af 4,ba,aa p3 2 d3]∈us->at_ w s (ah af 4)/\at_ w (s.add 2) (aa p3 2 d3):=λ q G=>⟨by
  have:=q.at G 0 rfl;rwa[add_zero] at this,q.at G 2 rfl⟩
 refine⟨_,_,_,(hs R (by simp)).2, ?_⟩;have DJ:=R.new (t:=aO oK 1 ba ([]:List kd)) (Fr.refl _ _) (Own.nil _ _) (λ b hb=>by cases hb);have one:∀{w:ak} {us:List LT} {i:Nat} {pi:OA} {di n:Nat} {refs:List Nat} {N:ay->ak->Prop},TS w0 us w->(hn:n=refs.length)->ie cO 1 (aa pi n di) refs∈us->refs.length<=1000->(∀f b w',TS w0 (dG f b refs 0::us) w'->N (cG 208 (an (some f))) w')->
   a_ w (.cells #[(ah af 0),(aa none 0 0),(aa none 0 0)] 74) λ r w1=>wr w1 (aw ⟨r,0,none⟩ 0) (ah af 0) λ w2=>wr w2 (aw ⟨r,0,none⟩ 1) (aa pi n di) λ w3=>wr w3 (aw ⟨r,0,none⟩ 2) (aa none 0 0) λ w4=>
    aD af (at_ w4 (aw ⟨r,0,none⟩ 0)) λ zT=>az (at_ w4 (aw ⟨r,0,none⟩ 1)) λ y9 X U=>az (at_ w4 (aw ⟨r,0,none⟩ 2)) λ sV Z W=>au ag 68 #[(aV #[(ah af zT),(aa y9 X U),(aa sV Z W)])] w4 λ y8 w5=>aM (ax y8) λ v=>N v w5:=by
  intro w us i pi di n refs N q hn G hl J;subst hn;refine vA (a:=ah af 0) (b:=aa pi refs.length di) (c:=ba) trivial trivial trivial (λ w1 Q k1 z1=> ?_);have R:=q.aH k1;refine⟨_,Q.at 0 rfl,_,_,_,Q.at 1 rfl,_,_,_,Q.at 2 rfl,aF (anl R G hl) ?_⟩;rintro _ w2 ⟨f,b,rfl,E⟩;exact⟨_,rfl,J f b w2 E⟩
 refine MM (λ s' t P n C P' n' C' a b w'=>s=s'/\p3=P'/\n'=2/\d3=C'/\a=2/\((b=0/\n=0/\TS w0 (aO oK 1 (aa P 0 C) []::aJ s [ah af 4,ba,aa p3 2 d3]::(lB p1 p2 p3 d1 d2 d3++ts)) w')\/(b=1/\n=1/\∃f r,TS w0 (aO oK 1 (aa P 1 C) [f]::dG f r [1,2] 0::aJ s [ah af 4,ba,aa p3 2 d3]::(lB p1 p2 p3 d1 d2 d3++ts)) w')\/(b=2/\n=2/\∃f r g r',TS w0 (aO oK 1 (aa P 2 C) [f,g]::dG g r' [2] 0::dG f r [1,2] 0::aJ s [ah af 4,ba,aa p3 2 d3]::(lB p1 p2 p3 d1 d2 d3++ts)) w')))
  (λ _ _ _ _ _ _ _ _ a b _=>(a-b).toNat) ⟨rfl,rfl,rfl,rfl,rfl, .inl ⟨rfl,rfl,DJ⟩⟩ ?_
 have row:∀{w:ak} {us:List LT} {i:Nat} {K:kd->Prop},TS w0 us w->ie kO 3 (aa p3 2 d3) [(p1,2,d1),(p2,1,d2)]∈us->(hi:i<2)->(∀a,at_ w (a.add 0) (ah af 0)->at_ w (a.add 1) (b9 ([(p1,2,d1),(p2,1,d2)][i]'hi))->at_ w (a.add 2) ba->K a)->aU p3 2 (i:Int) 3 K:=λ{w us i K} q G hi J=>by
  have h:Sl kO 3 w (aa p3 2 d3) [(p1,2,d1),(p2,1,d2)]:=q.get G;exact Sl.ix (enc:=kO) (z:=3) (l:=[(p1,2,d1),(p2,1,d2)]) (λ _=>rfl) (by omega) h (by omega) (by simp;omega) (λ a _ H=>J a (H 0 _ rfl) (by
   have u:=H 1 _ rfl;have e:([(p1,2,d1),(p2,1,d2)]:List dg)[((i:Nat):Int).toNat]'(by simp;omega)=[(p1,2,d1),(p2,1,d2)][i]:=by congr 1
   rw[e] at u;exact u) (H 2 _ rfl))
 rintro _ t P n C _ _ _ _ b w2⟨rfl,rfl,rfl,rfl,rfl,⟨rfl,rfl,E⟩|⟨rfl,rfl,f,r,E⟩|⟨rfl,rfl,f,r,g,r',E⟩⟩
 ·unfold tU;refine cJ rfl (row (i:=0) E (by simp[lB]) (by omega) (λ a h0 u h2=>⟨_,h0,_,_,_,u,_,_,_,h2, ?_⟩));refine one (i:=0) (refs:=[1,2]) E rfl (by simp[lB]) (by simp) (λ f b w3 I=> ?_);refine(I.perm (d_ _ _ _)).kB V9 (x:=f) (V_ f w3) (by simp) (by simp) (λ p6 c6 w6 q6 _=> ?_);exact⟨⟨rfl,rfl,rfl,rfl,rfl, .inr (.inl ⟨rfl,rfl,f,b,q6⟩)⟩,by decide⟩
 ·unfold tU;refine cJ rfl (row (i:=1) E (by simp[lB]) (by omega) (λ a h0 u h2=>⟨_,h0,_,_,_,u,_,_,_,h2, ?_⟩));refine one (i:=0) (refs:=[2]) E rfl (by simp[lB]) (by simp) (λ g b w3 I=> ?_);refine(I.perm (d_ _ _ _)).kB V9 (x:=g) (V_ g w3) (by simp) (by simp) (λ p6 c6 w6 q6 _=> ?_);exact⟨⟨rfl,rfl,rfl,rfl,rfl, .inr (.inr ⟨rfl,rfl,f,r,g,b,q6⟩)⟩,by decide⟩
 ·unfold tU;have hg:∀{w:ak} {us} {i:Nat} {K:kd->Prop},TS w0 us w->aO oK 1 (aa P 2 C) [f,g]∈us->(hi:i<2)->(∀a,at_ w a (cG 208 (an (some ([f,g][i]'hi))))->K a)->aU P 2 (i:Int) 1 K:=λ{w us i K} q G hi J=>by
   have ho:cP oK 1 w (aa P 2 C) [f,g]:=q.get G;exact Sl.ix (enc:=oK) (z:=1) (l:=[f,g]) (λ _=>rfl) (by omega) ho.cV (by omega) (by simp;omega) (λ a _ H=>J a (by
    have u:=H 0 _ rfl;rw[add_zero] at u;have e:[f,g][((i:Nat):Int).toNat]'(by simp;omega)=[f,g][i]:=by congr 1
    rw[e] at u;exact u))
  have I:=E.drew;refine aT rfl ⟨_,(hs E (by simp)).1,aT rfl (aT rfl (aT rfl (aT rfl (cJ rfl ?_))))⟩;refine hg (i:=0) I (by simp) (by omega) (λ a H=>⟨_,H,hg (i:=1) I (by simp) (by omega) (λ a' uK=>⟨_,uK, ?_⟩)⟩);refine aF (anm I) ?_;rintro _ w4 ⟨rm,rfl,q4⟩;refine⟨_,rfl,rm,f,r,g,r',rfl, ?_⟩;have q5:=q4.sub (us:=aJ rm (gh f g 0 false false false)::dG g r' [2] 0::dG f r [1,2] 0::ts) (.cons_cons _ (.cons _ (.cons_cons _ (.cons_cons _ (.cons _ (List.sublist_append_right _ _))))));exact q5.perm (List.Perm.cons _ (d_ _ _ _))
end
theorem permA{α:Type}(a b c d:α)(ss ts:List α):(a::b::c::d::(ss++ts)).Perm (c::b::d::(ss++(a::ts))):=by
 classical
 rw[oV];intro z;simp only[oW,List.count_append];omega
section
variable{w0 w w':ak}{ts us:List LT}{p:OA}{cc:Nat}{f g rm:kd}{r r':Option Nat}{l l':List Nat}{v x:ay}{o t:LT}{p1 p2 p3:OA}{d1 d2 d3:Nat}{c0 c1 c2:kd}
theorem ano{w:ak}{a b c:OA}{K:ay->ak->Prop}(h:au ag 66 #[an a,an b,an c] w K):eJ ag (.func (.func 66) #[] #[an a,an b,an c]) #[] w K:=⟨66,_,by kernel_rfl,h⟩
theorem TS.flag{us:List LT}{g:Nat}(q:TS w0 us w)(k:aS w w')(y:w.heap.size<=g)(c:Ob w' ⟨g,0,none⟩ [aQ false]):TS w0 (aJ ⟨g,0,none⟩ [aQ false]::us) w':=
 q.new (t:=aJ ⟨g,0,none⟩ [aQ false]) k c (λ b h=>by
  have u:b=g:=h;have:=c.lt (by simp);simp only at this;omega)
theorem TS.V'{us:List LT}{g:Nat}(q:TS w0 (aJ ⟨g,0,none⟩ [aQ false]::us) w)(f:Fr (λ b _=>b=g) w w'):TS w0 us w':=
 (q.ey (t':=KR (λ b=>b=g)) f (λ b o c=>c) trivial (λ b h=> .inl h)).tail
theorem k66(q:TS w0 (aJ c1 [ba]::aJ c2 [aQ false]::aJ c0 [ah af 4,ba,aa p3 2 d3]::(lB p1 p2 p3 d1 d2 d3++ts)) w):
  au ag 66 #[an (some c0),an (some c1),an (some c2)] w λ y w'=>∃P C,TS w0 (aJ c1 [aa P 1 C]::aJ c2 [aQ true]::aO cO 1 (aa P 1 C) [1]::ts) w':=by
 apply Ys;unfold MF;have c:∀{i v},[ah af 4,ba,aa p3 2 d3][i]? =some v->at_ w (c0.add i) v:=λ J=>q.at (a:=c0) (cs:=[ah af 4,ba,aa p3 2 d3]) (by simp) _ J
 refine⟨_,c (i:=0) rfl,_,_,_,c (i:=1) rfl,_,_,_,c (i:=2) rfl, ?_⟩;have K:=q.perm (us:=lB p1 p2 p3 d1 d2 d3++(aJ c1 [ba]::aJ c2 [aQ false]::aJ c0 [ah af 4,ba,aa p3 2 d3]::ts)) (List.perm_append_comm_assoc [_,_,_] (lB p1 p2 p3 d1 d2 d3) ts);refine aF (ann K) ?_;rintro _ W ⟨rm,f,b,g,U,rfl,N⟩;refine⟨_,rfl,aF (ank N) ?_⟩;rintro _ R ⟨x,rfl,E⟩;have I:cP cO 1 R x [1]:=E.get (t:=aO cO 1 x [1]) (by simp);obtain⟨P,C,rfl,_⟩:=aX.ex I.cV;refine⟨_,_,rfl,_,_,_,rfl,_,rfl, ?_⟩;obtain⟨h,G⟩:=E.fq (pre:=[aO cO 1 _ _]) (a:=c1) (cs:=[ba]) 0 (by simp) (aa P 1 C);rw[add_zero] at h G;refine⟨⟨trivial,h⟩, ?_⟩;obtain⟨u,H⟩:=G.fq (pre:=[aO cO 1 _ _,aJ c1 _]) (a:=c2) (cs:=[aQ false]) 0 (by simp) (aQ true);rw[add_zero] at u H;refine⟨⟨trivial,u⟩,P,C, ?_⟩;have Q:=H.sub (us:=aO cO 1 (aa P 1 C) [1]::aJ c1 [aa P 1 C]::aJ c2 [aQ true]::ts) (.cons_cons _ (.cons_cons _ (.cons_cons _ (.cons _ (lE _)))));exact Q.perm (gI (l₁:=[aJ c1 _,aJ c2 _])).symm
theorem k32(q:TS w0 (lB p1 p2 p3 d1 d2 d3++ts) w):
  au ag 32 #[aV #[ah af 4,ba,aa p3 2 d3]] w λ y w'=>∃P C,y=aZ #[aa P 1 C,aQ true]/\TS w0 (aO cO 1 (aa P 1 C) [1]::ts) w':=by
 apply Yr;unfold ME;refine gf (cs:=[ah af 4,ba,aa p3 2 d3]) (by simp) (λ w1 o1 X z1=> ?_);have J:=q.ob o1 X rfl (by omega);generalize (⟨w.heap.size,0,none⟩:kd)=c0 at J⊢;refine gf (cs:=[ba]) (by simp) (λ w2 o2 Z z2=> ?_);have K:=J.ob o2 Z rfl (by omega);generalize (⟨w1.heap.size,0,none⟩:kd)=c1 at K⊢;refine gf (cs:=[aQ false]) (by simp) (λ w3 o3 k3 z3=> ?_);have N:=K.ob o3 k3 rfl (by omega);generalize (⟨w2.heap.size,0,none⟩:kd)=c2 at N⊢;refine DT (λ w4 g k4 W og=> ?_);have q4:=N.flag k4 W og;have q5:=q4.perm (us:=aJ c1 [ba]::aJ c2 [aQ false]::aJ c0 [ah af 4,ba,aa p3 2 d3]::(lB p1 p2 p3 d1 d2 d3++(aJ ⟨g,0,none⟩ [aQ false]::ts))) (permA _ _ _ _ _ _);refine ano (aF (k66 q5) ?_);rintro _ w6 ⟨P,C,Q⟩;refine⟨Q.get (t:=aJ ⟨g,0,none⟩ [aQ false]) (by simp),λ w7 U=>⟨_,rfl, ?_⟩⟩;have u:=(Q.perm (us:=aJ ⟨g,0,none⟩ [aQ false]::aJ c1 [aa P 1 C]::aJ c2 [aQ true]::aO cO 1 (aa P 1 C) [1]::ts) (gI (l₁:=[_,_,_]))).V' U;have E:∀{w:ak} {us},TS w0 us w->aJ c1 [aa P 1 C]∈us->at_ w c1 (aa P 1 C):=λ q h=>q.ei h
 have G:∀{w:ak} {us},TS w0 us w->aJ c2 [aQ true]∈us->at_ w c2 (aQ true):=λ q h=>q.ei h
 refine⟨_,_,_,E u (by simp),_,G u (by simp),cJ rfl ?_⟩;obtain⟨H,R⟩:=u.wr 0 (by simp) (aa P 1 C);rw[add_zero] at H R;refine⟨⟨trivial,H⟩, ?_⟩;obtain⟨I,c⟩:=R.fq (pre:=[aJ c1 _]) (a:=c2) (cs:=[aQ true]) 0 (by simp) (aQ true);rw[add_zero] at I c;refine⟨⟨trivial,I⟩, ?_⟩;generalize nI _ c2 _=w9 at c⊢;have c:TS w0 (aJ c1 [aa P 1 C]::aJ c2 [aQ true]::aO cO 1 (aa P 1 C) [1]::ts) w9:=c;exact⟨_,_,_,E c (by simp),_,G c (by simp),P,C,rfl,c.tail.tail⟩
end
theorem Wa{w0 w:ak}{ts:List LT}{f:ay}{n:Nat}{pr:Nat->Bool}(U:n<=40000)(N:∀k,k<n->∀w,TS w0 ts w->eJ ag f #[ah af (k:Int)] w λ r w'=>r=aQ (pr k)/\TS w0 ts w')(q:TS w0 ts w):
  au ag 148 #[ah af (n:Int),f] w λ r w'=>(∃i:Nat,r=ah af (i:Int)/\i<=n/\(0<i->pr (i-1)=false)/\(i<n->pr i=true))/\TS w0 ts w':=by
 apply Nd;unfold v148;refine Nc (λ J i j w'=>f=J/\∃a b:Nat,i=(a:Int)/\j=(b:Int)/\a<=b/\b<=n/\(0<a->pr (a-1)=false)/\(b<n->pr b=true)/\TS w0 ts w') (λ _ i j _=>(j-i).toNat) ?_ ?_
 ·exact⟨rfl,0,n,rfl,rfl,by omega,by omega,by omega,by omega,q⟩
 ·rintro _ _ _ w ⟨rfl,a,b,rfl,rfl,R,K,u,y,q⟩;unfold A8;refine bn (λ c=> ?_) (λ c=> ?_)
  ·have Q:a<b:=by simp at c;omega
   rw[Vg (by omega)];obtain⟨g,G,H,I⟩:=N ((a+b)/2) (by omega) w q;refine⟨g,G,H,aF I ?_⟩;rintro _ w' ⟨rfl,E⟩;refine⟨_,rfl,bn (λ h=> ?_) (λ h=> ?_)⟩
   ·rw[show aq af ((((a+b)/2:Nat):Int)+1)=(((a+b)/2+1:Nat):Int) by rw[bk (by omega) (by omega)];omega];exact⟨⟨rfl,(a+b)/2+1,b,rfl,rfl,by omega,K,λ _=>by simpa using h,y,E⟩,by omega⟩
   ·exact⟨⟨rfl,a,(a+b)/2,rfl,rfl,by omega,by omega,u,λ _=>by simpa using h,E⟩,by omega⟩
  ·have:a=b:=by simp at c;omega
   subst this;exact⟨⟨a,rfl,by omega,u,y⟩,q⟩
def c_(x:Int×Int):List ay:=[ah af x.1,ah af x.2]
theorem Wb:gW ag 143 145 c_ 2 16 [ah af 0,ah af 0]:=
 ⟨⟨by kernel_rfl,by kernel_rfl,rfl,by decide⟩,λ _=>rfl,λ x u c=>by simp[c_] at c;rcases c with rfl|rfl<;>rfl⟩
theorem anr(x:Int×Int)(w:ak):(bw 143 1 #[(0,aV #[ah af x.1,ah af x.2])]).run ag w= .ok (aa (some ⟨w.heap.size,0,none⟩) 1 1) (w.alloc (.cells ⟨c_ x⟩ 145)):=by kernel_rfl
theorem ans:gW ag 75 78 c_ 2 16 [ah af 0,ah af 0]:=
 ⟨⟨by kernel_rfl,by kernel_rfl,rfl,by decide⟩,λ _=>rfl,λ x u c=>by simp[c_] at c;rcases c with rfl|rfl<;>rfl⟩
theorem ant(x:Int×Int)(w:ak):(bw 75 1 #[(0,aV #[ah af x.1,ah af x.2])]).run ag w= .ok (aa (some ⟨w.heap.size,0,none⟩) 1 1) (w.alloc (.cells ⟨c_ x⟩ 78)):=by kernel_rfl
section
variable{w0 w w':ak}{ts us:List LT}{p:OA}{cc:Nat}{v x:ay}{ci cn cm:kd}{g C:Nat}
theorem anu(q:TS w0 ts w):au ag 70 #[ba,aV #[ah af 1,ah af 2]] w λ y w'=>TS w0 (aO c_ 2 y [(1,2)]::ts) w':=by
 apply M9;unfold v70;refine gf (cs:=[ba]) (by simp) (λ U K I Z=> ?_);have E:=q.ob K I rfl (by omega);generalize (⟨w.heap.size,0,none⟩:kd)=ci at E⊢;refine gf (cs:=[ah af 1,ah af 2]) (by simp) (λ h N J z2=> ?_);have c:=E.ob N J rfl (by omega);generalize (⟨U.heap.size,0,none⟩:kd)=cn at c⊢;have r:at_ h ci ba:=c.ei (by simp);have u:∀i {v},[ah af 1,ah af 2][i]? =some v->at_ h (cn.add i) v:=λ i v H=>c.at (a:=cn) (cs:=[ah af 1,ah af 2]) (by simp) i H
 refine⟨_,_,_,r,cJ rfl ⟨_,_,_,r,_,u 0 rfl,_,u 1 rfl, ?_⟩⟩;have Q:=c.tail.tail.new (t:=aO c_ 2 ba ([]:List (Int×Int))) (Fr.refl _ _) (Own.nil _ _) (λ b G=>by cases G);refine Q.kB Wb (x:=(1,2)) (anr (1,2) h) (by simp) (by simp) (λ W c6 X R _=>R)
theorem anv{w:ak}{x:ay}{a b:OA}{K:ay->ak->Prop}(h:au ag 149 #[x,an a,an b] w K):eJ ag (.func (.func 149) #[] #[an a,an b]) #[x] w K:=⟨149,_,by kernel_rfl,h⟩
theorem anw{w:ak}{x:ay}{a b c:OA}{K:ay->ak->Prop}(h:au ag 150 #[x,an a,an b,an c] w K):eJ ag (.func (.func 150) #[] #[an a,an b,an c]) #[x] w K:=⟨150,_,by kernel_rfl,h⟩
theorem D7{m:Int}{K:kd->Prop}(q:TS w0 us w)(u:aO c_ 2 (aa (some ⟨g,0,none⟩) 1 C) [(1,m)]∈us)(r:∀a:kd,at_ w a (ah af 1)->at_ w (a.add 1) (ah af m)->K a):aU (some ⟨g,0,none⟩) 1 0 2 K:=by
 have y:cP c_ 2 w (aa (some ⟨g,0,none⟩) 1 C) [(1,m)]:=q.get u;exact Sl.ix (enc:=c_) (z:=2) (l:=[((1:Int),m)]) (λ _=>rfl) (by omega) y.cV (by omega) (by simp) (λ a _ c=>r a (by
  have h:=c 0 _ rfl;rwa[add_zero] at h) (c 1 _ rfl))
theorem anx(q:TS w0 (aO c_ 2 (aa (some ⟨g,0,none⟩) 1 C) [(1,2)]::us) w)(u:aJ ci [aa (some ⟨g,0,none⟩) 1 C]∈us)(y:aJ cn [ah af 3,ah af 4]∈us):
  au ag 149 #[ah af 0,an (some ci),an (some cn)] w λ r w'=>r=aQ true/\TS w0 (aO c_ 2 (aa (some ⟨g,0,none⟩) 1 C) [(1,2)]::us) w':=by
 apply YO;unfold Nf;have c:=q.drew;have h:=c.at (jI _ y) 0 rfl;rw[add_zero] at h;exact⟨_,_,_,c.ei (jI _ u),D7 (C:=C) (m:=2) c (by simp) (λ a _ E=>⟨_,E,_,h,rfl,c⟩)⟩
theorem anz(q:TS w0 (aO c_ 2 (aa (some ⟨g,0,none⟩) 1 C) [(1,2)]::us) w)(h:aJ ci [aa (some ⟨g,0,none⟩) 1 C]∈us)(u:aJ cn [ah af 3,ah af 4]∈us)(y:aJ cm [ah af 0]∈us):
  au ag 150 #[ah af 0,an (some ci),an (some cm),an (some cn)] w λ r w'=>r=aQ false/\TS w0 (aO c_ 2 (aa (some ⟨g,0,none⟩) 1 C) [(1,2)]::us) w':=by
 apply YP;unfold Ng;have c:=q.drew;exact⟨_,_,_,c.ei (jI _ h),_,c.ei (jI _ y),D7 (C:=C) (m:=2) c (by simp) (λ a E _=>⟨_,E,_,c.at (jI _ u) 1 rfl,rfl,c⟩)⟩
theorem anA(q:TS w0 (aO c_ 2 (aa (some ⟨g,0,none⟩) 1 C) [(1,2)]::us) w):V.can w (aw ⟨g,0,none⟩ 1)/\TS w0 (aO c_ 2 (aa (some ⟨g,0,none⟩) 1 C) [(1,4)]::us) (w.setCell (aw ⟨g,0,none⟩ 1) (ah af 4)):=by
 have u:cP c_ 2 w (aa (some ⟨g,0,none⟩) 1 C) [((1:Int),(2:Int))]:=q.get (t:=aO c_ 2 (aa (some ⟨g,0,none⟩) 1 C) [((1:Int),(2:Int))]) (by simp);have c:Ob w ⟨g,0,none⟩ [ah af 1,ah af 2]:=u.ob;have r:=Fr.set w (aw ⟨g,0,none⟩ 1) (ah af 4);refine⟨c.can 1 (by simp),q.ey (t':=aO c_ 2 (aa (some ⟨g,0,none⟩) 1 C) [((1:Int),(4:Int))]) r (λ b o h=>by
  have:=h.1;rw[cT] at this;show some g=some b;rw[this]) ?_ (λ b y=> .inl y)⟩
 exact Own.Iy (vs':=[ah af 1,ah af 4]) u rfl (c.set 1 (by simp) (ah af 4)) r (λ o E h=>by
  have:=h.2;rw[fJ] at this;simp only at this;have e:[((1:Int),(4:Int))].length*2=2:=rfl;omega)
theorem anB(q:TS w0 (aO c_ 2 (aa (some ⟨g,0,none⟩) 1 C) [(1,2)]::ts) w)(hC:1<=C):au ag 70 #[aa (some ⟨g,0,none⟩) 1 C,aV #[ah af 3,ah af 4]] w λ y w'=>TS w0 (aO c_ 2 y [(1,4)]::ts) w':=by
 apply M9;unfold v70;refine gf (cs:=[aa (some ⟨g,0,none⟩) 1 C]) (by simp) (λ w1 o1 k1 z1=> ?_);have q1:=q.ob o1 k1 rfl (by omega);generalize (⟨w.heap.size,0,none⟩:kd)=ci at q1⊢;refine gf (cs:=[ah af 3,ah af 4]) (by simp) (λ w2 o2 k2 z2=> ?_);have q2:=q1.ob o2 k2 rfl (by omega);generalize (⟨w1.heap.size,0,none⟩:kd)=cn at q2⊢;have r:∀{w:ak} {us},TS w0 us w->aJ ci [aa (some ⟨g,0,none⟩) 1 C]∈us->at_ w ci (aa (some ⟨g,0,none⟩) 1 C):=λ q N=>q.ei N
 have X:∀{w:ak} {us},TS w0 us w->aJ cn [ah af 3,ah af 4]∈us->at_ w cn (ah af 3)/\at_ w (cn.add 1) (ah af 4):=λ q N=>⟨by
  have:=q.at N 0 rfl;rwa[add_zero] at this,q.at N 1 rfl⟩
 refine⟨_,_,_,r q2 (by simp),aT rfl ?_⟩;refine lW (a:=ah af 0) trivial (λ w3 o3 k3 z3=> ?_);have Q:=q2.ob o3 k3 rfl (by omega);generalize (⟨w2.heap.size,0,none⟩:kd)=cm at Q⊢;have am:∀{w:ak} {us},TS w0 us w->aJ cm [ah af 0]∈us->at_ w cm (ah af 0):=λ q N=>q.ei N
 refine⟨_,(X Q (by simp)).1,cJ rfl ⟨_,_,_,r Q (by simp), ?_⟩⟩;have Q:=Q.perm (us:=aO c_ 2 (aa (some ⟨g,0,none⟩) 1 C) [(1,2)]::aJ cm [ah af 0]::aJ cn [ah af 3,ah af 4]::aJ ci [aa (some ⟨g,0,none⟩) 1 C]::ts) (gI (l₁:=[_,_,_]));refine aF (Wa (n:=1) (pr:=λ _=>true) (by omega) (λ k hk w q=>anv (by
  have I:k=0:=by omega
  subst I;exact anx q (by simp) (by simp))) Q) ?_
 rintro _ w4⟨⟨i,rfl,hi,J,_⟩,q4⟩;have sY:i=0:=by
  rcases Nat.eq_zero_or_pos i with h|h
  ·exact h
  ·exact absurd (J h) (by simp)
 subst sY;obtain⟨g5,E⟩:=q4.fq (pre:=[aO c_ 2 _ _]) (a:=cm) (cs:=[ah af 0]) 0 (by simp) (ah af 0);rw[add_zero] at g5 E;refine⟨_,rfl,⟨trivial,g5⟩, ?_⟩;generalize KE:nI _ cm _=w5;have E:TS w0 (aO c_ 2 (aa (some ⟨g,0,none⟩) 1 C) [(1,2)]::aJ cm [ah af 0]::aJ cn [ah af 3,ah af 4]::aJ ci [aa (some ⟨g,0,none⟩) 1 C]::ts) w5:=by rw[<-KE];exact E
 refine⟨_,am E (by simp),_,_,_,r E (by simp),aT rfl ?_⟩;unfold A5;refine⟨_,_,_,r E (by simp),_,(X E (by simp)).2,cJ rfl ⟨_,_,_,r E (by simp),_,am E (by simp), ?_⟩⟩;refine aF (Wa (n:=1) (pr:=λ _=>false) (by omega) (λ k hk w q=>anw (by
  have I:k=0:=by omega
  subst I;exact anz q (by simp) (by simp) (by simp))) E) ?_
 rintro _ w6⟨⟨i,rfl,hi,_,J⟩,q6⟩;have vn:i=1:=by
  rcases Nat.lt_or_ge i 1 with h|h
  ·exact absurd (J h) (by simp)
  ·omega
 subst vn;refine⟨_,rfl,aT rfl ?_⟩;unfold A4;have W:=q6.drew;refine⟨_,(X W (by simp)).1,_,_,_,r W (by simp),_,am W (by simp),D7 (C:=C) (m:=2) W (by simp) (λ a ha _=>⟨_,ha,aT rfl ?_⟩)⟩;unfold A3;have K:=W.drew;refine⟨_,_,_,r K (by simp),_,am K (by simp),_,(X K (by simp)).2,_,_,_,r K (by simp),_,am K (by simp),D7 (C:=C) (m:=2) K (by simp) (λ a _ ha=>⟨_,ha,⟨by decide,by decide⟩, ?_⟩)⟩;obtain⟨g9,q9⟩:=anA K;refine⟨⟨trivial,g9⟩, ?_⟩;have ew:(if(2:Int)>4 then(2:Int) else 4)=4:=by decide
 rw[ew];generalize hw9:nI _ _ _=w9;have q9:TS w0 (aO c_ 2 (aa (some ⟨g,0,none⟩) 1 C) [(1,4)]::aJ cm [ah af 0]::aJ cn [ah af 3,ah af 4]::aJ ci [aa (some ⟨g,0,none⟩) 1 C]::ts) w9:=by rw[<-hw9];exact q9
 have c:=q9.drew;have ou:∀(k:Nat),C4 (some (⟨g,0,none⟩:kd)) 0 k 2=some ⟨g,0,none⟩:=λ k=>by
  unfold C4;split<;>simp
 refine⟨_,_,_,r c (by simp),_,am c (by simp),_,λ w=>gV (e:=145) (by kernel_rfl) (z:=2) (by kernel_rfl) (some ⟨g,0,none⟩) 1 C 0 1 (by omega) hC none _ (.inl ⟨rfl,rfl⟩) (.inr ⟨_,rfl⟩) w,_,_,_,rfl,_,_,_,r c (by simp),_,am c (by simp),_,λ w=>gV (e:=145) (by kernel_rfl) (z:=2) (by kernel_rfl) (some ⟨g,0,none⟩) 1 C 1 1 (by omega) hC _ none (.inr ⟨_,rfl⟩) (.inl ⟨rfl,rfl⟩) w,_,_,_,rfl, ?_⟩;rw[ou C];have ho:cP c_ 2 w9.drew (aa (some ⟨g,0,none⟩) 1 C) [((1:Int),(4:Int))]:=c.get (t:=aO c_ 2 (aa (some ⟨g,0,none⟩) 1 C) [((1:Int),(4:Int))]) (by simp);refine oi (enc:=c_) (l:=[((1:Int),(4:Int))]) (m:=([]:List (Int×Int))) Wb ho (aX.nil _ _ _ _) (by simp) (by simp) (λ U R gA H hf lQ=> ?_);have u:=c.ey (t':=aO c_ 2 (aa U 1 R) [((1:Int),(4:Int))]) (hf.mono (λ b o _ Z=>Z.1)) (λ b o Z=>Z) H (λ b hb=>by
  rcases lQ with h1|⟨g,hg,nW⟩
  ·have G:aN (aa U 1 R)=some b:=hb;exact .inl (show aN (aa (some ⟨g,0,none⟩) 1 C)=some b from(show aN (aa (some ⟨g,0,none⟩) 1 C)=aN (aa U 1 R) from h1.symm).trans G)
  ·have G:aN (aa U 1 R)=some b:=hb;have yD:aN (aa U 1 R)=some g:=hg;rw[yD] at G;cases G;exact .inr ⟨nW,H.lt hg⟩)
 exact⟨am u (by simp),r u (by simp),am u (by simp),r u (by simp),u.sub (.cons_cons _ (.cons _ (.cons _ (.cons _ (lE _)))))⟩
end
section
variable{w0 w w':ak}{ts us:List LT}{p:OA}{cc:Nat}{v x:ay}{c0 c1 e:kd}{g C d:Nat}
theorem anC{P:OA}{a:Int×Int}(h:cP c_ 2 w (aa P 1 C) [a]):∃g,P=some ⟨g,0,none⟩/\1<=C:=by
 rcases h.2 with⟨c,_⟩|⟨g,cap,cur,e,c,_,q,_⟩
 ·cases c
 ·cases c;exact⟨g,rfl,q⟩
theorem KZ{w:ak}{h q a b:ay}{ty:cK}{K:Nat->ak->Prop}(u:gj a)(y:gj b)(E:∀w',Ob w' ⟨w.heap.size,0,none⟩ [a,b]->aS w w'->K w.heap.size w'):
  a_ w (.cells #[h,q] ty) λ r H=>wr H (aw ⟨r,0,none⟩ 0) a λ I=>wr I (aw ⟨r,0,none⟩ 1) b λ J=>K r J:=Ji u y (λ w' G c _=>E w' G c)
theorem k71{l:List (Int×Int)}(q:TS w0 (aO c_ 2 x l::ts) w)(hl:l.length<=1000):
  au ag 71 #[x] w λ r w'=>TS w0 (aO c_ 2 r l::aO c_ 2 x l::ts) w':=by
 have U:cP c_ 2 w x l:=q.get (t:=aO c_ 2 x l) (by simp);obtain⟨p,cc,rfl,_⟩:=aX.ex U.cV;apply YN;unfold Na;have q0:=q.new (t:=aO c_ 2 ba ([]:List (Int×Int))) (Fr.refl _ _) (Own.nil _ _) (λ b Q=>by cases Q);refine YM (λ P k C p' Z N t7 t8 w'=>p=p'/\Z=l.length/\cc=N/\t7=(l.length:Int)/\t8=(k:Int)/\k<=l.length/\TS w0 (aO c_ 2 (aa P k C) (l.take k)::aO c_ 2 (aa p l.length cc) l::ts) w') (λ _ k _ _ _ _ _ _ _=>l.length-k) ⟨rfl,rfl,rfl,rfl,rfl,dO _,q0⟩ ?_;rintro P k C _ _ _ _ _ w1 ⟨rfl,rfl,rfl,rfl,rfl,hk,c⟩;unfold FP;refine bn (λ h=> ?_) (λ h=> ?_)
 ·have E:k<l.length:=by simp at h;omega
  have G:cP c_ 2 w1 (aa p l.length cc) l:=c.get (t:=aO c_ 2 (aa p l.length cc) l) (by simp);refine Sl.ix (enc:=c_) (z:=2) (l:=l) (λ _=>rfl) (by omega) G.cV (by omega) (by omega) (λ a _ I=>⟨_,I 0 _ rfl,_,I 1 _ rfl, ?_⟩);have e:l[((k:Nat):Int).toNat]'(by simp;omega)=l[k]:=by congr 1
  rw[e];generalize W:l[k]=y;refine KZ (a:=ah af y.1) (b:=ah af y.2) trivial trivial (λ w2 J X=> ?_);have q2:=c.aH X;have K:=J.at 0 rfl;rw[add_zero] at K;refine⟨_,K,_,J.at 1 rfl, ?_⟩;have u:(l.take k).length=k:=by rw[fS];omega
  refine q2.kB ans (x:=y) (ant y w2) (by omega) (by omega) (λ p6 c6 w6 H _=> ?_);rw[u] at H⊢;rw[<-W,<-jm E] at H;rw[show aq af ((k:Int)+1)=((k+1:Nat):Int) by rw[bk (by omega) (by omega)];omega];exact⟨⟨rfl,rfl,rfl,rfl,rfl,by omega,H⟩,by omega⟩
 ·have R:k=l.length:=by simp at h;omega
  subst R;rw[fY] at c;exact c
theorem anE{w:ak}{a b:OA}{K:ay->ak->Prop}(h:au ag 69 #[an a,an b] w K):eJ ag (.func (.func 69) #[] #[an a,an b]) #[] w K:=⟨69,_,by kernel_rfl,h⟩
theorem k69(q:TS w0 (aJ c1 [ba]::aJ c0 [aa p 2 d]::ie c_ 2 (aa p 2 d) [(1,2),(3,4)]::ts) w):
  au ag 69 #[an (some c0),an (some c1)] w λ r w'=>∃P C,TS w0 (aJ c1 [aa P 1 C]::aO c_ 2 (aa P 1 C) [(1,4)]::ts) w':=by
 apply YL;unfold M8;refine⟨_,_,_,q.ei (a:=c0) (v:=aa p 2 d) (by simp), ?_⟩;refine YK (λ c P n C p' n' c' a b w'=>c1=c/\p=p'/\n'=2/\d=c'/\a=2/\((b=0/\P=none/\n=0/\C=0/\TS w0 (aJ c1 [ba]::aJ c0 [aa p 2 d]::ie c_ 2 (aa p 2 d) [(1,2),(3,4)]::ts) w')\/(b=1/\n=1/\TS w0 (aO c_ 2 (aa P 1 C) [(1,2)]::aJ c1 [ba]::aJ c0 [aa p 2 d]::ie c_ 2 (aa p 2 d) [(1,2),(3,4)]::ts) w')\/(b=2/\n=1/\TS w0 (aO c_ 2 (aa P 1 C) [(1,4)]::aJ c1 [ba]::aJ c0 [aa p 2 d]::ie c_ 2 (aa p 2 d) [(1,2),(3,4)]::ts) w')))
  (λ _ _ _ _ _ _ _ a b _=>(a-b).toNat) ⟨rfl,rfl,rfl,rfl,rfl, .inl ⟨rfl,rfl,rfl,rfl,q⟩⟩ ?_
 have row:∀{w:ak} {us:List LT} {i:Nat} {K:kd->Prop},TS w0 us w->ie c_ 2 (aa p 2 d) [(1,2),(3,4)]∈us->(hi:i<2)->(∀a,at_ w (a.add 0) (ah af ([((1:Int),(2:Int)),(3,4)][i]'hi).1)->at_ w (a.add 1) (ah af ([((1:Int),(2:Int)),(3,4)][i]'hi).2)->K a)->aU p 2 (i:Int) 2 K:=λ{w us i K} q hm hi hk=>by
  have h:Sl c_ 2 w (aa p 2 d) [((1:Int),(2:Int)),(3,4)]:=q.get hm;exact Sl.ix (enc:=c_) (z:=2) (l:=[((1:Int),(2:Int)),(3,4)]) (λ _=>rfl) (by omega) h (by omega) (by simp;omega) (λ a _ Z=>hk a (by
   have u:=Z 0 _ rfl;have e:[((1:Int),(2:Int)),(3,4)][((i:Nat):Int).toNat]'(by simp;omega)=[((1:Int),(2:Int)),(3,4)][i]:=by congr 1
   rw[e] at u;exact u) (by
   have u:=Z 1 _ rfl;have e:[((1:Int),(2:Int)),(3,4)][((i:Nat):Int).toNat]'(by simp;omega)=[((1:Int),(2:Int)),(3,4)][i]:=by congr 1
   rw[e] at u;exact u))
 rintro _ P n C _ _ _ _ b w2⟨rfl,rfl,rfl,rfl,rfl,⟨rfl,rfl,rfl,rfl,H⟩|⟨rfl,rfl,H⟩|⟨rfl,rfl,H⟩⟩
 ·unfold wX;refine cJ rfl (row (i:=0) H (by simp) (by omega) (λ a U u=>⟨_,U,_,u, ?_⟩));refine KZ (a:=ah af 1) (b:=ah af 2) trivial trivial (λ w3 N W=> ?_);have Q:=N.at 0 rfl;rw[add_zero] at Q;refine⟨_,Q,_,N.at 1 rfl,aF (anu (H.aH W)) ?_⟩;rintro y R E;have G:cP c_ 2 R y [((1:Int),(2:Int))]:=E.get (t:=aO c_ 2 y [((1:Int),(2:Int))]) (by simp);obtain⟨J,I,rfl,_⟩:=aX.ex G.cV;exact⟨_,_,_,rfl,⟨rfl,rfl,rfl,rfl,rfl, .inr (.inl ⟨rfl,rfl,E⟩)⟩,by decide⟩
 ·unfold wX;refine cJ rfl (row (i:=1) H (by simp) (by omega) (λ a U u=>⟨_,U,_,u, ?_⟩));refine KZ (a:=ah af 3) (b:=ah af 4) trivial trivial (λ w3 N W=> ?_);have Q:=N.at 0 rfl;rw[add_zero] at Q;have q3:=H.aH W;have G:cP c_ 2 w3 (aa P 1 C) [((1:Int),(2:Int))]:=q3.get (t:=aO c_ 2 (aa P 1 C) [((1:Int),(2:Int))]) (by simp);obtain⟨g,rfl,hC⟩:=anC G;refine⟨_,Q,_,N.at 1 rfl,aF (anB q3 hC) ?_⟩;rintro y R E;have G:cP c_ 2 R y [((1:Int),(4:Int))]:=E.get (t:=aO c_ 2 y [((1:Int),(4:Int))]) (by simp);obtain⟨J,I,rfl,_⟩:=aX.ex G.cV;exact⟨_,_,_,rfl,⟨rfl,rfl,rfl,rfl,rfl, .inr (.inr ⟨rfl,rfl,E⟩)⟩,by decide⟩
 ·unfold wX;refine aT rfl (aF (k71 H (by simp)) ?_);rintro y R E;have G:cP c_ 2 R y [((1:Int),(4:Int))]:=E.get (t:=aO c_ 2 y [((1:Int),(4:Int))]) (by simp);obtain⟨J,I,rfl,_⟩:=aX.ex G.cV;refine⟨_,_,_,rfl, ?_⟩;obtain⟨X,q5⟩:=E.fq (pre:=[aO c_ 2 _ _,aO c_ 2 _ _]) (a:=c1) (cs:=[ba]) 0 (by simp) (aa J 1 I);rw[add_zero] at X q5;refine⟨⟨trivial,X⟩,J,I, ?_⟩;have q6:=q5.sub (us:=aO c_ 2 (aa J 1 I) [(1,4)]::aJ c1 [aa J 1 I]::ts) (.cons_cons _ (.cons _ (.cons_cons _ (.cons _ (.cons _ (lE _))))));exact q6.perm (d_ _ _ _)
theorem k33(q:TS w0 (ie c_ 2 (aa p 2 d) [(1,2),(3,4)]::ts) w):
  au ag 33 #[aa p 2 d] w λ y w'=>∃P C,y=aa P 1 C/\TS w0 (aO c_ 2 (aa P 1 C) [(1,4)]::ts) w':=by
 apply YJ;unfold M6;refine gf (cs:=[aa p 2 d]) (by simp) (λ R J H z1=> ?_);have c:=q.ob J H rfl (by omega);generalize (⟨w.heap.size,0,none⟩:kd)=c0 at c⊢;refine gf (cs:=[ba]) (by simp) (λ U K I z2=> ?_);have h:=c.ob K I rfl (by omega);generalize (⟨R.heap.size,0,none⟩:kd)=c1 at h⊢;refine DT (λ W g k4 G N=> ?_);have Q:=(h.flag k4 G N).perm (us:=aJ c1 [ba]::aJ c0 [aa p 2 d]::ie c_ 2 (aa p 2 d) [(1,2),(3,4)]::aJ ⟨g,0,none⟩ [aQ false]::ts) (gI (l₁:=[_,_,_])).symm;refine anE (aF (k69 Q) ?_);rintro _ X ⟨P,C,r⟩;refine⟨r.get (t:=aJ ⟨g,0,none⟩ [aQ false]) (by simp),λ Z E=>⟨_,rfl, ?_⟩⟩;have u:=(r.perm (us:=aJ ⟨g,0,none⟩ [aQ false]::aJ c1 [aa P 1 C]::aO c_ 2 (aa P 1 C) [(1,4)]::ts) (gI (l₁:=[_,_]))).V' E;exact⟨_,_,_,u.ei (a:=c1) (v:=aa P 1 C) (by simp),P,C,rfl,u.tail⟩
end
section
variable{w0 w w':ak}{ts us:List LT}{p:OA}{cc:Nat}{v x:ay}{c0 c1 e:kd}{g C d:Nat}
def rB(e:kd)(v:ay)(l:Wd):LT:=
 ⟨λ b=>b=e.block\/aN v=some b,λ w=>dA w e v l,by
  rintro S w w'⟨r,⟨cs,u,y,E⟩,G,H,I⟩h q;exact⟨r,⟨cs,u.fr h (λ o _ _ c=>q _ o c (.inl rfl)),y,E⟩,G.fr h (λ b J o c=>q b o c (.inr J)),H,I⟩⟩
theorem TS.mf{l:Wd}{n:Nat}(q:TS w0 (rB e v l::ts) w)(J:n<18446744073709551616)(I:l.length+10<=1073741824):
  au ag 81 #[an (some e),ah aj (n:Int)] w λ _ w'=>∃v',TS w0 (rB e v' (l++bm n)::ts) w':=by
 have G:dA w e v l:=q.get (t:=rB e v l) (by simp);refine aF (Go.Proofs.mf G J I) ?_;rintro _ w' ⟨v',r,u,y⟩;refine⟨v',q.ey (t':=rB e v' (l++bm n)) u (λ b o E=> ?_) r (λ b c=> ?_)⟩
 ·rcases E with h|h
  ·exact .inl h.1
  ·exact .inr h
 ·rcases c with c|c
  ·exact .inl (.inl c)
  ·rcases y with h|⟨g,h,H⟩
   ·exact .inl (.inr (by rw[<-h];exact c))
   ·rw[h] at c;cases c;exact .inr ⟨H,r.2.2.1.lt h⟩
def D8(n:Nat):List ay:=[ah af 8,ah aj (n:Int),ba]
theorem k34(q:TS w0 ts w)(Z:ie D8 3 (aa p 1 d) [300]∈ts):
  au ag 34 #[aa p 1 d] w λ y w'=>(∃P C,y=aa P 2 C)/\TS w0 ts w':=by
 apply YR;unfold Ni;refine gf (cs:=ba::jG) (by simp) (λ w1 o1 k1 z1=> ?_);have Q:=q.new (t:=rB ⟨w.heap.size,0,none⟩ ba []) k1 (Kk rfl o1) (λ b I=>by
  rcases I with e|e
  ·have e:b=w.heap.size:=e;omega
  ·cases e)
 generalize (⟨w.heap.size,0,none⟩:kd)=e at Q⊢;refine YQ (λ U K n' G a b w'=>e=U/\p=K/\n'=1/\d=G/\a=1/\((b=0/\TS w0 (rB e ba []::ts) w')\/(b=1/\∃v,TS w0 (rB e v (bm 300)::ts) w'))) (λ _ _ _ _ a b _=>(a-b).toNat) ⟨rfl,rfl,rfl,rfl,rfl, .inl ⟨rfl,Q⟩⟩ ?_;rintro _ _ _ _ _ b r ⟨rfl,rfl,rfl,rfl,rfl,⟨rfl,E⟩|⟨rfl,v,E⟩⟩
 ·unfold A9;have h:Sl D8 3 r (aa p 1 d) [300]:=E.get (jI _ Z);refine cJ rfl (Sl.ix (enc:=D8) (z:=3) (l:=[300]) (λ _=>rfl) (by omega) h (by omega) (by simp) (λ a _ H=>⟨_,H 0 _ rfl,_,H 1 _ rfl,_,_,_,H 2 _ rfl, ?_⟩));refine vA (a:=ah af 8) (b:=ah aj ((300:Nat):Int)) (c:=ba) trivial trivial trivial (λ w3 N k3 z3=> ?_);have R:=N.at 0 rfl;rw[add_zero] at R;refine⟨_,R,aT rfl (aT rfl (aT rfl (aT rfl (aT rfl (aT rfl (aT rfl (aT rfl (cJ rfl ⟨_,N.at 1 rfl, ?_⟩))))))))⟩;refine aF ((E.aH k3).mf (by omega) (by simp)) ?_;rintro _ w4 ⟨v',q4⟩;unfold kh;exact⟨⟨rfl,rfl,rfl,rfl,rfl, .inr ⟨rfl,v',q4⟩⟩,by decide⟩
 ·unfold A9;refine aT rfl ⟨_,_,Ju r,_,_,_,rfl, ?_⟩;have q3:=E.aH (bA r (.cells #[] 5));have J:dA _ e v (bm 300):=q3.get (t:=rB e v (bm 300)) (by simp);refine aF (om J) ?_;rintro _ w4 ⟨rfl,rfl⟩;obtain⟨vp,vc,rfl⟩:=J.sl;refine⟨_,_,_,rfl, ?_⟩;have u:(bm 300).length=2:=by
   rw[bm,dif_neg (by omega),dH,bm,dif_pos (by omega)];rfl
  refine oi (enc:=fK) (l:=([]:Wd)) (m:=bm 300) VV (va r 1 5) J.2.2.1.cV (by simp;omega) (by simp;omega) (λ K G w5 ho X _=> ?_);have k5:aS r w5:=Fr.new (bA r (.cells #[] 5)) X (λ b o W=>by
   have I:some r.heap.size=some b:=W.1;cases I;exact bB _)
  rw[u];exact⟨⟨K,G,rfl⟩,(E.aH k5).tail⟩
theorem k9:au ag 9 #[] w λ r w'=>r=aQ true/\aS w w':=by
 apply c9;unfold v9;have rd:∀{α:Type} {enc:α->List ay} {z:Nat} {ty et:cK} {n:Nat} {c:Array (Nat×ay)} {l:List α} {us:List LT} {w':ak} {K:OA->Nat->Nat->ak->Prop},TS w us w'->(bw ty n c).run ag w'= .ok (aa (some ⟨w'.heap.size,0,none⟩) n n) (w'.alloc (.cells ⟨l.flatMap enc⟩ et))->(l.flatMap enc).length=n*z->l.length=n->
   (∀w'' P,TS w (ie enc z (aa P n n) l::us) w''->K P n n w'')->aP ag (bw ty n c) w' λ r R=>az (ax r) λ sP sL sC=>K sP sL sC R:=by
  intro α enc z ty et n c l us w' K q hr hl hn Z;refine⟨_,_,hr,_,_,_,rfl,Z _ _ (q.new (t:=ie enc z (aa (some ⟨w'.heap.size,0,none⟩) n n) l) (bA _ _) ?_ (λ b X=> ?_))⟩
  ·show aX _ z _ l.length _;rw[hn];exact aX.new w' z (l.flatMap enc) et n n hl (bB _)
  ·have u:some w'.heap.size=some b:=X;cases u;simp
 refine rd (enc:=cO) (z:=1) (et:=43) (l:=[1,2]) (TS.nil (Fr.refl _ w)) (by kernel_rfl) rfl rfl (λ R J q1=> ?_);refine rd (enc:=cO) (z:=1) (et:=43) (l:=[2]) q1 (by kernel_rfl) rfl rfl (λ w2 N q2=> ?_);refine rd (enc:=kO) (z:=3) (et:=74) (l:=[(J,2,2),(N,1,1)]) q2 (by kernel_rfl) rfl rfl (λ w3 W q3=> ?_);have G:TS w (lB J N W 2 1 2++[]) w3:=q3.perm (List.Perm.cons _ (d_ _ _ _));refine aF (k32 G) ?_;rintro _ w4 ⟨P,C,rfl,q4⟩;refine⟨_,_,rfl,_,_,_,rfl,_,rfl, ?_⟩;refine rd (enc:=c_) (z:=2) (et:=78) (l:=[(1,2),(3,4)]) q4 (by kernel_rfl) rfl rfl (λ w5 P5 q5=> ?_);refine aF (k33 q5) ?_;rintro _ U ⟨Q,I,rfl,H⟩;refine⟨_,_,_,rfl,cJ rfl (cJ rfl ?_)⟩;have y:cP cO 1 U (aa P 1 C) [1]:=H.get (t:=aO cO 1 (aa P 1 C) [1]) (by simp);refine Sl.ix (enc:=cO) (z:=1) (l:=[1]) (λ _=>rfl) (by omega) y.cV (by omega) (by simp) (λ a _ h=>⟨_,by
  have:=h 0 _ rfl;rwa[add_zero] at this,cJ rfl (cJ rfl ?_)⟩)
 have E:cP c_ 2 U (aa Q 1 I) [((1:Int),(4:Int))]:=H.get (t:=aO c_ 2 (aa Q 1 I) [((1:Int),(4:Int))]) (by simp);refine Sl.ix (enc:=c_) (z:=2) (l:=[((1:Int),(4:Int))]) (λ _=>rfl) (by omega) E.cV (by omega) (by simp) (λ a _ h=>⟨_,h 1 _ rfl,cJ rfl ?_⟩);refine rd (enc:=D8) (z:=3) (et:=81) (l:=[300]) H (by kernel_rfl) rfl rfl (λ w7 P7 q7=> ?_);refine aF (k34 q7 (by simp)) ?_;rintro _ w8 ⟨⟨P8,C8,rfl⟩,q8⟩;exact⟨_,_,_,rfl,rfl,q8.1⟩
end
def D9(w:ak)(L:List bI)(x y:ay):Prop:=∃S B T,cz w x B/\dK w y S/\ng L/\dE S L/\jV S L B (eC S (eB S) L) T
section
variable{w w':ak}{u v:ay}{M:List Wd}{L:List bI}
theorem k8(hu:dK w u M)(H:im w v L)(hM:M.length<=2147483647)(hL:L.length<=2147483647)(hf:∀x∈L,uL x)(hU:DR L):
  au ag 8 #[u,v] w λ r w'=>(r=aZ #[ba,ba,aQ false,aQ false]\/∃x y,r=aZ #[x,y,aQ true,aQ true]/\D9 w' L x y)/\aS w w':=by
 obtain⟨up,uc,rfl,_⟩:=aX.ex hu;obtain⟨vp,vc,rfl,_⟩:=H.ex;apply c8;unfold v8;refine aF (RY hu hM) ?_;rintro _ w1 ⟨⟨b1,rfl,jE⟩,rfl⟩;refine⟨_,rfl,bn (λ c=>⟨.inl rfl,Fr.refl _ _⟩) (λ c=> ?_)⟩;have hM2:=jE (by simpa using c);refine aF (k28 H hL hf) ?_;rintro _ w2 ⟨⟨b2,rfl,je⟩,k2⟩;refine⟨_,rfl,bn (λ c=>⟨.inl rfl,k2⟩) (λ c=> ?_)⟩;have N:=je (by simpa using c);unfold E7;refine aF (Sh (Sl.aH hu k2) (by omega)) ?_;rintro y w3 ⟨U,k3⟩;obtain⟨J,I,rfl,_⟩:=aX.ex U;refine⟨_,_,_,rfl, ?_⟩;have hwl:=yQ M;have Q:∀i (h:i<L.length),(L[i]).labels.length<=10:=λ i h=>(N.2.1 i h).2.2.2.1
 refine XQ (λ sp sl sc J X I i w'=>vp=sp/\sl=L.length/\vc=sc/\aS w1 w'/\∃(k:Nat) (S:List Wd),i=(k:Int)/\k<=L.length/\X=S.length/\S.length<=200+20*k/\dK w' (aa J X I) S) (λ _ _ _ _ _ _ i _=>(L.length-i).toNat) ⟨rfl,rfl,rfl,k2.trans k3,0,_,rfl,dO _,rfl,by omega,U⟩ ?_;rintro _ _ _ J _ I _ w4 ⟨rfl,rfl,rfl,k4,k,S,rfl,hk,rfl,lx,G⟩;unfold E6;have R4:=N.1;refine bn (λ c=> ?_) (λ c=> ?_)
 ·have E:k<L.length:=by simp at c;omega
  have sJ:=Q k E;refine XP (λ sp sl sc J X I i j w'=>vp=sp/\sl=L.length/\vc=sc/\i=(k:Int)/\aS w1 w'/\∃(q:Nat) (S:List Wd),j=(q:Int)/\q<=(L[k]).labels.length/\X=S.length/\S.length<=200+20*k+2*q/\dK w' (aa J X I) S) (λ _ _ _ _ _ _ _ j _=>((L[k]).labels.length-j).toNat) ⟨rfl,rfl,rfl,rfl,k4,0,S,rfl,dO _,rfl,by omega,G⟩ ?_;rintro _ _ _ J _ I _ _ w5 ⟨rfl,rfl,rfl,rfl,k5,q,S,rfl,hq,rfl,lx,G⟩;unfold E3;refine kq (H.aH k5) k E rfl (λ a P1 c1 P2 c2 h0 K h2 h3 h4=>⟨_,_,_,K,bn (λ c=> ?_) (λ c=> ?_)⟩)
  ·have R:q<(L[k]).labels.length:=by simp at c;omega
   have k6:=k5.trans (cu w5);refine kq (H.aH k6) k E rfl (λ a P1 c1 P2 c2 h0 K h2 h3 h4=>⟨_,_,_,K, ?_⟩);refine sK h3 q R rfl (λ a2 g1 g2=>⟨_,g1, ?_⟩);refine kq (H.aH k6) k E rfl (λ a3 P3 c3 P4 c4 m0 m1 m2 m3 m4=>⟨_,_,_,m1, ?_⟩);refine sK m3 q R rfl (λ a4 g3 g4=>⟨_,g4, ?_⟩);refine aF (yP (Sl.aH G (cu w5)) (by omega)) ?_;rintro y w6 ⟨U,k7⟩;obtain⟨yp6,yc6,rfl,_⟩:=aX.ex U;have l1:=(Iu (L[k]).labels[q].1 S).1;refine⟨_,_,_,rfl,k7.at g4,k7.at m1,k7.at K, ?_⟩;refine aF (yP U (by omega)) ?_;rintro y w7 ⟨W,k8⟩;obtain⟨yp7,yc7,rfl,_⟩:=aX.ex W;have l2:=(Iu (L[k]).labels[q].2 (gY (L[k]).labels[q].1 S)).1;refine⟨_,_,_,rfl,(k7.trans k8).at m1,(k7.trans k8).at K, ?_⟩;rw[show aq af ((q:Int)+1)=((q+1:Nat):Int) by rw[bk (by omega) (by omega)];omega];exact⟨⟨rfl,rfl,rfl,rfl,(k6.trans k7).trans k8,q+1,_,rfl,by omega,rfl,by omega,W⟩,by omega⟩
  ·rw[show aq af ((k:Int)+1)=((k+1:Nat):Int) by rw[bk (by omega) (by omega)];omega];have:q<=10:=by omega
   exact⟨⟨rfl,rfl,rfl,k5,k+1,S,rfl,by omega,rfl,by omega,G⟩,by omega⟩
 ·refine aF (RY G (by omega)) ?_;rintro _ w5 ⟨⟨b5,rfl,yE⟩,e⟩;subst e;refine⟨_,rfl,bn (λ c=>⟨.inl rfl,k4⟩) (λ c=> ?_)⟩;have Z:=yE (by simpa using c);refine aF (k30 G (H.aH k4) (by omega) hL hf) ?_;rintro _ w6 ⟨⟨n,rfl,hn⟩,k6⟩;refine⟨_,rfl,bn (λ c=>⟨.inl rfl,k4.trans k6⟩) (λ c=> ?_)⟩;have hR:=hn (by simp at c;omega);have hI:=ajY N hR Z hU;unfold E5;refine aF (k31 (Sl.aH G k6) (H.aH (k4.trans k6)) ⟨N,hR,hI⟩) ?_;rintro _ w7 ⟨x,B,T,rfl,hx,hT,k7⟩;obtain⟨xp,xc,rfl,_⟩:=aX.ex hx;exact⟨_,_,rfl,_,_,_,rfl,_,rfl, .inr ⟨_,_,rfl,S,B,T,hx,Sl.aH G (k6.trans k7),N,hI,hT⟩,(k4.trans k6).trans k7⟩
end
section
variable{w0 w w':ak}{u v:ay}{M:List Wd}{L:List bI}{S:List Wd}{B:Wd}{R:List Nat}{c1:kd}{v2 v3 v4 v5 v6 v7:ay}
structure Hand(w:ak)(c1:kd)(L:List bI)(S:List Wd)(B:Wd)(R:List Nat)(v2 v3 v4 v5 v6 v7:ay):Prop where
 ob:Ob w c1 (de 2 (B.length:Int) v2 v3 v4 v5 v6 v7)
 rd:rA w B S (gR L) (jw L) R (tw L R) v2 v3 v4 v5 v6 v7
 nF:dE S L
 len:R.length=L.length
theorem Hand.aH(h:Hand w c1 L S B R v2 v3 v4 v5 v6 v7)(c:aS w w'):Hand w' c1 L S B R v2 v3 v4 v5 v6 v7:=⟨h.ob.aH c,h.rd.aH c,h.nF,h.len⟩
theorem Wc{K:ay->ak->Prop}(c:∀w',aS w w'->K (aQ true) w'):au ag 9 #[] w λ r h=>aW (ax r) λ b=>K (aQ b) h:=
 aF k9 (by
  rintro _ w'⟨rfl,k⟩;exact⟨_,rfl,c w' k⟩)
theorem We(h:R.length=L.length):(R.zip (L.map (·.labels))).map (·.2)=L.map (·.labels):=List.map_snd_zip (by rw[fu];omega)
end
def TZ(Z:Nat->Prop)(w0:ak)(ts:List LT)(w:ak):Prop:=Fr (λ b _=>Z b) w0 w/\(∀t∈ts,t.F w/\∀b,t.B b->(w0.heap.size<=b\/Z b)/\b<w.heap.size)/\ts.Pairwise LT.ap
section
variable{Z:Nat->Prop}{w0 w w':ak}{ts us:List LT}{t t':LT}{b0:Option Nat}{v:ay}{l:Wd}{d:kd}
theorem TZ.aH(h:TZ Z w0 ts w)(c:aS w w'):TZ Z w0 ts w':=
 ⟨h.1.aH c,λ t q=>⟨t.st (h.2.1 t q).1 c (λ _ _ x=>x.elim),λ b r=>⟨((h.2.1 t q).2 b r).1,dR ((h.2.1 t q).2 b r).2 c.size⟩⟩,h.2.2⟩
theorem TZ.drew(h:TZ Z w0 ts w):TZ Z w0 ts w.drew:=h.aH (cu w)
theorem TZ.get(h:TZ Z w0 ts w)(c:t∈ts):t.F w:=(h.2.1 t c).1
theorem TZ.perm(h:TZ Z w0 ts w)(c:ts.Perm us):TZ Z w0 us w:=
 ⟨h.1,λ t q=>h.2.1 t (c.mem_iff.2 q),(c.pairwise_iff (λ h=>LT.Uq h)).1 h.2.2⟩
theorem TZ.sub(h:TZ Z w0 ts w)(c:us.Sublist ts):TZ Z w0 us w:=⟨h.1,λ t q=>h.2.1 t (c.subset q),h.2.2.sublist c⟩
theorem TZ.tail(h:TZ Z w0 (t::ts) w):TZ Z w0 ts w:=h.sub (List.sublist_cons_self _ _)
theorem TZ.ey{S:Nat->Nat->Prop}(h:TZ Z w0 (t::ts) w)(E:Fr S w w')(K:∀b o,S b o->t.B b)(Q:t'.F w')(J:∀b,t'.B b->t.B b\/(w.heap.size<=b/\b<w'.heap.size)):TZ Z w0 (t'::ts) w':=by
 obtain⟨N,I,hd⟩:=h;have G:=I t (by simp);have q:=iF.1 hd;have R:=N.size;refine⟨Fr.step N E (λ b o H c=>((G.2 b (K b o H)).1).resolve_left (by omega)),λ u r=> ?_,iF.2 ⟨λ u r b c y=> ?_,q.2⟩⟩
 ·rcases dX.1 r with rfl|r
  ·refine⟨Q,λ b c=> ?_⟩;rcases J b c with c|c
   ·exact⟨(G.2 b c).1,dR (G.2 b c).2 E.size⟩
   ·exact⟨.inl (by omega),c.2⟩
  ·have x:=I u (by simp[r]);exact⟨u.st x.1 E (λ b o H c=>q.1 u r b (K b o H) c),λ b c=>⟨(x.2 b c).1,dR (x.2 b c).2 E.size⟩⟩
 ·rcases J b c with c|c
  ·exact q.1 u r b c y
  ·have:=((I u (by simp[r])).2 b y).2;omega
theorem TZ.new(h:TZ Z w0 ts w)(J:aS w w')(I:t.F w')(H:∀b,t.B b->w.heap.size<=b/\b<w'.heap.size):TZ Z w0 (t::ts) w':=by
 have r:TZ Z w0 (⟨λ _=>False,λ _=>True,λ _ _ _=>trivial⟩::ts) w:=by
  obtain⟨y,E,G⟩:=h;refine⟨y,λ u q=> ?_,iF.2 ⟨λ u _ b c=>c.elim,G⟩⟩;rcases dX.1 q with rfl|q
  ·exact⟨trivial,λ b c=>c.elim⟩
  ·exact E u q
 exact r.ey J (λ b o x=>x.elim) I (λ b c=> .inr (H b c))
theorem TZ.ei{a:kd}(q:TZ Z w0 ts w)(c:aJ a [v]∈ts):at_ w a v:=by
 have:=Ob.at (q.get c) 0 rfl;rwa[add_zero] at this
theorem TZ.wr0{pre post:List LT}{a:kd}{x:ay}(q:TZ Z w0 (pre++aJ a [x]::post) w)(u:ay):V.can w a/\TZ Z w0 (pre++aJ a [u]::post) (w.setCell a u):=by
 have q:=q.perm gI;have r:Ob w a [x]:=q.get (t:=aJ a [x]) (by simp);have c:=r.can 0 (by simp);have h:=q.ey (t':=aJ a [u]) (Fr.set w (a.add 0) u) (λ b o y=>by rw[y.1,cT];rfl) (r.set 0 (by simp) u) (λ b E=> .inl E);rw[add_zero] at c h;exact⟨c,h.perm gI.symm⟩
theorem TZ.zM(x:∀b,b0=some b->¬Z b)(q:TZ Z w0 (dF d v::ts) w)(h:Bz w0 b0 v l):dT w d v l:=by
 refine⟨q.get (t:=dF d v) (by simp),aX.fr h.eD q.1 (λ a k c e o _ _ y=>x _ (by rw[<-h.aN,e];rfl) y),λ e=> ?_,h.len⟩;have r:b0=some d.block:=by rw[<-h.aN];exact e
 have E:=h.lt d.block r;rcases((q.2.1 (dF d v) (by simp)).2 d.block rfl).1 with u|u
 ·omega
 ·exact x _ r u
theorem arW(N:∀b,b0=some b->¬Z b)(I:Fr (λ b _=>Z b) w0 w){v':ay}{l':Wd}(h:cz w v' l')(x:V.aN v'=b0)(q:∀b,b0=some b->b<w0.heap.size)(J:l'.length<=1073741824):Bz w0 b0 v' l':=by
 refine⟨?_,x,q,J⟩;obtain⟨p,c,rfl,y,E,G⟩:=h;refine⟨p,c,rfl,y,E,λ j u H=> ?_⟩;obtain⟨a,rfl,K,r⟩:=G j u H;refine⟨a,rfl,K,akf (I.cell (a.add j).block (a.add j).off ?_ ?_) rfl rfl r⟩
 ·rw[cT];exact q a.block (by rw[<-x];rfl)
 ·rw[cT];exact N a.block (by rw[<-x];rfl)
theorem TZ.dec(u:∀b,b0=some b->¬Z b){N:fz}{args:Array ay}{Q:ay->ak->Prop}{l':Wd}(q:TZ Z w0 (dF d v::ts) w)(h:Bz w0 b0 v l)(J:l'.length<=l.length)
  (I:dT w d v l->au ag N args w λ r w'=>Q r w'/\gE w d v w' l'):
  au ag N args w λ r w'=>∃v',Bz w0 b0 v' l'/\TZ Z w0 (dF d v'::ts) w'/\Q r w':=by
 refine aF (I (q.zM u h)) ?_;rintro r w' ⟨K,v',c,y,E⟩;have x:=q.ey (t':=dF d v') y (λ b o G=>G.1) c.1 (λ b H=> .inl H);exact⟨v',arW u x.1 c.2.1 (E.trans h.aN) h.lt (eX J h.len),x,K⟩
theorem TZ.jD(u:∀b,b0=some b->¬Z b){s l':Wd}(q:TZ Z w0 (dF d v::ts) w)(h:Bz w0 b0 v (b8 s++l')):
  au ag 110 #[an (some d)] w λ r w'=>∃v',Bz w0 b0 v' l'/\TZ Z w0 (dF d v'::ts) w'/\Bz w0 b0 r s:=by
 refine aF (q.dec u (l':=l') (Q:=λ r w'=>cz w' r s/\aN r=aN v) h (by simp) (λ hd=>aF (Go.Proofs.jD iO hd) (λ _ _ h=>⟨⟨h.1,h.2.1⟩,h.2.2⟩))) ?_;rintro r w' ⟨v',a,b,c,e⟩;have:=h.len;unfold b8 at this;simp only[aY] at this;exact⟨v',a,b,arW u b.1 c (e.trans h.aN) h.lt (by omega)⟩
theorem D1(x:∀b,b0=some b->¬Z b)(h:Bz w0 b0 v l)(u:Fr (λ b _=>Z b) w0 w):(dq 26 9 v).run ag w= .ok (aC (bs l)) w:=by
 have q:cz w v l:=aX.fr h.eD u (λ a k c e o _ _ r=>x _ (by rw[<-h.aN,e];rfl) r);obtain⟨p,c,rfl,_⟩:=aX.ex q;exact mU q
theorem asO(E:∀b,b0=some b->¬Z b){B:Wd}{p:OA}{cc off:Nat}{rest:Wd}{T:List (Wd×Wd×Nat)}{f:ay}{J:Nat->List LT->Prop}(h:Bz w0 b0 (aa p B.length cc) B)(hd:B.drop off=dh (eP T)++rest)(hT:T.length<=100000)
  (Dk:∀t∈T,t.1.length<=1000/\t.2.1.length<=1000/\t.2.2<4611686018427387904)
  (hf:∀(i:Nat) (hi:i<T.length) (us ts:List LT) (x y:ay) (w:ak),Bz w0 b0 x (T[i]).1->Bz w0 b0 y (T[i]).2.1->J i us->TZ Z w0 (us++ts) w->eJ ag f #[x,y,ah aj ((T[i]).2.2:Int),ah af (iw T i:Int)] w λ r w'=>r=aA/\∃u,J (i+1) u/\TZ Z w0 (u++ts) w')
  (Kq:J 0 us)(q:TZ Z w0 (us++ts) w)(JO:off<=B.length):
  au ag 43 #[cW (aa p B.length cc),ah aj (off:Int),f] w λ r w'=>r=aA/\∃u,J T.length u/\TZ Z w0 (u++ts) w':=by
 have gQ:=h.len;have jN:(eP T).length<=B.length:=by
  have:=congrArg fZ hd;rw[aY,pJ,hY] at this;omega
 have Kr:B.drop off=be 4 (eP T).length++(eP T++(be 4 (cI 0 (eP T))++rest)):=by
  rw[hd,dh];simp only[dx]
 have now:∀{v:ay} {l:Wd} {w:ak},Bz w0 b0 v l->Fr (λ b _=>Z b) w0 w->cz w v l:=λ h hk=>aX.fr h.eD hk (λ a k c e o _ _ hS=>E _ (by rw[<-h.aN,e];rfl) hS)
 apply c43;unfold Ps;refine aF sq ?_;rintro _ w1 ⟨t,rfl,jP,i_,ht,k1⟩;refine⟨_,rfl, ?_⟩;have q1:=q.aH k1;rw[bk (by omega) (by omega)];refine aF (CD (now h q1.1) ht gQ Kr) ?_;rintro _ N ⟨v2,rfl,U,je,k2⟩;have q2:=q1.aH k2;have I:Bz w0 b0 v2 (eP T):=arW E q2.1 U (je.trans h.aN) h.lt (by omega);obtain⟨p2,c2,rfl,_⟩:=aX.ex U;refine⟨_,_,_,_,rfl, ?_⟩;refine Ji trivial trivial (λ w3 lL k3 I3=> ?_);have q3:TZ Z w0 (dF ⟨N.heap.size,0,none⟩ (aa p2 (eP T).length c2)::(us++ts)) w3:=q2.new (t:=dF ⟨N.heap.size,0,none⟩ (aa p2 (eP T).length c2)) k3 lL (λ b hb=>by
  have gD:b=N.heap.size:=hb;omega)
 refine aF (Go.Proofs.jC (q3.zM E I)) ?_;rintro _ w3 ⟨rfl,rfl⟩;refine⟨_,rfl, ?_⟩;unfold eP at I;refine aF (q3.dec E (l':=T.flatMap cX) I (by simp) (λ hd=>Go.Proofs.Cy hd (by omega))) ?_;rintro _ w4 ⟨v4,hz4,q4,rfl⟩;refine⟨_,rfl, ?_⟩;have hlen:(eP T).length=4+(T.flatMap cX).length:=by unfold eP;rw[aY,cH]
 refine abO (λ f' d' sl cnt w'=>f=f'/\⟨N.heap.size,0,none⟩=d'/\sl=((eP T).length:Int)/\∃(k:Nat) (v:ay) (us:List LT),k<=T.length/\cnt=((T.length-k:Nat):Int)/\J k us/\Bz w0 b0 v ((T.drop k).flatMap cX)/\TZ Z w0 (dF ⟨N.heap.size,0,none⟩ v::(us++ts)) w') (λ _ _ _ cnt _=>cnt.toNat) ?_ ?_
 ·exact⟨rfl,rfl,rfl,0,v4,us,by omega,by simp,Kq,hz4,q4⟩
 ·rintro _ _ _ _ w ⟨rfl,rfl,rfl,k,v,us,hk,rfl,hJ,K,q⟩;unfold GZ;refine aF (Go.Proofs.fU (q.zM E K)) ?_;rintro _ w ⟨rfl,rfl⟩;refine⟨_,rfl,_,λ w=>pK _ w,_,rfl,cJ rfl ?_⟩;refine aF (Go.Proofs.jC (q.zM E K)) ?_;rintro _ w ⟨rfl,rfl⟩;refine⟨_,rfl, ?_⟩;have G:k=T.length->sh (λ r w'=>r=aA/\∃u,J T.length u/\TZ Z w0 (u++ts) w') ⟨N.heap.size,0,none⟩ w:=by
   rintro rfl;unfold sh;refine aF (Go.Proofs.fU (q.zM E K)) ?_;rintro _ w' ⟨rfl,rfl⟩;exact⟨_,rfl,rfl,us,hJ,q.tail⟩
  refine bn (λ _=>bn (λ Q=> ?_) (λ Q=>G (by simp at Q;omega))) (λ Q=>G ?_)
  ·have H:k<T.length:=by simp at Q;omega
   obtain⟨t1,t2,t3⟩:=Dk _ (iy H);have hdk:(T.drop k).flatMap cX=cX (T[k])++(T.drop (k+1)).flatMap cX:=by rw[gS H,fG]
   unfold GY;refine aF (Go.Proofs.jC (q.zM E K)) ?_;rintro _ w ⟨rfl,rfl⟩;refine⟨_,rfl, ?_⟩;have R:aq af (((eP T).length:Int)-(((T.drop k).flatMap cX).length:Int))=(iw T k:Int):=by
    have e:=congrArg (λ l=>(l.flatMap cX).length) (kC k T);simp only[jK,aY] at e;unfold iw;rw[bk (by omega) (by omega)];omega
   dsimp only;rw[R];have hte:∀X:Wd,cX (T[k])++X=bm 2++(b8 (T[k]).1++(b8 (T[k]).2.1++(bm (T[k]).2.2++X))):=λ X=>by
    unfold cX;simp only[dx]
   rw[hdk,hte] at K;refine aF (q.dec E (l':=b8 (T[k]).1++(b8 (T[k]).2.1++(bm (T[k]).2.2++(T.drop (k+1)).flatMap cX))) K (by simp) (λ hd=>Go.Proofs.kI iO hd (by omega))) ?_;rintro _ w1 ⟨v1,hz1,q1,rfl⟩;refine⟨_,rfl,aT rfl ?_⟩;refine aF (q1.jD E hz1) ?_;rintro x wx ⟨vx,hzx,qx,hx⟩;obtain⟨xp,xc,rfl,_⟩:=aX.ex hx.eD;refine⟨_,_,_,rfl, ?_⟩;refine aF (qx.jD E hzx) ?_;rintro y wy ⟨vy,hzy,qy,hy⟩;obtain⟨yp,yc,rfl,_⟩:=aX.ex hy.eD;refine⟨_,_,_,rfl, ?_⟩;refine aF (qy.dec E (l':=(T.drop (k+1)).flatMap cX) hzy (by simp) (λ hd=>Go.Proofs.mh iO hd (by omega))) ?_;rintro _ wz ⟨vz,W,qz,rfl⟩;refine⟨_,rfl, ?_⟩;refine aF (Go.Proofs.fU (qz.zM E W)) ?_;rintro _ wz ⟨rfl,rfl⟩;refine⟨_,rfl,_,λ w=>cE _ w,_,rfl,aT rfl ?_⟩;obtain⟨n,ar,e1,e2⟩:=hf k H us _ _ _ _ hx hy hJ (qz.perm gI.symm);refine⟨n,ar,e1,aF e2 ?_⟩;rintro _ w5 ⟨rfl,DU,Vy,q5⟩;refine⟨_,rfl,_,λ w=>cE _ w,_,rfl,aT rfl ?_⟩;rw[show aq aL (((T.length-k:Nat):Int)-1)=((T.length-(k+1):Nat):Int) by rw[iY (by omega) (by omega)];omega];exact⟨⟨rfl,rfl,rfl,k+1,vz,DU,by omega,rfl,Vy,W,q5.perm gI⟩,by omega⟩
  ·have h0:((T.drop k).flatMap cX).length=0:=by rw[decide_eq_false_iff_not] at Q;omega
   cases eZ:T.drop k with
   |nil=>
    have:=congrArg fZ eZ;rw[hY] at this;simp at this;omega
   |cons t r=>
    rw[eZ,fG,aY] at h0;have:0<(cX t).length:=by
     unfold cX;rw[aY];have:=jB 2;omega
    omega
end
theorem arX:gW ag 44 57 db 2 32 [aC ⟨#[]⟩,aC ⟨#[]⟩]:=
 ⟨⟨by kernel_rfl,by kernel_rfl,rfl,by decide⟩,λ _=>rfl,λ x u c=>by simp[db] at c;rcases c with rfl|rfl<;>rfl⟩
theorem asj(x:Wd×Wd)(w:ak):(bw 44 1 #[(0,aV #[aC (bs x.1),aC (bs x.2)])]).run ag w= .ok (aa (some ⟨w.heap.size,0,none⟩) 1 1) (w.alloc (.cells ⟨db x⟩ 57)):=by kernel_rfl
section
variable{Z:Nat->Prop}{w0 w w':ak}{ts us:List LT}{b0:Option Nat}{B rest l:Wd}{p:OA}{cc:Nat}{c0 c1 c2 c3:kd}{v:ay}{T:List (Wd×Wd×Nat)}
theorem TZ.bld{α:Type}{e ty:cK}{enc:α->List ay}{z:Nat}{E:ay}{x:α}{K:OA->Nat->Nat->ak->Prop}(q:TZ Z w0 us w)(I:(enc x).length=z)
  (u:(bw ty 1 #[(0,E)]).run ag w= .ok (aa (some ⟨w.heap.size,0,none⟩) 1 1) (w.alloc (.cells ⟨enc x⟩ e)))(G:∀p w',TZ Z w0 (ie enc z (aa p 1 1) [x]::us) w'->K p 1 1 w'):
  aP ag (bw ty 1 #[(0,E)]) w λ r H=>az (ax r) λ p n c=>K p n c H:=
 ⟨_,_,u,_,_,_,rfl,G _ _ (q.new (t:=ie enc z (aa (some ⟨w.heap.size,0,none⟩) 1 1) [x]) (bA _ _) (by
  have h:=aX.new w z (enc x) e 1 1 (by omega) (bB _);show aX _ z _ _ _;simpa using h) (λ b u=>by
  have y:some w.heap.size=some b:=u;cases y;simp))⟩
theorem TZ.arf{α:Type}{e ty:cK}{enc:α->List ay}{z fA:Nat}{zs:List ay}(U:gW ag ty e enc z fA zs){x:α}{l:List α}{v:ay}{P:OA}{K:OA->Nat->Nat->ak->Prop}(q:TZ Z w0 (aO enc z v l::us) w)(hm:ie enc z (aa P 1 1) [x]∈us)
  (hl:(l.length+1)*fA<=140737488355328)(I:l.length+1<=4611686018427387904)
  (X:∀p c w',TZ Z w0 (aO enc z (aa p (l.length+1) c) (l++[x])::us) w'->K p (l.length+1) c w'):
  aP ag (cM #[ty,ty] ty #[v,aa P 1 1]) w λ r w2=>az (ax r) λ p n c=>K p n c w2:=by
 have ho:cP enc z w v l:=q.get (t:=aO enc z v l) (by simp);have hx:Sl enc z w (aa P 1 1) [x]:=q.get (t:=ie enc z (aa P 1 1) [x]) (jI _ hm);refine oi (enc:=enc) (l:=l) (m:=[x]) U ho hx (by simpa using hl) (by simpa using I) (λ J y w3 u W G=> ?_);refine X _ _ _ (q.ey (t':=aO enc z (aa J (l.length+1) y) (l++[x])) (W.mono (λ b o _ E=>E.1)) (λ b o E=>E) (by
  have e:(l++[x]).length=l.length+[x].length:=by simp
  exact u) (λ b N=> ?_))
 rcases G with R|⟨g,Q,H⟩
 ·have h:aN (aa J (l.length+[x].length) y)=some b:=N;exact .inl (show aN v=some b by rw[<-R];exact h)
 ·have h:aN (aa J (l.length+[x].length) y)=some b:=N;rw[Q] at h;cases h;exact .inr ⟨H,u.lt Q⟩
theorem asP(c:∀b,b0=some b->¬Z b){x y:ay}{z:Int}{A:List (Wd×Wd)}{C:List Nat}{a b:Wd}{n i:Nat}{W R:OA}{U K:Nat}(e1:A.length=i)(e2:C.length=i)(hl:i<=100000)(N:Bz w0 b0 x a)(Q:Bz w0 b0 y b)
  (q:TZ Z w0 (aO db 2 (aa W i U) A::aO cO 1 (aa R i K) C::aJ c1 [aa W i U]::aJ c2 [aa R i K]::ts) w):
  au ag 44 #[x,y,ah aj (n:Int),ah af z,an (some c1),an (some c2)] w λ r w'=>r=aA/\∃W U R K,TZ Z w0 (aO db 2 (aa W (i+1) U) (A++[(a,b)])::aO cO 1 (aa R (i+1) K) (C++[n])::aJ c1 [aa W (i+1) U]::aJ c2 [aa R (i+1) K]::ts) w':=by
 obtain⟨xp,xc,rfl,_⟩:=aX.ex N.eD;obtain⟨yp,yc,rfl,_⟩:=aX.ex Q.eD;apply c44;unfold v44;have h:=q.drew;have a1:∀{w:ak} {us},TZ Z w0 us w->aJ c1 [aa W i U]∈us->at_ w c1 (aa W i U):=λ q hm=>q.ei hm
 have a2:∀{w:ak} {us},TZ Z w0 us w->aJ c2 [aa R i K]∈us->at_ w c2 (aa R i K):=λ q hm=>q.ei hm
 refine⟨_,_,_,a1 h (by simp),_,D1 c N h.1,_,rfl,_,D1 c Q h.1,_,rfl,_,_,_,a2 h (by simp), ?_⟩;have fin:∀{w:ak} {H I:OA} {E G:Nat} {ra rb:LT},TZ Z w0 (aO cO 1 (aa I (C.length+1) G) (C++[n])::aO db 2 (aa H (A.length+1) E) (A++[(a,b)])::ra::rb::aJ c1 [aa W i U]::aJ c2 [aa R i K]::ts) w->
   wr w c1 (aa H (A.length+1) E) λ ze=>wr ze c2 (aa I (C.length+1) G) λ qU=>aA=aA/\∃W U R K,TZ Z w0 (aO db 2 (aa W (i+1) U) (A++[(a,b)])::aO cO 1 (aa R (i+1) K) (C++[n])::aJ c1 [aa W (i+1) U]::aJ c2 [aa R (i+1) K]::ts) qU:=by
  intro w H I E G ra rb q;rw[e1,e2] at q⊢;obtain⟨h1,q1⟩:=q.wr0 (pre:=[aO cO 1 _ _,aO db 2 _ _,ra,rb]) (a:=c1) (aa H (i+1) E);refine⟨⟨trivial,h1⟩, ?_⟩;obtain⟨h2,q2⟩:=q1.wr0 (pre:=[aO cO 1 _ _,aO db 2 _ _,ra,rb,aJ c1 _]) (a:=c2) (aa I (i+1) G);refine⟨⟨trivial,h2⟩,rfl,H,E,I,G, ?_⟩;have q3:=q2.sub (us:=aO cO 1 (aa I (i+1) G) (C++[n])::aO db 2 (aa H (i+1) E) (A++[(a,b)])::aJ c1 [aa H (i+1) E]::aJ c2 [aa I (i+1) G]::ts) (.cons_cons _ (.cons_cons _ (.cons _ (.cons _ (lE _)))));exact q3.perm (d_ _ _ _)
 have jE:(A.length+1)*32<=140737488355328:=by omega
 have je:(C.length+1)*8<=140737488355328:=by omega
 have h4:∀{w:ak} {ra rb x y:LT} {us},TZ Z w0 (ra::rb::x::y::us) w->TZ Z w0 (x::y::ra::rb::us) w:=λ{w ra rb x y us} q=>q.perm (vN (l₁:=[ra,rb,x,y]) (l₂:=[x,y,ra,rb]) us (List.perm_append_comm (l₁:=[ra,rb]) (l₂:=[x,y])))
 have s5:∀{w:ak} {a b:LT} {us},TZ Z w0 (a::b::us) w->TZ Z w0 (b::a::us) w:=λ q=>q.perm (d_ _ _ _)
 refine⟨?_, ?_⟩
 ·refine h.bld (x:=(a,b)) (z:=2) rfl (asj (a,b) _) (λ pa wa X=>⟨a2 X (by simp),D1 c Q X.1,D1 c N X.1,a1 X (by simp), ?_, ?_⟩)
  ·refine(s5 X).arf arX (x:=(a,b)) (P:=pa) (by simp) jE (by omega) (λ pb cb wb J=>⟨a2 J (by simp),D1 c Q J.1,D1 c N J.1, ?_⟩);refine J.bld (x:=n) (z:=1) rfl (alY n _) (λ pc wc u=>⟨a2 u (by simp),D1 c Q u.1,D1 c N u.1, ?_⟩);have qc':=u.perm (us:=aO cO 1 (aa R i K) C::aO db 2 (aa pb (A.length+1) cb) (A++[(a,b)])::ie cO 1 (aa pc 1 1) [n]::ie db 2 (aa pa 1 1) [(a,b)]::aJ c1 [aa W i U]::aJ c2 [aa R i K]::ts) (vN (_::_::ts) (amy _ _ _ _));exact qc'.arf alX (x:=n) (P:=pc) (by simp) je (by omega) (λ pd cd wd h=>⟨D1 c Q h.1,D1 c N h.1,fin h⟩)
  ·refine X.bld (x:=n) (z:=1) rfl (alY n _) (λ pc wc u=>⟨a2 u (by simp),D1 c Q u.1,D1 c N u.1,a1 u (by simp), ?_⟩);refine(h4 u).arf arX (x:=(a,b)) (P:=pa) (by simp) jE (by omega) (λ pb cb wb J=>⟨a2 J (by simp),D1 c Q J.1,D1 c N J.1, ?_⟩);exact(s5 J).arf alX (x:=n) (P:=pc) (by simp) je (by omega) (λ pd cd wd h=>⟨D1 c Q h.1,D1 c N h.1,fin h⟩)
 ·refine h.bld (x:=n) (z:=1) rfl (alY n _) (λ pa wa X=>⟨a2 X (by simp),D1 c Q X.1,D1 c N X.1,a1 X (by simp), ?_⟩);refine X.bld (x:=(a,b)) (z:=2) rfl (asj (a,b) _) (λ pc wc u=>⟨a2 u (by simp),D1 c Q u.1,D1 c N u.1,a1 u (by simp), ?_⟩);refine(h4 u).arf arX (x:=(a,b)) (P:=pc) (by simp) jE (by omega) (λ pb cb wb J=>⟨a2 J (by simp),D1 c Q J.1,D1 c N J.1, ?_⟩);exact(s5 J).arf alX (x:=n) (P:=pa) (by simp) je (by omega) (λ pd cd wd h=>⟨D1 c Q h.1,D1 c N h.1,fin h⟩)
def arC(c1 c2:kd)(T:List (Wd×Wd×Nat))(i:Nat)(us:List LT):Prop:=
 ∃q c r h,us=[aO db 2 (aa q i c) ((T.take i).map λ t=>(t.1,t.2.1)),aO cO 1 (aa r i h) ((T.take i).map (·.2.2)),aJ c1 [aa q i c],aJ c2 [aa r i h]]
theorem k44(N:∀b,b0=some b->¬Z b){x y:ay}{z:Int}{i:Nat}(hi:i<T.length)(U:T.length<=100000)(J:Bz w0 b0 x (T[i]).1)(K:Bz w0 b0 y (T[i]).2.1)(I:arC c1 c2 T i us)(q:TZ Z w0 (us++ts) w):
  au ag 44 #[x,y,ah aj ((T[i]).2.2:Int),ah af z,an (some c1),an (some c2)] w λ r w'=>r=aA/\∃c,arC c1 c2 T (i+1) c/\TZ Z w0 (c++ts) w':=by
 obtain⟨W,Q,X,R,rfl⟩:=I;refine aF (asP N (by rw[fu,fS];omega) (by rw[fu,fS];omega) (by omega) J K q) ?_;rintro _ w' ⟨rfl,E,h,G,u,H⟩;have t1:((T.take i).map λ t=>(t.1,t.2.1))++[((T[i]).1,(T[i]).2.1)]=(T.take (i+1)).map λ t=>(t.1,t.2.1):=by rw[jm hi,iE];rfl
 have t2:((T.take i).map (·.2.2))++[(T[i]).2.2]=(T.take (i+1)).map (·.2.2):=by rw[jm hi,iE];rfl
 rw[t1,t2] at H;exact⟨rfl,_,⟨E,h,G,u,rfl⟩,H⟩
theorem asR{w:ak}{x y z u:ay}{a b:OA}{K:ay->ak->Prop}(h:au ag 44 #[x,y,z,u,an a,an b] w K):eJ ag (.func (.func 44) #[] #[an a,an b]) #[x,y,z,u] w K:=⟨44,_,by kernel_rfl,h⟩
end
section
variable{w0 w w' w3 w5:ak}{ts us:List LT}{b0:Option Nat}{B rest l:Wd}{p:OA}{cc:Nat}{c0 c1 c2 c3:kd}{v:ay}{T:List (Wd×Wd×Nat)}{S:List Wd}{L:List bI}{R:List Nat}
theorem TS.DT{f:ay}{K:ay->ak->Prop}(q:TS w ts w3)
  (hd:∀c g,TS w (aJ ⟨g,0,none⟩ [aQ false]::ts) c->eJ ag f #[] c λ r w5=>∃us,TS w (aJ ⟨g,0,none⟩ [aQ false]::us) w5/\∀h,TS w us h->K (aQ true) h):au ag 35 #[f] w3 K:=by
 refine Go.Proofs.DT (λ c g k4 J Q=> ?_);obtain⟨n,x,E,G⟩:=hd c g (q.flag k4 J Q);refine⟨n,x,E,aF G ?_⟩;rintro r w5 ⟨us,u,N⟩;exact⟨u.get (t:=aJ ⟨g,0,none⟩ [aQ false]) (by simp),λ h y=>N h (u.ey (t':=KR (λ b=>b=g)) y (λ b o H=>H) trivial (λ b I=> .inl I)).tail⟩
theorem TZ.back{I J:ay}(q:TS w (aJ c1 [I]::aJ c2 [J]::ts) w3)(h:TZ (λ b=>b=c1.block\/b=c2.block) w3 us w5):TS w (us++ts) w5:=by
 have N:=(q.2.1 (aJ c1 [I]) (by simp)).2 c1.block rfl;have Q:=(q.2.1 (aJ c2 [J]) (by simp)).2 c2.block rfl;have H:∀b,(b=c1.block\/b=c2.block)->w.heap.size<=b/\b<w3.heap.size:=λ b c=>by rcases c with rfl|rfl<;>assumption
 have U:=q.1.size;have y:=q.2.2;have ap:∀t∈ts,∀b,t.B b->¬(b=c1.block\/b=c2.block):=λ t r b c G=>by
  rw[iF,iF] at y;rcases G with rfl|rfl
  ·exact y.1 t (by simp[r]) _ rfl c
  ·exact y.2.1 t r _ rfl c
 refine⟨Fr.new q.1 h.1 (λ b o c=>(H b c).1),λ t r=> ?_,List.pairwise_append.2 ⟨h.2.2,(iF.1 (iF.1 y).2).2,λ a K t r b c x=> ?_⟩⟩
 ·rcases mG.1 r with r|r
  ·obtain⟨E,u⟩:=h.2.1 t r;exact⟨E,λ b c=>⟨((u b c).1).elim (λ h=>by omega) (λ h=>(H b h).1),(u b c).2⟩⟩
  ·obtain⟨E,u⟩:=q.2.1 t (by simp[r]);have:=h.1.size;exact⟨t.st E h.1 (λ b o G c=>ap t r b c G),λ b c=>⟨(u b c).1,by have:=(u b c).2;omega⟩⟩
 ·have g:=((q.2.1 t (by simp[r])).2 b x).2;rcases((h.2.1 a K).2 b c).1 with h|h
  ·omega
  ·exact ap t r b x h
theorem k40(c:cz w (aa p B.length cc) B)(hI:jV S L B R T)(hT:nE T B)(q:TS w (aJ c1 [ba]::aJ c2 [ba]::aJ c3 [aQ false]::aJ c0 [aa p B.length cc]::ts) w'):
  au ag 40 #[an (some c0),an (some c1),an (some c2),an (some c3)] w' λ r w''=>∃us,arC c1 c2 T T.length us/\TS w (us++(aJ c3 [aQ true]::aJ c0 [aa p B.length cc]::ts)) w'':=by
 obtain⟨pre,a0,b1,d1,e1,pt,I,l1,l2,l3,l4,hB,Vo,Z⟩:=hI.toc;have gQ:=hI.len;have W:B≠[]:=λ e=>by rw[e] at I;simp at I
 have oD:=hT.len;apply c40;unfold v40;refine⟨_,_,Ju w',_,_,_,rfl, ?_⟩;have q1:=q.aH (bA w' (.cells #[] 5));refine⟨_,_,_,q1.ei (a:=c0) (v:=aa p B.length cc) (by simp), ?_⟩;dsimp only;refine amX (p:=p) (cc:=cc) (B:=B) q rfl c (by omega) (λ N E w3 q3 lJ G=> ?_) ⟨rfl,rfl,rfl⟩;refine aF (c41 ⟨rfl,rfl⟩:au ag 41 #[aa N B.length E] w3 λ r w4=>r=cW (aa N B.length E)/\w3=w4) ?_;rintro _ _ ⟨rfl,rfl⟩;have K:Bz w3 (aN (aa N B.length E)) (aa N B.length E) B:=⟨G,rfl,λ b e=>Vr G W e,by omega⟩;refine⟨_,rfl, ?_⟩;refine aF (k42 (TS.nil (Fr.refl _ w3)) K hB ⟨by omega,by omega,by omega,by omega,by omega,by omega⟩) ?_;rintro _ w4 ⟨n,rfl,q4⟩;refine⟨_,_,rfl,_,rfl,_,rfl,_,λ w=>cE _ w,_,rfl,aT rfl ?_⟩;refine⟨_,q4.at List.mem_cons_self 5 rfl, ?_⟩;have bl:∀{t:LT} {b:Nat},t∈aJ c1 [ba]::aJ c2 [ba]::aJ c3 [aQ false]::aJ c0 [aa p B.length cc]::ts->t.B b->b<w'.heap.size:=λ hm c=>q.blt hm c
 have U:∀b,aN (aa N B.length E)=some b->¬(b=c1.block\/b=c2.block):=λ b c U=>by
  have h0:=lJ.2 b c;rcases U with rfl|rfl
  ·have:=bl (t:=aJ c1 [ba]) (by simp) rfl;omega
  ·have:=bl (t:=aJ c2 [ba]) (by simp) rfl;omega
 have u:=q3.aH q4.1;have H:c1.block≠c2.block:=λ e=>(iF.1 q3.2.2).1 (aJ c2 [ba]) (by simp) c1.block rfl e
 have qz:TZ (λ b=>b=c1.block\/b=c2.block) w3 ([aO db 2 ba [],aO cO 1 ba [],aJ c1 [ba],aJ c2 [ba]]++[]) w4:=by
  refine⟨q4.1.mono (λ b o _ h=>h.elim),λ t Q=> ?_, ?_⟩
  ·simp only[iA,dX,List.not_mem_nil,or_false] at Q;rcases Q with rfl|rfl|rfl|rfl
   ·exact⟨Own.nil _ _,λ b c=>by cases c⟩
   ·exact⟨Own.nil _ _,λ b c=>by cases c⟩
   ·exact⟨u.get (t:=aJ c1 [ba]) (by simp),λ b c=>⟨.inr (.inl c),u.blt (t:=aJ c1 [ba]) (by simp) c⟩⟩
   ·exact⟨u.get (t:=aJ c2 [ba]) (by simp),λ b c=>⟨.inr (.inr c),u.blt (t:=aJ c2 [ba]) (by simp) c⟩⟩
  ·show List.Pairwise LT.ap [aO db 2 ba [],aO cO 1 ba [],aJ c1 [ba],aJ c2 [ba]];refine iF.2 ⟨λ t _ b c=>(by cases c),iF.2 ⟨λ t _ b c=>(by cases c),iF.2 ⟨λ t Q b h1 h2=> ?_,List.pairwise_singleton _ _⟩⟩⟩;rw[oO.1 Q] at h2;exact H (h1.symm.trans h2)
 refine aF (asO U (J:=arC c1 c2 T) K Z (by omega) hT.bd (λ i hi us ts x y w hx hy X q=>asR (k44 U hi (by omega) hx hy X q)) ⟨none,0,none,0,rfl⟩ qz (by omega)) ?_;rintro _ w5 ⟨rfl,us,X,q5⟩;rw[iA] at q5;refine⟨_,rfl,_,λ w=>pK _ w,_,rfl, ?_⟩;have q6:=q5.back q3;obtain⟨g7,q7⟩:=q6.fq (a:=c3) (cs:=[aQ false]) 0 (by simp) (aQ true);rw[add_zero] at g7 q7;exact⟨⟨trivial,g7⟩,us,X,q7⟩
theorem asT{w:ak}{a b c d:OA}{K:ay->ak->Prop}(h:au ag 40 #[an a,an b,an c,an d] w K):eJ ag (.func (.func 40) #[] #[an a,an b,an c,an d]) #[] w K:=⟨40,_,by kernel_rfl,h⟩
theorem k18(hb:cz w (aa p B.length cc) B)(hI:jV S L B R T)(hT:nE T B):
  au ag 18 #[aa p B.length cc] w λ r w'=>∃x y,r=aZ #[x,y,aQ true]/\Sl db 2 w' x (T.map λ t=>(t.1,t.2.1))/\Sl cO 1 w' y (T.map (·.2.2))/\aS w w':=by
 apply c18;unfold v18;refine gf (cs:=[aa p B.length cc]) (by simp) (λ w1 o1 k1 z1=> ?_);have X:=(TS.nil (Fr.refl _ w)).ob o1 k1 rfl (by omega);generalize (⟨w.heap.size,0,none⟩:kd)=c0 at X⊢;refine gf (cs:=[ba]) (by simp) (λ w2 o2 k2 z2=> ?_);have Z:=X.ob o2 k2 rfl (by omega);generalize (⟨w1.heap.size,0,none⟩:kd)=c1 at Z⊢;refine gf (cs:=[ba]) (by simp) (λ w3 o3 k3 z3=> ?_);have q3:=Z.ob o3 k3 rfl (by omega);generalize (⟨w2.heap.size,0,none⟩:kd)=c2 at q3⊢;refine gf (cs:=[aQ false]) (by simp) (λ w4 o4 k4 z4=> ?_);have q4:=q3.ob o4 k4 rfl (by omega);generalize (⟨w3.heap.size,0,none⟩:kd)=c3 at q4⊢;refine q4.DT (λ w5 g K=>asT ?_);have K:=K.perm (us:=aJ c1 [ba]::aJ c2 [ba]::aJ c3 [aQ false]::aJ c0 [aa p B.length cc]::[aJ ⟨g,0,none⟩ [aQ false]]) (by
  classical
  rw[oV];intro z;simp only[oW];omega)
 refine aF (k40 hb hI hT K) ?_;rintro _ w6 ⟨us,hJ,q6⟩;refine⟨us++(aJ c3 [aQ true]::[aJ c0 [aa p B.length cc]]),q6.perm ?_,λ w7 N=> ?_⟩
 ·have:us++(aJ c3 [aQ true]::aJ c0 [aa p B.length cc]::[aJ ⟨g,0,none⟩ [aQ false]])=(us++(aJ c3 [aQ true]::[aJ c0 [aa p B.length cc]]))++[aJ ⟨g,0,none⟩ [aQ false]]:=by simp
  rw[this];exact List.perm_append_singleton _ _
 obtain⟨E,u,q,h,rfl⟩:=hJ;rw[fY] at N;refine⟨_,rfl,aT rfl ⟨_,N.ei (a:=c3) (v:=aQ true) (by simp),aT rfl ?_⟩⟩;unfold arU;have Q:=N.drew;refine⟨_,_,_,Q.ei (a:=c1) (v:=aa E T.length u) (by simp),_,_,_,Q.ei (a:=c2) (v:=aa q T.length h) (by simp), ?_⟩;obtain⟨W,U⟩:=Q.fq (pre:=[aO db 2 (aa E T.length u) (T.map λ t=>(t.1,t.2.1)),aO cO 1 (aa q T.length h) (T.map (·.2.2))]) (a:=c1) (cs:=[aa E T.length u]) 0 (by simp) (aa E T.length u);rw[add_zero] at W U;refine⟨⟨trivial,W⟩,U.ei (a:=c2) (v:=aa q T.length h) (by simp), ?_⟩;obtain⟨G,I⟩:=U.fq (pre:=[aO db 2 (aa E T.length u) (T.map λ t=>(t.1,t.2.1)),aO cO 1 (aa q T.length h) (T.map (·.2.2)),aJ c1 _]) (a:=c2) (cs:=[aa q T.length h]) 0 (by simp) (aa q T.length h);rw[add_zero] at G I;refine⟨⟨trivial,G⟩, ?_⟩;obtain⟨H,c⟩:=I.fq (pre:=[aO db 2 (aa E T.length u) (T.map λ t=>(t.1,t.2.1)),aO cO 1 (aa q T.length h) (T.map (·.2.2)),aJ c1 _,aJ c2 _]) (a:=c3) (cs:=[aQ true]) 0 (by simp) (aQ true);rw[add_zero] at H c;refine⟨⟨trivial,H⟩, ?_⟩;generalize nI _ c3 _=J at c⊢;have f1:cP db 2 J (aa E T.length u) (T.map λ t=>(t.1,t.2.1)):=c.get (t:=aO db 2 (aa E T.length u) (T.map λ t:Wd×Wd×Nat=>(t.1,t.2.1))) (by simp);have f2:cP cO 1 J (aa q T.length h) (T.map (·.2.2)):=c.get (t:=aO cO 1 (aa q T.length h) (T.map λ t:Wd×Wd×Nat=>t.2.2)) (by simp);refine⟨_,_,_,c.ei (a:=c1) (v:=aa E T.length u) (by simp),_,_,_,c.ei (a:=c2) (v:=aa q T.length h) (by simp),_,c.ei (a:=c3) (v:=aQ true) (by simp), ?_⟩;exact⟨_,_,rfl,Own.cV f1,Own.cV f2,c.1⟩
end
end Go.Proofs
namespace Go.Proofs
open Go Go.V
theorem asV(k:IntKind)(x y:Int):bE k x y=bE k y x:=by
 unfold bE;rw[BitVec.or_comm]
theorem asW(a b:Nat)(h:b<256)(q:a<72057594037927936):bE aj (bu aj (a:Int) 8) (aq aj (b:Int))=((a*256+b:Nat):Int):=by
 rw[asV,dV (by omega) (by omega)];have:=HO b a 8 (by omega) (by omega);rw[show((8:Nat):Int)=8 from rfl] at this;rw[this];omega
section
variable{w w':ak}{p:OA}{c:Nat}{l body rest B:Wd}
theorem arc(h:cz w (aa p l.length c) l)(lo hi:Nat)(G:lo<=hi)(H:hi<=l.length){x u:Option ay}(E:(x=none/\lo=0)\/∃k,x=some (ah k (lo:Int)))(y:(u=none/\hi=l.length)\/∃k,u=some (ah k (hi:Int))){K:OA->Nat->Nat->Prop}
  (I:∀q d,cz w (aa q (hi-lo) d) ((l.drop lo).take (hi-lo))->K q (hi-lo) d):bb ag (dw 26 (aa p l.length c) x u none) λ r=>az (ax r) λ a n d=>K a n d:=by
 obtain⟨_,_,e,J⟩:=aX.ex h;cases e;exact⟨_,λ w=>gV (e:=5) (by kernel_rfl) (z:=1) (by kernel_rfl) p l.length c lo hi G (by omega) x u E y w,_,_,_,rfl,I _ _ (qJ h lo hi G H)⟩
theorem k20{n:Nat}(h:cz w (aa p 4 c) (be 4 n))(U:n<4294967296):au ag 20 #[aa p 4 c] w λ r w'=>r=ah aj (n:Int)/\w=w':=by
 have R:(be 4 n).length=4:=cH 4 n;apply c20;unfold v20;refine ass (λ N K y q i w'=>p=N/\K=4/\c=y/\w=w'/\∃k:Nat,i=(k:Int)/\k<=4/\q=((n/2^(32-8*k):Nat):Int)) (λ _ _ _ _ i _=>(4-i).toNat) ⟨rfl,rfl,rfl,rfl,0,rfl,by omega,by simp;omega⟩ ?_;rintro _ _ _ _ _ _ ⟨rfl,rfl,rfl,rfl,k,rfl,Q,rfl⟩;unfold arG;refine bn (λ u=> ?_) (λ u=> ?_)
 ·have H:k<4:=by simp at u;omega
  have I:k<(be 4 n).length:=by omega
  refine Sl.ix (enc:=fK) (z:=1) (λ _=>rfl) (by omega) h (by omega) (by omega) (λ a W G=> ?_);have x:=G 0 _ rfl;simp only[fH,add_zero] at x;refine⟨_,x, ?_⟩;have E:(be 4 n)[k]=gw (n/256^(4-1-k)):=by simp[be]
  dsimp only;rw[E,UInt8.toNat_ofNat'];have J:n/2^(32-8*k)<72057594037927936:=Nat.lt_of_le_of_lt (Nat.div_le_self _ _) (by omega);rw[asW _ _ (Nat.mod_lt _ (by decide)) J,show aq af ((k:Int)+1)=((k+1:Nat):Int) by rw[bk (by omega) (by omega)];omega];refine⟨⟨rfl,rfl,rfl,rfl,k+1,rfl,by omega, ?_⟩,by omega⟩;congr 1;have:k=0\/k=1\/k=2\/k=3:=by omega
  rcases this with rfl|rfl|rfl|rfl<;>simp<;>omega
 ·have:k=4:=by simp at u;omega
  subst this;refine⟨?_,rfl⟩;simp
theorem asX(hx:cz w (aa p l.length c) l)(hl:l.length<=1073741824):au ag 112 #[aa p l.length c] w λ r w'=>r=ah aL (cI 0 l:Int)/\w=w':=by
 apply asG;unfold ar';refine asF (λ R Q J crc i w'=>p=R/\Q=l.length/\c=J/\w=w'/\∃(k:Nat) (m:Nat),i=(k:Int)/\k<=l.length/\crc=(m:Int)/\m<4294967296/\m=so 4294967295 (l.take k)) (λ _ _ _ _ i _=>(l.length-i).toNat) ⟨rfl,rfl,rfl,rfl,0,4294967295,rfl,by omega,rfl,by omega,by simp[so]⟩ ?_;rintro _ _ _ _ _ _ ⟨rfl,rfl,rfl,rfl,k,m,rfl,hk,rfl,x,G⟩;unfold arQ;refine bn (λ h=> ?_) (λ h=> ?_)
 ·have u:k<l.length:=by simpa using h
  refine Sl.ix (enc:=fK) (z:=1) (λ _=>rfl) (by omega) hx (by omega) (by omega) (λ a hs ha=> ?_);have X:=ha 0 _ rfl;simp only[fH,add_zero] at X;refine⟨_,X, ?_⟩;dsimp only;have jN:=(l[k]).toNat_lt;have Z:gC aL (m:Int) (aq aL ((l[k]).toNat:Int))=((m^^^(l[k]).toNat:Nat):Int):=by
   rw[iY (by omega) (by omega)];exact Ct _ _ x (by omega)
  have N:m^^^(l[k]).toNat<4294967296:=Nat.xor_lt_two_pow (n:=32) x (by omega);rw[Z];refine asE (λ R Q J crc i j w'=>p=R/\Q=l.length/\c=J/\i=(k:Int)/\w=w'/\∃(t:Nat) (q:Nat),j=(t:Int)/\t<=8/\crc=(q:Int)/\q<4294967296/\uy (8-t) q=Cu m l[k]) (λ _ _ _ _ _ j _=>(8-j).toNat) ⟨rfl,rfl,rfl,rfl,rfl,0,_,rfl,by omega,rfl,N,rfl⟩ ?_;rintro _ _ _ _ _ _ _ ⟨rfl,rfl,rfl,rfl,rfl,j,q,rfl,hj,rfl,I,y⟩;unfold arP;have W:∀k:Nat,k<=1073741824->aq af ((k:Int)+1)=((k+1:Nat):Int):=λ k h=>by rw[bk (by omega) (by omega)];omega
  refine bn (λ h=> ?_) (λ h=> ?_)
  ·have E:j<8:=by simp at h;omega
   have U:uy (8-j) q=uy (8-(j+1)) (qI q):=by
    rw[show 8-j=(8-(j+1))+1 by omega];rfl
   have e3:bR aL (q:Int) 1=((q % 2:Nat):Int):=by
    have:=adq q 1 I (by omega);rw[Nat.and_one_is_mod] at this;exact this
   have e4:cZ aL (q:Int) 1=((q/2:Nat):Int):=by
    have:=HM aL (q:Int) 1 (by decide);rw[show((1:Nat):Int)=1 from rfl] at this;rw[this];omega
   rw[e3,e4];unfold arz;rw[W j (by omega)];refine bn (λ h=> ?_) (λ h=> ?_)
   ·have H:q % 2=1:=by simp at h;omega
    refine⟨⟨rfl,rfl,rfl,rfl,rfl,j+1,qI q,rfl,by omega, ?_,HT I,by rw[<-U];exact y⟩,by omega⟩;unfold qI;rw[if_pos H];exact Ct (q/2) 2197175160 (by omega) (by omega)
   ·have K:¬q % 2=1:=by simp at h;omega
    refine⟨⟨rfl,rfl,rfl,rfl,rfl,j+1,qI q,rfl,by omega, ?_,HT I,by rw[<-U];exact y⟩,by omega⟩;unfold qI;rw[if_neg K]
  ·have E:j=8:=by simp at h;omega
   subst E;rw[W k (by omega)];refine⟨⟨rfl,rfl,rfl,rfl,k+1,q,rfl,by omega,rfl,I, ?_⟩,by omega⟩;have e6:q=Cu m l[k]:=y;rw[e6,G,jm u,so,so,List.foldl_append];rfl
 ·have u:k=l.length:=by simp at h;omega
  subst u;refine⟨?_,rfl⟩;rw[Q9,Ct _ _ (by omega) x,G,fY];rfl
attribute [local irreducible] cI be
theorem k45(h:cz w (aa p l.length c) l)(y:l=body++(be 4 (cI 0 body)++rest))(K:l.length<=67108864):
  au ag 45 #[aa p l.length c,ah aj (body.length:Int)] w λ r w'=>∃q d,r=aZ #[aa q body.length d,ah af 0]/\cz w' (aa q body.length d) body/\aS w w':=by
 have W:l.length=body.length+(4+rest.length):=by rw[y,aY,aY,cH]
 have u:=uz body (c:=0) (by omega);have N:(l.drop body.length).take 4=be 4 (cI 0 body):=by
  rw[y,iz];have:=E2 (l₁:=be 4 (cI 0 body)) (l₂:=rest);rwa[cH] at this
 have E:l.take body.length=body:=by rw[y,E2]
 apply c45;unfold v45;rw[dV (x:=((l.length:Nat):Int)) (by omega) (by omega),bk (by omega) (by omega),dV (by omega) (by omega)];refine aT (by simp;omega) (aT (by simp;omega) ?_);unfold arN;rw[show aq aj ((body.length:Int)+4)=((body.length+4:Nat):Int) by rw[dV (by omega) (by omega)];omega];refine arc h body.length (body.length+4) (by omega) (by omega) (.inr ⟨_,rfl⟩) (.inr ⟨_,rfl⟩) (λ X Q H=> ?_);refine arc h 0 body.length (by omega) (by omega) (.inl ⟨rfl,rfl⟩) (.inr ⟨_,rfl⟩) (λ Z R I=> ?_);have G:body.length+4-body.length=4:=by omega
 rw[G,N] at H;rw[G];rw[nJ,T2,E] at I;rw[nJ];refine aF (k20 (aX.aH H (cu w)) u) ?_;rintro _ _ ⟨rfl,rfl⟩;refine⟨_,rfl,aF (asX (aX.aH I (cu w)) (by omega)) ?_⟩;rintro _ _ ⟨rfl,rfl⟩;refine⟨_,rfl,aT (by rw[dV (by omega) (by omega)];simp) ?_⟩;refine arc h 0 body.length (by omega) (by omega) (.inl ⟨rfl,rfl⟩) (.inr ⟨_,rfl⟩) (λ q3 U J=> ?_);rw[nJ,T2,E] at J;rw[nJ];exact⟨_,_,rfl,aX.aH J (cu w),cu w⟩
theorem k19{off:Nat}(h:cz w (aa p B.length c) B)(W:B.length<=67108864)(hd:B.drop off=dh body++rest)(H:off<=B.length):
  au ag 19 #[aa p B.length c,ah af (off:Int)] w λ r w'=>∃q d,r=aZ #[aa q body.length d,ah af 0]/\cz w' (aa q body.length d) body/\aS w w':=by
 have X:B.length=off+(body.length+8+rest.length):=by
  have:=congrArg fZ hd;rw[aY,pJ,hY] at this;omega
 have u:B.drop off=be 4 body.length++(body++(be 4 (cI 0 body)++rest)):=by
  rw[hd,dh];simp only[dx]
 have I:(B.drop off).take 4=be 4 body.length:=by
  rw[u];have:=E2 (l₁:=be 4 body.length) (l₂:=body++(be 4 (cI 0 body)++rest));rwa[cH] at this
 have J:B.drop (off+4)=body++(be 4 (cI 0 body)++rest):=by
  rw[<-List.drop_drop,u];have:=iz (l₁:=be 4 body.length) (l₂:=body++(be 4 (cI 0 body)++rest));rwa[cH] at this
 apply c19;unfold v19;rw[bk (by omega) (by omega)];refine aT (by simp;omega) (aT (by simp;omega) ?_);unfold arF;rw[show aq af ((off:Int)+4)=((off+4:Nat):Int) by rw[bk (by omega) (by omega)];omega];refine arc h (off+4) B.length (by omega) (by omega) (.inr ⟨_,rfl⟩) (.inl ⟨rfl,rfl⟩) (λ Z R E=> ?_);refine arc h off (off+4) (by omega) (by omega) (.inr ⟨_,rfl⟩) (.inr ⟨_,rfl⟩) (λ q2 U G=> ?_);have x:off+4-off=4:=by omega
 rw[x,I] at G;rw[x];have K:(B.drop (off+4)).take (B.length-(off+4))=B.drop (off+4):=lD (by rw[hY];omega);have y:B.length-(off+4)=(B.drop (off+4)).length:=by rw[hY]
 rw[K,y] at E;rw[y];refine aF (k20 (aX.aH G (cu w)) (by omega)) ?_;rintro _ _ ⟨rfl,rfl⟩;refine⟨_,rfl, ?_⟩;refine aF (k45 (aX.aH E (cu w)) J (by rw[hY];omega)) ?_;rintro _ w2 ⟨q,d,rfl,N,Q⟩;exact⟨_,_,rfl,_,_,_,rfl,_,rfl,_,_,rfl,N,(cu w).trans Q⟩
end
theorem arY{α:Type}{e ty:cK}{enc:α->List ay}{z fA base:Nat}{zs:List ay}(R:gW ag ty e enc z fA zs){w0 w:ak}{v J:ay}{l:List α}{x:α}{K:OA->Nat->Nat->ak->Prop}
  (y:aS w0 w)(q:base=w0.heap.size)(h:pj enc z base w v l)(U:(bw ty 1 #[(0,J)]).run ag w= .ok (aa (some ⟨w.heap.size,0,none⟩) 1 1) (w.alloc (.cells ⟨enc x⟩ e)))
  (hl:(l.length+1)*fA<=140737488355328)(I:l.length+1<=4611686018427387904)
  (Z:∀p c w',aS w0 w'->pj enc z base w' (aa p (l.length+1) c) (l++[x])->K p (l.length+1) c w'):
  aP ag (bw ty 1 #[(0,J)]) w λ r w1=>az (ax r) λ sP sL sC=>aP ag (cM #[ty,ty] ty #[v,aa sP sL sC]) w1 λ r2 w2=>az (ax r2) λ p n c=>K p n c w2:=by
 subst q;refine HL R U h.1 hl I (λ p c w' ho W E=>Z p c w' (Fr.new y W (λ b o Q=>h.2 b Q.1)) ⟨ho,λ g G=> ?_⟩);rcases E with N|⟨g',H,X⟩
 ·exact h.2 g (N▸G)
 ·rw[H] at G;cases G;have:=y.size;omega
section
variable{w w':ak}{u v:ay}{p:OA}{c:Nat}{l:List Nat}
theorem asl{x:Nat}(h:Refs w (aa p (l.length+1) c) (x::l)){K:OA->Nat->Nat->Prop}(J:∀q d,Refs w (aa q l.length d) l->K q l.length d):
  bb ag (dw 31 (aa p (l.length+1) c) (some (ah af 1)) none none) λ r=>az (ax r) λ a n d=>K a n d:=by
 obtain⟨_,_,e,I⟩:=aX.ex h;cases e;have E:=aX.sub h 1 (l.length+1) (by omega) (bB _);have y:l.length+1-1=l.length:=by omega
 have H:(((x::l).flatMap cO).drop (1*1)).take ((l.length+1-1)*1)=l.flatMap cO:=by
  rw[fG];have:(cO x++l.flatMap cO).drop (1*1)=l.flatMap cO:=rfl;rw[this];exact lD (by rw[kF (enc:=cO) (z:=1) (λ _=>rfl)];omega)
 rw[H,y] at E;have G:=gV (P:=ag) (t:=31) (e:=43) (by kernel_rfl) (z:=1) (by kernel_rfl) p (l.length+1) c 1 (l.length+1) (by omega) (by simpa using I) (some (ah af 1)) none (.inr ⟨af,rfl⟩) (.inl ⟨rfl,rfl⟩);rw[y] at G;exact⟨_,G,_,_,_,rfl,J _ _ E⟩
theorem as0{n:Nat}(ha:Refs w u l)(hb:Refs w v [n])(W:∀x∈l,x<n)(hl:l.length<=1000):au ag 113 #[u,v] w λ r w'=>pj cO 1 w.heap.size w' r (l++[n])/\aS w w':=by
 obtain⟨up,uc,rfl,_⟩:=aX.ex ha;obtain⟨vp,vc,rfl,_⟩:=aX.ex hb;apply asI;unfold asd;refine asH (λ ap Q ac bp R bc op on oc w'=>∃la E lo,Q=la.length/\R=E.length/\on=lo.length/\Refs w (aa ap Q ac) la/\Refs w (aa bp R bc) E/\pj cO 1 w.heap.size w' (aa op on oc) lo/\aS w w'/\lo++(la++E)=l++[n]/\(E=[n]/\(∀x∈la,x<n)\/la=[]/\E=[])) (λ _ Q _ _ R _ _ _ _ _=>Q+R) ⟨l,[n],[],rfl,rfl,rfl,ha,hb,pj.nil _ _ _ _,Fr.refl _ _,rfl, .inl ⟨rfl,W⟩⟩ ?_;rintro ap _ ac bp _ bc op _ oc w1 ⟨la,E,lo,rfl,rfl,rfl,G,H,I,k1,K,hc⟩;have hlen:lo.length+(la.length+E.length)=l.length+1:=by
  have:=congrArg fZ K;simpa using this
 have J:=k1.trans (cu w1);have h:=J.trans (cu _);have N:=h.trans (cu _);unfold arS;cases la with
 |nil=>
  refine aT (by simp) ?_;cases E with
  |nil=>
   refine aT (by simp) ?_;unfold arR;refine⟨?_,k1⟩;simp only[iA] at K;rw[K] at I;have:lo.length=(l++[n]).length:=by rw[K]
   rw[this];exact I
  |cons y E=>
   refine cJ (by simp) ?_;unfold arl;refine aT (by simp;omega) (aT (by simp) ?_);unfold arB;refine aT (by simp) ?_;unfold ark;refine uN H 0 (by simp) rfl (λ a m=>⟨_,N.at m, ?_⟩);refine asl H (λ q d X=> ?_);refine arY alX (x:=y) N rfl (I.aH (((cu w1).trans (cu _)).trans (cu _))) (alY y _) (by omega) (by omega) (λ p' c' w2 Z U=> ?_);refine⟨⟨[],E,lo++[y],rfl,rfl,by simp,G,X,U,Z,by simpa using K, ?_⟩,by simp⟩;rcases hc with⟨e,_⟩|⟨_,e⟩
   ·cases e;exact .inr ⟨rfl,rfl⟩
   ·cases e
 |cons x la=>
  rcases hc with⟨rfl,hx⟩|⟨e,_⟩
  ·refine cJ (by simp) ?_;unfold arl;refine aT (by simp) (cJ (by simp) ?_);refine uN G 0 (by simp) rfl (λ a m=>⟨_,J.at m, ?_⟩);refine uN H 0 (by simp) rfl (λ a2 m2=>⟨_,J.at m2,cJ ?_ ?_⟩)
   ·have:=hx x (by simp);simp;omega
   unfold arA;refine uN G 0 (by simp) rfl (λ a m=>⟨_,h.at m, ?_⟩);refine asl G (λ q d X=> ?_);refine arY alX (x:=x) h rfl (I.aH ((cu w1).trans (cu _))) (alY x _) (by omega) (by omega) (λ p' c' w2 Z U=> ?_);refine⟨⟨la,[n],lo++[x],rfl,rfl,by simp,X,H,U,Z,by simpa using K, .inl ⟨rfl,λ y hy=>hx y (by simp[hy])⟩⟩,by simp⟩
  ·cases e
def D2(l:List (Nat×eh))(n v:Wd):List Nat:=(l.filter λ x=>decide (jf x.2 n=v)).map (·.1)
theorem as1(a b:List (Nat×eh))(n v:Wd):D2 (a++b) n v=D2 a n v++D2 b n v:=by simp[D2]
theorem k46{l:List (Nat×eh)}{n x:Wd}(h:nj w u l)(hv:dK w v [x])(hx:x≠[])(hl:l.length<=1000)(hs:∀y∈l,y.2.length<=50)(hr:(l.map (·.1)).Pairwise (·<·)):
  au ag 46 #[u,aC (bs n),v,aQ false] w λ r w'=>Refs w' r (D2 l n x)/\aS w w':=by
 obtain⟨up,uc,rfl,_⟩:=h.ex;obtain⟨vp,vc,rfl,_⟩:=aX.ex hv;apply c46;unfold v46;refine asC (λ p' n' X s' Q N K W op on I i w'=>up=p'/\n'=l.length/\uc=X/\s'=bs n/\vp=Q/\N=1/\vc=K/\W=false/\∃(k:Nat) (lo:List Nat),i=(k:Int)/\k<=l.length/\on=lo.length/\lo=D2 (l.take k) n x/\pj cO 1 w.heap.size w' (aa op on I) lo/\aS w w') (λ _ _ _ _ _ _ _ _ _ _ _ i _=>(l.length-i).toNat) ⟨rfl,rfl,rfl,rfl,rfl,rfl,rfl,rfl,0,[],rfl,by omega,rfl,rfl,pj.nil _ _ _ _,Fr.refl _ _⟩ ?_;rintro _ _ _ _ _ _ _ _ op _ I _ R ⟨rfl,rfl,rfl,rfl,rfl,rfl,rfl,rfl,k,lo,rfl,hk,rfl,E,U,H⟩;have jF:lo.length<=k:=by
  rw[E,D2,fu];refine eX (List.length_filter_le _ _) ?_;rw[fS];omega
 unfold arO;refine bn (λ q=> ?_) (λ q=> ?_)
 ·have G:k<l.length:=by simp at q;omega
  have es:D2 (l.take (k+1)) n x=lo++D2 [l[k]] n x:=by rw[E,<-as1,<-jm G]
  refine Ix h k G rfl (λ a P1 c1 m0 m1 m2=>⟨_,_,_,H.at m1, ?_⟩);refine aF (k23 (n:=n) (Sl.aH m2 H) (by have:=hs _ (iy G);omega)) ?_;rintro _ R ⟨rfl,rfl⟩;have next:∀{w':ak} {op:OA} {I:Nat},D2 [l[k]] n x=[]->pj cO 1 w.heap.size w' (aa op lo.length I) lo->aS w w'->aq' (λ r w'=>Refs w' r (D2 l n x)/\aS w w') (λ p' n' X s' Q N K W op on I i w'=>(up=p'/\n'=l.length/\uc=X/\s'=bs n/\vp=Q/\N=1/\vc=K/\W=false/\∃(k:Nat) (lo:List Nat),i=(k:Int)/\k<=l.length/\on=lo.length/\lo=D2 (l.take k) n x/\pj cO 1 w.heap.size w' (aa op on I) lo/\aS w w')/\(l.length-i).toNat<(l.length-(k:Int)).toNat) up l.length uc (bs n) vp 1 vc false op lo.length I (k:Int) w':=by
   intro w' op I e0 U k';unfold aq';rw[show aq af ((k:Int)+1)=((k+1:Nat):Int) by rw[bk (by omega) (by omega)];omega];exact⟨⟨rfl,rfl,rfl,rfl,rfl,rfl,rfl,rfl,k+1,lo,rfl,by omega,rfl,by rw[es,e0,iA],U,k'⟩,by omega⟩
  have e1:(jf l[k].2 n≠x)->D2 [l[k]] n x=[]:=λ Z=>by simp[D2,Z]
  refine⟨_,rfl,bn (λ q=>aT rfl ?_) (λ q=>next (e1 (λ e=> ?_)) U H)⟩
  ·refine aF (RZ (Sl.aH hv H) (by simp)) ?_;rintro _ R ⟨rfl,rfl⟩;refine⟨_,rfl,bn (λ q=> ?_) (λ q=>next (e1 (λ e=> ?_)) U H)⟩
   ·have sD:jf l[k].2 n=x:=by simpa using q
    have e2:D2 [l[k]] n x=[l[k].1]:=by simp[D2,sD]
    unfold ary;refine Ix h k G rfl (λ a P1 c1 m0 m1 m2=>⟨_,H.at m0, ?_⟩);refine⟨_,_,alY _ _,_,_,_,rfl, ?_⟩;have k2:=H.trans (bA R (.cells ⟨cO l[k].1⟩ 43));have hn:Refs (R.alloc (.cells ⟨cO l[k].1⟩ 43)) (aa (some ⟨R.heap.size,0,none⟩) 1 1) [l[k].1]:=aX.new R 1 (cO l[k].1) 43 1 1 rfl (bB _);refine aF (as0 (U.aH (bA R _)).sl hn (λ y hy=> ?_) (by omega)) ?_
    ·rw[E] at hy;obtain⟨z,hz,rfl⟩:=dt.1 hy;obtain⟨i,hi,rfl⟩:=List.mem_iff_getElem.1 (oN.1 hz).1;rw[fS] at hi;have:=qt.1 hr i k (by rw[fu];omega) (by rw[fu];omega) (by omega);simpa using this
    rintro r w3⟨J,k3⟩;obtain⟨rp,rc,rfl,_⟩:=aX.ex J.sl;have k4:=k2.trans k3;refine⟨_,_,_,rfl, ?_⟩;unfold aq';rw[show aq af ((k:Int)+1)=((k+1:Nat):Int) by rw[bk (by omega) (by omega)];omega];refine⟨⟨rfl,rfl,rfl,rfl,rfl,rfl,rfl,rfl,k+1,lo++[l[k].1],rfl,by omega,rfl,by rw[es,e2],⟨J.1,λ g hg=> ?_⟩,k4⟩,by omega⟩;have:=J.2 g hg;have:=k2.size;omega
   ·have:jf l[k].2 n≠x:=by simpa using q
    exact this e
  ·have:jf l[k].2 n=[]:=by
    rw[eG] at q;simpa using q
   exact hx (by rw[<-e,this])
 ·have:k=l.length:=by simp at q;omega
  subst this;rw[fY] at E;rw[<-E];exact⟨U.sl,H⟩
end
theorem asm(x y:Operand)(a b:Wd×Wd)(w:ak):(C2 .eql 57 x y (aV #[aC (bs a.1),aC (bs a.2)]) (aV #[aC (bs b.1),aC (bs b.2)])).run ag w= .ok (aQ (decide (a=b))) w:=by
 have I:ag.underlying 57=some (.struct (ag.fieldsOf 57)):=by kernel_rfl
 have N:ag.stoodInHeld 57=false:=by kernel_rfl
 have Q:ag.underlying 9=some .string:=by kernel_rfl
 have r:∀w,(isAgg 9).run ag w= .ok false w:=λ w=>by kernel_rfl
 have K:(eqGuard .eql 57 x y (aV #[aC (bs a.1),aC (bs a.2)]) (aV #[aC (bs b.1),aC (bs b.2)])).run ag w= .ok () w:=by kernel_rfl
 have J:ag.fieldsOf 57=#[⟨ "Name",9,0,false, "", "",0⟩,⟨ "Value",9,1,false, "", "",16⟩]:=by kernel_rfl
 have G:(Op.equalIn (9999+1) 57 (aV #[aC (bs a.1),aC (bs a.2)]) (aV #[aC (bs b.1),aC (bs b.2)])).run ag w= .ok (decide (a=b)) w:=by
  rw[run_equalIn_struct w 9999 57 _ _ I N,J];have E:=λ(x y:Wd)=>run_equalIn_string (P:=ag) w 9998 9 (bs x) (bs y) Q
  obtain⟨c,q⟩:=a;obtain⟨b1,b2⟩:=b;by_cases h:c=b1<;>by_cases H:q=b2<;>simp[Op.eqFields,part,r,E,eG,h,H]
 unfold C2;rw[nH,K];simp only[Result.andThen_ok];simp[binOp,Op.equal,Op.maxDepth,G]
def aq_(w:ak)(v:ay)(ls:List (List Nat)):Prop:=∃c:List dg,c.length=ls.length/\Sl dd 1 w v c/\∀i (h:i<c.length) (q:i<ls.length),Refs w (b9 c[i]) ls[i]
theorem aq_.aH{w w':ak}{v:ay}{ls:List (List Nat)}(h:aq_ w v ls)(c:aS w w'):aq_ w' v ls:=by
 obtain⟨E,q,r,y⟩:=h;exact⟨E,q,Sl.aH r c,λ i a b=>Sl.aH (y i a b) c⟩
theorem aq_.ex{w:ak}{v:ay}{ls:List (List Nat)}(h:aq_ w v ls):∃p c,v=aa p ls.length c:=by
 obtain⟨y,q,r,_⟩:=h;obtain⟨p,c,e,_⟩:=aX.ex r;exact⟨p,c,by rw[e,q]⟩
theorem as2{w:ak}{p:OA}{len c:Nat}{ls:List (List Nat)}(h:aq_ w (aa p len c) ls)(i:Nat)(hi:i<ls.length){K:kd->Prop}
  (N:∀(a:kd) (P:OA) (C:Nat),at_ w a (aa P (ls[i]).length C)->Refs w (aa P (ls[i]).length C) ls[i]->K a):aU p len (i:Int) 1 K:=by
 obtain⟨r,Q,H,I⟩:=h;have y:i<r.length:=by omega
 refine Sl.ix (enc:=dd) (z:=1) (l:=r) (λ _=>rfl) (by omega) H (by omega) (by omega) (λ a _ J=> ?_);have e:r[((i:Nat):Int).toNat]'(by simp;omega)=r[i]:=by congr 1
 have q:=J 0 _ rfl;rw[add_zero,e] at q;have E:=I i y hi;obtain⟨P,C,G,_⟩:=aX.ex E;have q:at_ w a (b9 r[i]):=q;rw[G] at q E;exact N a P C q E
section
variable{w w':ak}{u v x:ay}{ml:List (Nat×eh)}{la:List (Wd×Wd)}{ls:List (List Nat)}
def Q2(ml:List (Nat×eh))(k:Nat):Nat:=(((ni (ml.map (·.2))).take k).map λ n=>(valuesOf (ml.map (·.2)) n).length).sum
theorem as3{G:ak}{up Q:OA}{R K n:Nat}(kk:aS w G)(h:nj G (aa up ml.length R) ml)(hN:dK G (aa Q (ni (ml.map (·.2))).length K) (ni (ml.map (·.2))))(J:ml.length<=1000)(hs:∀y∈ml,y.2.length<=50)(hc:n=1+Q2 ml (ni (ml.map (·.2))).length)(U:n<=1000)(hnl:(ni (ml.map (·.2))).length<=1000):
  arK (λ r w'=>r=aQ true/\aS w w') up ml.length R ((n-1:Nat):Int) Q (ni (ml.map (·.2))).length K 0 G:=by
 have inc:∀{k:Nat},k<=1000000->aq af ((k:Int)+1)=((k+1:Nat):Int):=λ h=>by rw[bk (by omega) (by omega)];omega
 have E:∀k,∀I:k<(ni (ml.map (·.2))).length,Q2 ml (k+1)=Q2 ml k+(valuesOf (ml.map (·.2)) (ni (ml.map (·.2)))[k]).length:=λ k I=>by
  unfold Q2;rw[jm I,iE,List.sum_append];simp
 have mono:∀k,Q2 ml k<=Q2 ml (ni (ml.map (·.2))).length:=λ k=>by
  unfold Q2;rw[fY]
  conv=>rhs;rw[<-kC k (ni (ml.map (·.2))),iE,List.sum_append]
  omega
 have z0:Q2 ml 0=0:=rfl;generalize (ni (ml.map (·.2)))=N at*;refine asy (λ W X Z n' b1 b2 b3 i w'=>up=W/\X=ml.length/\R=Z/\Q=b1/\b2=N.length/\K=b3/\aS G w'/\∃k:Nat,i=(k:Int)/\k<=N.length/\n'=((n-1-Q2 ml k:Nat):Int)) (λ _ _ _ _ _ _ _ i _=>(N.length-i).toNat) ⟨rfl,rfl,rfl,rfl,rfl,rfl,Fr.refl _ _,0,rfl,by omega,by rw[z0];rfl⟩ ?_;rintro _ _ _ _ _ _ _ _ w3 ⟨rfl,rfl,rfl,rfl,rfl,rfl,H,k,rfl,I,rfl⟩;unfold arJ;refine bn (λ c=> ?_) (λ c=> ?_)
 ·have q:k<N.length:=by simp at c;omega
  refine pH (Sl.aH hN H) k q rfl (λ a ha=>⟨_,ha, ?_⟩);refine aF (k15 (n:=N[k]) (h.aH H) J hs) ?_;rintro r w4 ⟨hv,k4⟩;obtain⟨qp,qc,rfl,_⟩:=aX.ex hv;have e1:=E k q;have e2:=mono (k+1);refine⟨_,_,_,rfl, ?_⟩;rw[inc (by omega)];dsimp only;rw[bk (by omega) (by omega)];exact⟨⟨rfl,rfl,rfl,rfl,rfl,rfl,H.trans k4,k+1,rfl,by omega,by omega⟩,by omega⟩
 ·have:k=N.length:=by simp at c;omega
  subst this;refine⟨?_,kk.trans H⟩;rw[hc];simp
theorem k22(h:nj w u ml)(G:Sl db 2 w v la)(hx:aq_ w x ls)(I:ml.length<=1000)(hs:∀y∈ml,y.2.length<=50)(hr:(ml.map (·.1)).Pairwise (·<·))(hln:ls.length=la.length)(lU:la.Nodup)(h0:∀h:0<la.length,la[0]=([],[]))(U:0<la.length)(R:la.length<=1000)
  (hp:∀i (hi:i<la.length),0<i->la[i].1≠[]/\la[i].2≠[]/\ls[i]'(by omega)=D2 ml la[i].1 la[i].2/\D2 ml la[i].1 la[i].2≠[])
  (hc:la.length=1+Q2 ml (ni (ml.map (·.2))).length)(hnl:(ni (ml.map (·.2))).length<=1000)(iS:∀y∈ls,y.length<=1000):
  au ag 22 #[u,v,x,aQ true] w λ r w'=>r=aQ true/\aS w w':=by
 obtain⟨up,uc,rfl,_⟩:=h.ex;obtain⟨vp,vc,rfl,_⟩:=aX.ex G;obtain⟨xp,xc,rfl⟩:=hx.ex;apply c22;unfold v22;have inc:∀{k:Nat},k<=1000000->aq af ((k:Int)+1)=((k+1:Nat):Int):=λ h=>by rw[bk (by omega) (by omega)];omega
 refine asz (λ a1 a2 a3 b1 b2 b3 d1 d2 d3 t n i w'=>up=a1/\a2=ml.length/\uc=a3/\vp=b1/\b2=la.length/\vc=b3/\xp=d1/\d2=ls.length/\xc=d3/\t=true/\aS w w'/\∃k:Nat,i=(k:Int)/\k<=la.length/\n=((k-1:Nat):Int)) (λ _ _ _ _ _ _ _ _ _ _ _ i _=>(la.length-i).toNat) ⟨rfl,rfl,rfl,rfl,rfl,rfl,rfl,rfl,rfl,rfl,Fr.refl _ _,0,rfl,by omega,rfl⟩ ?_;rintro _ _ _ _ _ _ _ _ _ _ _ _ w1 ⟨rfl,rfl,rfl,rfl,rfl,rfl,rfl,rfl,rfl,rfl,J,k,rfl,hk,rfl⟩;unfold arL;refine bn (λ c=> ?_) (λ c=> ?_)
 ·have q:k<la.length:=by simp at c;omega
  refine sK (Sl.aH G J) k q rfl (λ a E N=>⟨_,E, ?_⟩);by_cases mm:k=0
  ·subst mm;have e0:=h0 U;refine cJ (by rw[e0,eG];simp) ?_;refine sK (Sl.aH G J) 0 q rfl (λ a E N=>⟨_,N,cJ (by rw[e0,eG];simp) ?_⟩);unfold ari;rw[inc (by omega)];exact⟨⟨rfl,rfl,rfl,rfl,rfl,rfl,rfl,rfl,rfl,rfl,J,1,rfl,by omega,rfl⟩,by omega⟩
  ·obtain⟨JA,Di,H,jc⟩:=hp k q (by omega);refine aT ?_ ?_
   ·rw[eG];simpa using JA
   unfold arx;have K:=J.trans (cu w1);refine sK (Sl.aH G K) k q rfl (λ a E N=>⟨_,E, ?_⟩);refine sK (Sl.aH G K) k q rfl (λ a' g3 g4=>⟨_,g4, ?_⟩);refine⟨_,_,vi _ _,_,_,_,rfl, ?_⟩;have X:=bA w1.drew (.cells ⟨bx la[k].2⟩ 9);have Z:=K.trans X;have hv:dK (w1.drew.alloc (.cells ⟨bx la[k].2⟩ 9)) (aa (some ⟨w1.drew.heap.size,0,none⟩) 1 1) [la[k].2]:=aX.new w1.drew 1 (bx la[k].2) 9 1 1 rfl (bB _);refine⟨X.at E, ?_⟩;refine aF (k46 (n:=la[k].1) (x:=la[k].2) (h.aH Z) hv Di I hs hr) ?_;rintro r w3 ⟨W,k3⟩;obtain⟨rp,rc,rfl,_⟩:=aX.ex W;have k4:=Z.trans k3;refine⟨_,_,_,rfl,aT ?_ (cJ rfl (aT (by simp;omega) ?_))⟩
   ·have:0<(D2 ml la[k].1 la[k].2).length:=List.length_pos_iff.2 jc;simp;omega
   refine as2 (hx.aH k4) k (by omega) (λ a6 P C g6 h6=>⟨_,_,_,g6, ?_⟩);have Q:=h6;rw[H] at Q;rw[H];refine aF (k21 Q W (by rw[<-H];have:=iS _ (iy (show k<ls.length by omega));omega)) ?_;rintro _ w5 ⟨rfl,k5⟩;have k6:=k4.trans k5;refine⟨_,rfl,aT rfl ?_⟩;unfold arw;refine asx (λ a1 a2 a3 b1 b2 b3 d1 d2 d3 t n i j w'=>up=a1/\a2=ml.length/\uc=a3/\vp=b1/\b2=la.length/\vc=b3/\xp=d1/\d2=ls.length/\xc=d3/\t=true/\n=((k-1:Nat):Int)/\i=(k:Int)/\aS w w'/\∃m:Nat,j=(m:Int)/\m<=k) (λ _ _ _ _ _ _ _ _ _ _ _ _ j _=>(k-j).toNat) ⟨rfl,rfl,rfl,rfl,rfl,rfl,rfl,rfl,rfl,rfl,rfl,rfl,k6,0,rfl,by omega⟩ ?_;rintro _ _ _ _ _ _ _ _ _ _ _ _ _ w7 ⟨rfl,rfl,rfl,rfl,rfl,rfl,rfl,rfl,rfl,rfl,rfl,rfl,k7,m,rfl,hm⟩;unfold arI;refine bn (λ c=> ?_) (λ c=> ?_)
   ·have hmk:m<k:=by simp at c;omega
    have K:=k7.trans (cu w7);refine sK (Sl.aH G K) m (by omega) rfl (λ a E N=>⟨_,by rw[add_zero];exact E,_,N, ?_⟩);refine sK (Sl.aH G K) k q rfl (λ a' g3 g4=>⟨_,by rw[add_zero];exact g3,_,g4, ?_⟩);have eY:la[m]≠la[k]:=λ e=>by
     have:=(List.getElem_inj lU).1 e;omega
    refine⟨_,λ w=>asm _ _ la[m] la[k] w,_,rfl,aT (by simp[eY]) ?_⟩;rw[inc (by omega)];exact⟨⟨rfl,rfl,rfl,rfl,rfl,rfl,rfl,rfl,rfl,rfl,rfl,rfl,K,m+1,rfl,by omega⟩,by omega⟩
   ·unfold ari;rw[inc (by omega),inc (by omega)];exact⟨⟨rfl,rfl,rfl,rfl,rfl,rfl,rfl,rfl,rfl,rfl,k7,k+1,rfl,by omega,by congr 1;omega⟩,by omega⟩
 ·have:k=la.length:=by simp at c;omega
  subst this;refine aF (yT (h.aH J) I hs) ?_;rintro r w2 ⟨hN,X⟩;obtain⟨np,nc,rfl,_⟩:=aX.ex hN;refine⟨_,_,_,rfl, ?_⟩;exact as3 (J.trans X) (h.aH (J.trans X)) hN I hs hc R hnl
end
end Go.Proofs
namespace Go.Proofs
open Go Go.V
attribute [local irreducible]cI be
theorem as5:gW ag 52 31 dd 1 24 [aa none 0 0]:=
 ⟨⟨by kernel_rfl,by kernel_rfl,rfl,by decide⟩,λ _=>rfl,λ x u c=>by simp[dd] at c;subst c;rfl⟩
theorem as6(x:dg)(w:ak):(bw 52 1 #[(0,b9 x)]).run ag w= .ok (aa (some ⟨w.heap.size,0,none⟩) 1 1) (w.alloc (.cells ⟨dd x⟩ 31)):=by kernel_rfl
section
variable{S:List Wd}{L:List bI}{B:Wd}{R:List Nat}{T:List (Wd×Wd×Nat)}
theorem as7(h:dE S L)(c:R.length=L.length){n v:Wd}(y:v≠[]):D2 (R.zip (L.map (·.labels))) n v=sN L R n v:=by
 have e:R.zip (L.map (·.labels))=(L.zip R).map λ p=>(p.2,p.1.labels):=by
  clear h;induction L generalizing R with
  |nil=>rw[List.map_nil,List.zip_nil_right];rfl
  |cons x L E=>cases R with
   |nil=>rfl
   |cons r R=>simp only[hW,List.zip_cons_cons];rw[E (by simpa using c)]
 unfold D2 sN;rw[e,List.filter_map,List.map_map];congr 1;refine List.filter_congr λ p u=> ?_
 have q:=(List.of_mem_zip u).1;simp only[Function.comp,decide_eq_decide];constructor
 ·intro e;have:=ae0 (l:=p.1.labels) (n:=n) (by rw[e];exact y);rwa[e] at this
 ·exact Sd (h.names q)
theorem dE.arZ(h:dE S L){x:Wd×Wd}(q:x∈kr L):x.1≠[]/\x.2≠[]/\∃y∈L,x∈y.labels:=by
 obtain⟨n,E,q⟩:=jJ.1 q;obtain⟨v,c,rfl⟩:=dt.1 q;obtain⟨y,u,c⟩:=h.VX.1 c;have r:=(h.fQ y u).2.2.1.1 _ c;exact⟨r.1,r.2,y,u,c⟩
theorem dE.pnd(h:dE S L):(([],[])::kr L).Nodup:=by
 refine aq9.2 ⟨λ r=>(h.arZ r).1 rfl, ?_⟩;unfold kr;have hN:(Go.Proofs.ni (L.map (·.labels))).Nodup:=ow (ox _);generalize Go.Proofs.ni (L.map (·.labels))=N at hN;induction N with
 |nil=>exact List.nodup_nil
 |cons n N y=>
  rw[fG];have u:=aq9.1 hN;refine List.nodup_append.2 ⟨?_,y u.2,λ a x b q e=> ?_⟩
  ·exact List.Pairwise.map _ (λ a b c e=>c (Prod.mk.inj e).2) (ow (ox _))
  ·obtain⟨v,_,rfl⟩:=dt.1 x;obtain⟨m,r,q⟩:=jJ.1 q;obtain⟨v',_,rfl⟩:=dt.1 q;exact u.1 ((Prod.mk.inj e).1▸r)
theorem as9(c:R.length=L.length):(kr L).length=Q2 (R.zip (L.map (·.labels))) (ni ((R.zip (L.map (·.labels))).map (·.2))).length:=by
 unfold Q2 kr;rw[fY,We c,List.length_flatMap];simp
theorem ar0(h:dE S L)(r:R.length=L.length)(t:Wd×Wd×Nat):(yR L R t).length<=20/\∀x∈yR L R t,x∈R:=by
 have u:=h.ll;unfold yR;split
 ·exact⟨by omega,λ x c=>c⟩
 ·unfold sN;refine⟨?_,λ x c=> ?_⟩
  ·rw[fu];refine eX (List.length_filter_le _ _) ?_;rw[List.length_zip];omega
  ·obtain⟨p,q,rfl⟩:=dt.1 c;exact(List.of_mem_zip (oN.1 q).1).2
theorem asn(l:List Nat):(l.flatMap (be 4)).length=4*l.length:=by
 induction l with
 |nil=>rfl
 |cons a l c=>rw[fG,aY,cH,c,dH];omega
theorem aso(l:List Nat):(fM l).length=4+4*l.length:=by
 unfold fM;rw[aY,cH,asn]
theorem as_{l:List Nat}{j:Nat}(h:j<l.length):((fM l).drop (4+4*j)).take 4=be 4 l[j]:=by
 have e:(fM l).drop (4+4*j)=(l.drop j).flatMap (be 4):=by
  unfold fM;have q:=cH 4 l.length;rw[<-List.drop_drop,List.drop_append_of_le_length (by omega)];have:(be 4 l.length).drop 4=[]:=List.drop_eq_nil_of_le (by omega);rw[this,oS]
  conv=>lhs;rw[<-kC j l,jK]
  have c:((l.take j).flatMap (be 4)).length=4*j:=by
   rw[asn,fS];omega
  rw[<-c,iz]
 rw[e,gS h,fG];have:=E2 (l₁:=be 4 l[j]) (l₂:=(l.drop (j+1)).flatMap (be 4));rwa[cH] at this
theorem as'(l:List Nat):(fM l).take 4=be 4 l.length:=by
 unfold fM;have:=E2 (l₁:=be 4 l.length) (l₂:=l.flatMap (be 4));rwa[cH] at this
def arh(rw:List (dg×List Nat)):List LT:=rw.map λ r=>ie cO 1 (b9 r.1) r.2
variable{w0 w w':ak}{ts:List LT}{c1:kd}{p6 ap lp pp bp:OA}{d6 ac lc pc bc:Nat}
structure By4(w:ak)(c1:kd)(S:List Wd)(L:List bI)(B:Wd)(R:List Nat)(T:List (Wd×Wd×Nat))(p6:OA)(d6:Nat)(ap:OA)(ac:Nat)(lp:OA)(lc:Nat)(pp:OA)(pc:Nat)(bp:OA)(bc:Nat):Prop where
 b:cz w (aa bp B.length bc) B
 rc6:at_ w (c1.add 6) (aa p6 R.length d6)
 rf:Refs w (aa p6 R.length d6) R
 la:Sl db 2 w (aa lp T.length lc) (T.map λ t=>(t.1,t.2.1))
 tt:Refs w (aa ap T.length ac) (T.map (·.2.2))
 pl:nj w (aa pp L.length pc) (R.zip (L.map (·.labels)))
 nF:dE S L
 ix:jV S L B R T
theorem By4.aH(h:By4 w c1 S L B R T p6 d6 ap ac lp lc pp pc bp bc)(k:aS w w'):By4 w' c1 S L B R T p6 d6 ap ac lp lc pp pc bp bc:=
 ⟨aX.aH h.b k,k.at h.rc6,Sl.aH h.rf k,aX.aH h.la k,aX.aH h.tt k,h.pl.aH k,h.nF,h.ix⟩
theorem By4.tl(h:By4 w c1 S L B R T p6 d6 ap ac lp lc pp pc bp bc):T.length=1+(kr L).length:=by
 have:=congrArg fZ h.ix.Iw;rw[fu,dH] at this;omega
theorem ata{i:Nat}{K:ay->ak->Prop}{N14:OA->Nat->Nat->kd->OA->Nat->Nat->OA->Nat->Nat->OA->Nat->Nat->OA->Nat->Nat->Bool->Int->ak->Prop}{bq:OA}{bd:Nat}{rw:List (dg×List Nat)}{xp:OA}{xn xc:Nat}
  (h:By4 w0 c1 S L B R T p6 d6 ap ac lp lc pp pc bp bc)(hi:i<T.length)(U:cz w (aa bq (fM (yR L R T[i])).length bd) (fM (yR L R T[i])))(iS:rw.length<=1000)
  (q:TS w0 (aO dd 1 (aa xp xn xc) (rw.map (·.1))::arh rw) w)
  (hN:∀w' (t:dg) xp xn xc,TS w0 (aO dd 1 (aa xp xn xc) ((rw++[(t,yR L R T[i])]).map (·.1))::arh (rw++[(t,yR L R T[i])])) w'->N14 bp B.length bc c1 lp T.length lc ap T.length ac pp L.length pc xp xn xc true ((i+1:Nat):Int) w'):
  LQ K N14 bp B.length bc c1 lp T.length lc ap T.length ac pp L.length pc xp xn xc (decide (0<i)) (i:Int) bq (fM (yR L R T[i])).length bd none 0 0 4 w:=by
 obtain⟨sU,Kb⟩:=ar0 h.nF h.ix.yS T[i];have oD:=h.tl;have hpr:=h.nF.U0;have N:=KW h.ix hi;have sE:=h.ix.fT;have hpd:∀x∈yR L R T[i],x<4294967296:=λ x hx=>(sE x (Kb x hx)).2
 have hpz:(T[i]).1=[]->yR L R T[i]=R:=λ e=>by unfold yR;rw[if_pos e]
 generalize yR L R T[i]=P at*;have J:=aso P;refine aoJ (λ a1 a2 a3 x l1 l2 l3 t1 t2 t3 m1 m2 m3 x1 x2 x3 al ii b1 b2 b3 r1 r2 u k w'=>bp=a1/\a2=B.length/\bc=a3/\c1=x/\lp=l1/\l2=T.length/\lc=l3/\ap=t1/\t2=T.length/\ac=t3/\pp=m1/\m2=L.length/\pc=m3/\xp=x1/\xn=x2/\xc=x3/\al=decide (0<i)/\ii=(i:Int)/\bq=b1/\b2=(fM P).length/\bd=b3/\∃j:Nat,j<=P.length/\k=((4+4*j:Nat):Int)/\r2=j/\aS w w'/\pj cO 1 w.heap.size w' (aa r1 r2 u) (P.take j)) (λ _ _ _ _ _ _ _ _ _ _ _ _ _ _ _ _ _ _ _ _ _ _ _ _ k _=>((4+4*P.length:Nat)+4-k).toNat) ?_ ?_
 ·exact⟨rfl,rfl,rfl,rfl,rfl,rfl,rfl,rfl,rfl,rfl,rfl,rfl,rfl,rfl,rfl,rfl,rfl,rfl,rfl,rfl,rfl,0,by omega,rfl,rfl,Fr.refl _ _,pj.nil _ _ _ _⟩
 rintro _ _ _ _ _ _ _ _ _ _ _ _ _ _ _ _ _ _ _ _ _ r1 j u _ w1⟨rfl,rfl,rfl,rfl,rfl,rfl,rfl,rfl,rfl,rfl,rfl,rfl,rfl,rfl,rfl,rfl,rfl,rfl,rfl,rfl,rfl,j',hj,rfl,rfl,W,G⟩;unfold LP;have Z:=(h.aH q.1).aH W;refine bn (λ r=> ?_) (λ r=> ?_)
 ·have y:j<P.length:=by
   rw[J] at r;simp at r;omega
  have H:aq af (((4+4*j:Nat):Int)+4)=((4+4*(j+1):Nat):Int):=by rw[bk (by omega) (by omega)];omega
  rw[H];have I:4+4*(j+1)-(4+4*j)=4:=by omega
  refine arc (aX.aH U W) (4+4*j) (4+4*(j+1)) (by omega) (by omega) (.inr ⟨_,rfl⟩) (.inr ⟨_,rfl⟩) (λ X d2 h2=> ?_);rw[I,as_ y] at h2;rw[I];refine aF (k20 h2 (hpd _ (iy y))) ?_;rintro _ _ ⟨rfl,rfl⟩;refine⟨_,rfl, ?_⟩;have etl:(P.take j).length=j:=by rw[fS];omega
  have e3:∀{p c E},pj cO 1 w.heap.size E (aa p ((P.take j).length+1) c) (P.take j++[P[j]])->pj cO 1 w.heap.size E (aa p ((P.take j).length+1) c) (P.take (j+1)):=λ h=>by rwa[jm y]
  refine arY alX (x:=P[j]) W rfl G (alY _ _) (by omega) (by omega) (λ p cc E Q X=> ?_);exact⟨⟨rfl,rfl,rfl,rfl,rfl,rfl,rfl,rfl,rfl,rfl,rfl,rfl,rfl,rfl,rfl,rfl,rfl,rfl,rfl,rfl,rfl,j+1,by omega,rfl,by omega,Q,e3 X⟩,by omega⟩
 ·have:j=P.length:=by
   rw[J] at r;simp at r;omega
  subst this;rw[fY] at G;have X:=q.new (t:=ie cO 1 (aa r1 P.length u) P) W G.sl (λ b U=>⟨G.2 b U,G.1.lt U⟩);have fin:∀{all E},all=true->aS w1 E->EU K N14 bp B.length bc c1 lp T.length lc ap T.length ac pp L.length pc xp xn xc all (i:Int) r1 P.length u E:=λ ha Q=>by
   subst ha;unfold EU;rw[show aq af ((i:Int)+1)=((i+1:Nat):Int) by rw[bk (by omega) (by omega)];omega];have q3:=(X.aH Q).perm (us:=aO dd 1 (aa xp xn xc) (rw.map (·.1))::ie cO 1 (aa r1 P.length u) P::arh rw) (d_ _ _ _);refine q3.kB as5 (x:=(r1,P.length,u)) (as6 (r1,P.length,u) _) (by rw[fu];omega) (by rw[fu];omega) (λ p cc w3 q4 f3=> ?_);refine hN _ (r1,P.length,u) p _ cc (q4.perm ?_);rw[iE];refine List.Perm.cons _ ?_;unfold arh;rw[iE];exact List.perm_append_comm (l₁:=[_])
  refine sK Z.la i (by rw[fu];exact hi) rfl (λ a g1 g2=>⟨_,by rw[add_zero];exact g1,_,g2, ?_⟩);rw[mJ];refine⟨_,λ w=>asm _ _ ((T[i]).1,(T[i]).2.1) ([],[]) w,_,rfl,bn (λ r=> ?_) (λ r=> ?_)⟩
  ·rcases N with⟨rfl,H,I⟩|⟨_,hm⟩
   ·refine aT (by simp) ⟨_,_,_,Z.rc6, ?_⟩;have ep:=hpz H;subst ep;refine aF (k21 G.sl Z.rf (by omega)) ?_;rintro _ E ⟨rfl,Q⟩;refine⟨_,rfl,aT rfl ?_⟩;unfold LO;exact fin rfl Q
   ·have:=of_decide_eq_true r;rw[this] at hm;exact absurd rfl (h.nF.arZ hm).1
  ·rcases N with⟨rfl,H,I⟩|⟨h0,hm⟩
   ·rw[H,I] at r;simp at r
   ·exact fin (by simpa using h0) (Fr.refl _ _)
theorem atd{rw:List (dg×List Nat)}{v:ay}(q:TS w0 (aO dd 1 v (rw.map (·.1))::arh rw) w):aq_ w v (rw.map (·.2)):=by
 have h:cP dd 1 w v (rw.map (·.1)):=q.get List.mem_cons_self;refine⟨rw.map (·.1),by simp,show Sl dd 1 w v (rw.map (·.1)) from h.cV,λ i c r=> ?_⟩;have hi:i<rw.length:=by simpa using c
 rw[mJ,mJ];exact q.get (t:=ie cO 1 (b9 rw[i].1) rw[i].2) (jI _ (dt.2 ⟨rw[i],iy hi,rfl⟩))
theorem ate{wz:ak}(k0:aS wz w0)(h:By4 w0 c1 S L B R T p6 d6 ap ac lp lc pp pc bp bc):
  LU (λ r w'=>r=aQ true/\aS wz w') bp B.length bc c1 lp T.length lc ap T.length ac pp L.length pc none 0 0 false 0 w0:=by
 have oD:=h.tl;have hpr:=h.nF.U0;have hB:=h.ix.len;refine aoK (λ a1 a2 a3 x l1 l2 l3 t1 t2 t3 m1 m2 m3 x1 x2 x3 al ii w'=>bp=a1/\a2=B.length/\bc=a3/\c1=x/\lp=l1/\l2=T.length/\lc=l3/\ap=t1/\t2=T.length/\ac=t3/\pp=m1/\m2=L.length/\pc=m3/\∃k:Nat,k<=T.length/\al=decide (0<k)/\ii=(k:Int)/\∃rw:List (dg×List Nat),rw.map (·.2)=(T.take k).map (yR L R)/\TS w0 (aO dd 1 (aa x1 x2 x3) (rw.map (·.1))::arh rw) w') (λ _ _ _ _ _ _ _ _ _ _ _ _ _ _ _ _ _ k _=>(T.length-k).toNat) ?_ ?_
 ·exact⟨rfl,rfl,rfl,rfl,rfl,rfl,rfl,rfl,rfl,rfl,rfl,rfl,rfl,0,by omega,rfl,rfl,[],rfl,(TS.nil (Fr.refl _ _)).new (t:=aO dd 1 ba []) (Fr.refl _ _) (Own.nil _ _) (λ b hb=>by cases hb)⟩
 rintro _ _ _ _ _ _ _ _ _ _ _ _ _ xp xn xc _ _ w1⟨rfl,rfl,rfl,rfl,rfl,rfl,rfl,rfl,rfl,rfl,rfl,rfl,rfl,k,hk,rfl,rfl,rw,u,q⟩;have iS:rw.length=k:=by
  have:=congrArg fZ u;rw[fu,fu,fS] at this;omega
 have h1:=h.aH q.1;unfold LS;refine bn (λ hc=> ?_) (λ hc=> ?_)
 ·have c:k<T.length:=by simp at hc;omega
  obtain⟨W,rr,hd⟩:=h.ix.post T[k] (iy c);have sU:=(ar0 h.nF h.ix.yS T[k]).1;have Q:=λ{K:ay->ak->Prop} {N14} {bq bd w2} (hb:cz w2 _ _) q=>ata (K:=K) (N14:=N14) (bq:=bq) (bd:=bd) (w:=w2) (xp:=xp) (xn:=xn) (xc:=xc) h c hb (rw:=rw) (by omega) q
  have J:=aso (yR L R T[k]);refine uN h1.tt k (by rw[fu];exact c) rfl (λ a G=> ?_);rw[mJ] at G;refine⟨_,G,aT (by rw[dV (by omega) (by omega)];simp;omega) ?_⟩;refine uN h1.tt k (by rw[fu];exact c) rfl (λ a G=> ?_);rw[mJ] at G;refine⟨_,G, ?_⟩;dsimp only;rw[bk (by omega) (by omega)];refine aF (k19 h1.b hB hd W) ?_;rintro _ w2 ⟨q2,d2,rfl,I,k2⟩;have e4:=as' (yR L R T[k]);refine⟨_,_,rfl,_,_,_,rfl,_,rfl,aT rfl (aT (by simp;omega) ?_)⟩;refine arc I 0 4 (by omega) (by omega) (.inl ⟨rfl,rfl⟩) (.inr ⟨_,rfl⟩) (λ q3 d3 h3=> ?_);rw[T2,nJ,e4] at h3;rw[nJ];refine aF (k20 h3 (by omega)) ?_;rintro _ _ ⟨rfl,rfl⟩;have e5:gi (((fM (yR L R T[k])).length:Nat):Int) 4=(((yR L R T[k]).length+1:Nat):Int):=by
   rw[J,Int.tdiv_eq_ediv_of_nonneg (by omega)];omega
  have e6:Int.tmod (((fM (yR L R T[k])).length:Nat):Int) 4=0:=by
   rw[J,Int.tmod_eq_emod_of_nonneg (by omega)];omega
  refine⟨_,rfl,aT ?_ (aT ?_ ?_)⟩
  ·rw[e5,bk (x:=(((yR L R T[k]).length+1:Nat):Int)) (by omega) (by omega),bk (by omega) (by omega),dV (by omega) (by omega)];simp
  ·rw[e6];rfl
  unfold LR;refine Q I (q.aH k2) (λ w3 t xp' xn' xc' q3=> ?_);refine⟨⟨rfl,rfl,rfl,rfl,rfl,rfl,rfl,rfl,rfl,rfl,rfl,rfl,rfl,k+1,by omega,by simp,rfl,_, ?_,q3⟩,by omega⟩;rw[iE,u,jm c,iE];rfl
 ·have:k=T.length:=by simp at hc;omega
  subst this;rw[fY] at u;have Z:=atd q;rw[u] at Z;obtain⟨_,_,ex⟩:=Z.ex;refine aF k9 ?_;rintro _ w2 ⟨rfl,k2⟩;have h2:=h1.aH k2;refine⟨_,rfl,cJ rfl (cJ (by simp;omega) ?_)⟩;have lI:(R.zip (L.map (·.labels))).length=L.length:=by rw[List.length_zip,fu,h.ix.yS,Nat.min_self]
  have jF:=h.nF.ll;have U:∀x∈R.zip (L.map (·.labels)),x.2.length<=50:=λ x Z=>by
   have hm:x.2∈L.map (·.labels):=(List.of_mem_zip Z).2;obtain⟨y,hy,e⟩:=dt.1 hm;rw[<-e];have:=(h.nF.fQ y hy).2.1;omega
  have H:=h.ix.yS;have hzf:(R.zip (L.map (·.labels))).map (·.1)=R:=List.map_fst_zip (by rw[fu,H];exact bB _);have E:=h.ix.Iw;have hlT:(T.map λ t=>(t.1,t.2.1)).length=T.length:=fu _;have SC:=h.nF.KV;have hps:=as9 (L:=L) H;have X:=h.nF.pnd;rw[<-E] at X;refine aF (k22 h2.pl h2.la (Z.aH k2) (by omega) U (by rw[hzf];exact h.ix.ae4) (by rw[fu,fu]) X (λ hh=> ?_) (by omega) (by omega) (λ i hi h0=> ?_) (by rw[hlT,oD,hps]) (by rw[We H];exact eX SC (by omega)) (λ y hy=> ?_)) ?_
  ·have:=List.getElem_of_eq E hh;rw[this];rfl
  ·have hiT:i<T.length:=by rw[fu] at hi;exact hi
   rw[mJ,mJ];rcases KW h.ix hiT with⟨e,_⟩|⟨_,hm⟩
   ·omega
   ·obtain⟨n1,n2,y,hy,Jg⟩:=h.nF.arZ hm;refine⟨n1,n2, ?_, ?_⟩
    ·unfold yR;rw[if_neg n1,as7 h.nF H n2]
    ·obtain⟨j,hj,rfl⟩:=List.mem_iff_getElem.1 hy;intro e;have hz:(R[j]'(by omega),L[j].labels)∈R.zip (L.map (·.labels)):=by
      refine List.mem_iff_getElem.2 ⟨j,by rw[lI];exact hj, ?_⟩;rw[List.getElem_zip,mJ]
     have N:R[j]'(by omega)∈D2 (R.zip (L.map (·.labels))) (T[i]).1 (T[i]).2.1:=
      dt.2 ⟨_,oN.2 ⟨hz,decide_eq_true (Sd (h.nF.names (iy hj)) Jg)⟩,rfl⟩
     rw[e] at N;cases N
  ·obtain⟨t,ht,rfl⟩:=dt.1 hy;have:=(ar0 h.nF H t).1;omega
  ·rintro _ w3 ⟨rfl,k3⟩;exact⟨_,rfl,rfl,(((k0.trans q.1).trans k2).trans k3)⟩
end
section
variable{w:ak}{u v:ay}{M:List Wd}{L:List bI}
theorem k4(X:dK w u M)(J:im w v L)(hU:DR L):au ag 4 #[u,v] w λ r w'=>r=aQ true/\aS w w':=by
 obtain⟨up,uc,rfl,_⟩:=aX.ex X;obtain⟨vp,vc,rfl,_⟩:=J.ex;apply c4;unfold v4;refine aF (k6 X) ?_;rintro _ w1 ⟨⟨b1,rfl,Q⟩,rfl⟩;refine⟨_,rfl,bn (λ q=>⟨rfl,Fr.refl _ _⟩) (λ q=> ?_)⟩;have hM:=(Q (by simpa using q)).1;refine aF (k7 J) ?_;rintro _ w2 ⟨⟨b2,rfl,R⟩,G⟩;refine⟨_,rfl,bn (λ q=>⟨rfl,G⟩) (λ q=> ?_)⟩;obtain⟨hL,hf⟩:=R (by simpa using q);unfold LW;refine aF (k8 (Sl.aH X G) (J.aH G) hM hL hf hU) ?_;rintro _ w3 ⟨h3|⟨x,y,rfl,S,B,T,Z,hy,hF,I,h⟩,k3⟩
 ·subst h3;exact⟨_,_,_,_,rfl,_,_,_,rfl,_,_,_,rfl,_,rfl,_,rfl,cJ rfl (Wc (K:=λ r w'=>r=aQ true/\aS w1 w') (λ w4 k4=>⟨rfl,(G.trans k3).trans k4⟩))⟩
 ·obtain⟨xp,xc,rfl,_⟩:=aX.ex Z;obtain⟨yp,yc,rfl,_⟩:=aX.ex hy;have c:=h.yS;refine⟨_,_,_,_,rfl,_,_,_,rfl,_,_,_,rfl,_,rfl,_,rfl,aT rfl ?_⟩;have hR:=am5 I h;refine aF (dj Z h hR) ?_;rintro _ w4 ⟨v2,v3,v4,v5,v6,v7,rfl,W,U,k4⟩;obtain⟨p2,n2,d2,p3,n3,d3,p4,n4,d4,p5,n5,d5,p6,n6,d6,p7,n7,d7,rfl,rfl,rfl,rfl,rfl,rfl⟩:=W;refine⟨_,_,rfl,_,_,_,_,_,_,_,_,_,_,_,_,_,_,_,_,_,_,_,_,rfl,_,rfl, ?_⟩;refine gf (cs:=de 0 0 ba ba ba ba ba ba) (by simp[de]) (λ w5 o5 k5 z5=> ?_);have q5:=(TS.nil (Fr.refl _ w4)).ob o5 k5 rfl (by omega);generalize (⟨w4.heap.size,0,none⟩:kd)=c1 at q5⊢;refine KU (base:=0) q5 ⟨trivial,trivial,trivial,trivial,trivial,trivial⟩ (λ w6 N f6=> ?_);have hh:Hand w6 c1 L S B (eC S (eB S) L) (aa p2 n2 d2) (aa p3 n3 d3) (aa p4 n4 d4) (aa p5 n5 d5) (aa p6 n6 d6) (aa p7 n7 d7):=⟨N.get (t:=aJ c1 _) (by simp),U.aH N.1,I,c⟩;have kk:=((G.trans k3).trans k4).trans N.1;obtain⟨_,_,e6,_⟩:=aX.ex hh.rd.rf;cases e6;have jF:=I.ll;have E:=aX.aH Z (k4.trans N.1);refine aF (k18 E h hR.tb) ?_;rintro _ w7 ⟨l,a,rfl,hl,ha,k7⟩;obtain⟨lp,lc,el,_⟩:=aX.ex hl;obtain⟨ap,ac,ea,_⟩:=aX.ex ha;rw[fu] at el ea;subst el;subst ea;have H:=hh.aH k7;refine⟨_,_,_,rfl,_,_,_,rfl,_,_,_,rfl,_,rfl,aT rfl (aT rfl (aT rfl (aT (by simp) ⟨_,_,_,H.ob.at 6 rfl,aT (by rw[c];simp) ?_⟩)))⟩;unfold LV;refine⟨_,_,_,H.ob.at 6 rfl,aF (k13 (J.aH (kk.trans k7)) H.rd.rf (by omega) (by rw[c];omega)) ?_⟩;rintro pv w8 ⟨hP,k8⟩;have lI:((eC S (eB S) L).zip (L.map (·.labels))).length=L.length:=by rw[List.length_zip,fu,c,Nat.min_self]
  obtain⟨pp,pc,rfl,_⟩:=hP.ex;rw[lI] at hP⊢;have h8:=H.aH k8;exact⟨_,_,_,rfl,ate ((kk.trans k7).trans k8) ⟨aX.aH E (k7.trans k8),h8.ob.at 6 rfl,h8.rd.rf,Sl.aH hl k8,Sl.aH ha k8,hP,I,h⟩⟩
end
end Go.Proofs
namespace Go.Proofs
open Go Go.V
section
variable{H:Type}{enc:cK×ay->H}{W:ak}{sp:Nat->Bool}{hd:Bool}
theorem D_{α:Type}[Inhabited α]{ec:α->List ay}{z:Nat}{Q:α->Prop}{t e:cK}(ht:ag.underlying t=some (.slice e))(hz:ag.cellsOf e=z)(G:0<z)(E:∀x,(ec x).length=z)
  (J:∀{n:Nat} {cs:List ay} {y:DataW H×List MemPlace},DataW.trod enc ag W 0 sp hd n e cs=some y->∃a:α,cs=ec a/\Q a){r:Nat}{cs:List ay}{x:DataW H×List MemPlace}(h:DataW.trod enc ag W 0 sp hd r t cs=some x):
  ∃p n c l,cs=[.slice p n c]/\Sl ec z W (.slice p n c) l/\∀a∈l,Q a:=by
 rcases Go.Deep.open_slice ht h with⟨rfl,_⟩|⟨a,len,cap,m,n,D,Pl,rfl,_,U,_,hm,_,hx⟩
 ·exact⟨none,0,0,[],rfl,aX.nil _ _ _ _,by simp⟩
 ·have aqs:len<=m:=by rw[hm];split<;>omega
  obtain⟨f,K⟩:=Go.Deep.choose_lt (n:=len) (p:=λ i y=>W.cells? 0 (a.add (i*z)) z=some (ec y)/\Q y) (λ i hi=>by
   obtain⟨cs',Z,h2⟩:=hx i (by omega);obtain⟨y,rfl,hq⟩:=J h2;rw[hz] at Z;exact⟨y,Z,hq⟩)
  refine⟨some a,len,cap,(lZ len).map f,rfl, ?_,λ y hy=> ?_⟩
  ·have q:((lZ len).map f).length=len:=by simp
   show aX W z _ _ _;rw[q];refine⟨some a,cap,rfl,U, ?_,λ j u hj=> ?_⟩
   ·rw[kF (enc:=ec) E,q]
   ·have R:j<len*z:=by
     have:=(oQ.1 hj).1;rwa[kF (enc:=ec) E,q] at this
    have hi:j/z<len:=Nat.div_lt_of_lt_mul (by rw[Nat.mul_comm];exact R);have hr:j % z<z:=Nat.mod_lt _ G;have X:j/z*z+j % z=j:=by rw[Nat.mul_comm];exact Nat.div_add_mod j z
    have N:=wh E ((lZ len).map f) (j/z) (by rw[q];exact hi) (j % z) hr;rw[X,hj] at N;have ef:((lZ len).map f)[j/z]'(by rw[q];exact hi)=f (j/z):=by simp
    rw[ef] at N;have hc:=(World.cells?_some (K (j/z) hi).1).2.2 (j % z) hr;have I:=(World.cells?_some (K 0 (Nat.lt_of_le_of_lt (dO _) hi)).1).2.2 0 G;have w:a.spot=none:=by
     have:∃v,W.cell? ((a.add (0*z)).add 0)=some v:=⟨_,I.trans (gH (by rw[E];exact G))⟩;obtain⟨v,hv⟩:=this;have:=World.cell?_spot hv;rwa[Nat.zero_mul,add_zero,add_zero] at this
    rw[<-N,add_add _ _ _ w,X] at hc;exact⟨a,rfl,w,hc⟩
  ·obtain⟨i,hi,rfl⟩:=dt.1 hy;exact(K i (List.mem_range.1 hi)).2
theorem anM{q:Nat}{cs:List ay}{x:DataW H×List MemPlace}(h:DataW.trod enc ag W 0 sp hd q 22 cs=some x):∃p n c l,cs=[.slice p n c]/\dK W (.slice p n c) l:=by
 obtain⟨p,n,c,l,r,u,_⟩:=D_ (ec:=bx) (z:=1) (Q:=λ _=>True) (t:=22) (e:=9) (by kernel_rfl) (by kernel_rfl) (by omega) (λ _=>rfl) (λ{n cs y} h=>by
  obtain⟨s,rfl,_,_⟩:=DataW.trod_string (P:=ag) (t:=9) (by kernel_rfl) h;exact⟨s.data.toList,by simp[bx,bs],trivial⟩) h
 exact⟨p,n,c,l,r,u⟩
def Wf(P:bU)(t:cK):Option (List (cK×Nat)):=match P.underlying t with|some (.struct c)=>some (c.toList.map λ f=>(f.type,f.offset))|_=>none
theorem K1{t:cK}{l:List (cK×Nat)}(q:Wf ag t=some l){c:Nat}{cs:List ay}{x:DataW H×List MemPlace}(h:DataW.trod enc ag W 0 sp hd c t cs=some x):
  cs.length=ag.cellsOf t/\∀(i:Nat) (f:cK×Nat),l[i]? =some f->∃n y,DataW.trod enc ag W 0 sp hd n f.1 ((cs.drop f.2).take (ag.cellsOf f.1))=some y:=by
 unfold Wf at q;split at q
 ·rename_i w J;cases q;obtain⟨N,n,_,_,G,K,E⟩:=DataW.trod_struct J h;refine⟨G,λ i f hi=> ?_⟩;rw[List.getElem?_map] at hi;obtain⟨g,u,rfl⟩:=Option.map_eq_some_iff.1 hi;have I:i<w.size:=by
   have:=(oQ.1 u).1;simpa using this
  have r:=E i g (by simpa using u);rw[gH (by omega)] at r;exact⟨n,_,r⟩
 ·cases q
theorem anN{q:Nat}{cs:List ay}{x:DataW H×List MemPlace}(h:DataW.trod enc ag W 0 sp hd q 44 cs=some x):∃p n c l,cs=[.slice p n c]/\Sl db 2 W (.slice p n c) l:=by
 obtain⟨p,n,c,l,r,N,_⟩:=D_ (ec:=db) (z:=2) (Q:=λ _=>True) (t:=44) (e:=57) (by kernel_rfl) (by kernel_rfl) (by omega) (λ _=>rfl) (λ{n cs y} h=>by
  obtain⟨J,I⟩:=K1 (t:=57) (l:=[(9,0),(9,1)]) (by kernel_rfl) h;obtain⟨U,Z,E⟩:=I 0 _ rfl;obtain⟨X,y1,r⟩:=I 1 _ rfl;have R:ag.cellsOf 57=2:=by kernel_rfl
  have G:ag.cellsOf 9=1:=by kernel_rfl
  rw[R] at J
  match cs,J with
  |[a,b],_=>
   dsimp only at E r;rw[G] at E r;obtain⟨s0,u,_,_⟩:=DataW.trod_string (P:=ag) (t:=9) (by kernel_rfl) E;obtain⟨K,w,_,_⟩:=DataW.trod_string (P:=ag) (t:=9) (by kernel_rfl) r;have u:a= .string s0:=by simpa using u
   have w:b= .string K:=by simpa using w
   exact⟨(s0.data.toList,K.data.toList),by rw[u,w];simp[db,bs],trivial⟩) h
 exact⟨p,n,c,l,r,N⟩
theorem Wg{n:Int}(h:(Lit.int .u64 n).wf=true):0<=n/\n<18446744073709551616:=by
 unfold Lit.wf at h;simp only[Bool.and_eq_true,decide_eq_true_eq] at h;have c:IntKind.min .u64=0:=by decide
 have q:aq8 .u64=18446744073709551615:=by decide
 omega
theorem anO{q:Nat}{cs:List ay}{x:DataW H×List MemPlace}(h:DataW.trod enc ag W 0 sp hd q 45 cs=some x):∃p n c l,cs=[.slice p n c]/\Sl ff 3 W (.slice p n c) l/\∀y∈l,y.1<18446744073709551616:=by
 obtain⟨p,n,c,l,r,u,Z⟩:=D_ (ec:=ff) (z:=3) (Q:=λ y=>y.1<18446744073709551616) (t:=45) (e:=94) (by kernel_rfl) (by kernel_rfl) (by omega) (λ _=>rfl) (λ{n cs y} h=>by
  obtain⟨R,N⟩:=K1 (t:=94) (l:=[(43,0),(2,1),(2,2)]) (by kernel_rfl) h;obtain⟨n0,y0,J⟩:=N 0 _ rfl;obtain⟨n1,y1,r⟩:=N 1 _ rfl;obtain⟨n2,y2,u⟩:=N 2 _ rfl;have hc:ag.cellsOf 94=3:=by kernel_rfl
  have w:ag.cellsOf 43=1:=by kernel_rfl
  have K:ag.cellsOf 2=1:=by kernel_rfl
  rw[hc] at R
  match cs,R with
  |[a,b,c],_=>
   dsimp only at J r u;rw[w] at J;rw[K] at r u;obtain⟨s0,E,_,w0⟩:=DataW.trod_int (P:=ag) (t:=43) (k:= .u64) (by kernel_rfl) J;obtain⟨U,G,_,_⟩:=DataW.trod_int (P:=ag) (t:=2) (k:= .i64) (by kernel_rfl) r;obtain⟨X,I,_,_⟩:=DataW.trod_int (P:=ag) (t:=2) (k:= .i64) (by kernel_rfl) u;have E:a= .int .u64 s0:=by simpa using E
   have G:b= .int .i64 U:=by simpa using G
   have I:c= .int .i64 X:=by simpa using I
   obtain⟨u0,u1⟩:=Wg w0;refine⟨(s0.toNat,U,X), ?_,by show s0.toNat<_;omega⟩;rw[E,G,I];simp[ff];omega) h
 exact⟨p,n,c,l,r,u,Z⟩
instance:Inhabited bI:=⟨⟨0,[],[]⟩⟩
theorem anP{r:Nat}{cs:List ay}{x:DataW H×List MemPlace}(h:DataW.trod enc ag W 0 sp hd r 23 cs=some x):∃p n c L,cs=[.slice p n c]/\im W (.slice p n c) L/\DR L:=by
 obtain⟨p,n,c,l,u,w,h3⟩:=D_ (α:=Nat×ay×ay) (ec:=yG) (z:=3) (Q:=λ y=>∃s:bI,y.1=s.ref/\s.ref<18446744073709551616/\Sl db 2 W y.2.1 s.labels/\Sl ff 3 W y.2.2 s.chunks/\∀c∈s.chunks,c.1<18446744073709551616) (t:=23) (e:=47) (by kernel_rfl) (by kernel_rfl) (by omega) (λ _=>rfl) (λ{n cs y} h=>by
  obtain⟨X,q⟩:=K1 (t:=47) (l:=[(43,0),(44,1),(45,2)]) (by kernel_rfl) h;obtain⟨n0,y0,R⟩:=q 0 _ rfl;obtain⟨n1,y1,u⟩:=q 1 _ rfl;obtain⟨n2,y2,w⟩:=q 2 _ rfl;have hc:ag.cellsOf 47=3:=by kernel_rfl
  have E:ag.cellsOf 43=1:=by kernel_rfl
  have G:ag.cellsOf 44=1:=by kernel_rfl
  have I:ag.cellsOf 45=1:=by kernel_rfl
  rw[hc] at X
  match cs,X with
  |[a,b,c],_=>
   dsimp only at R u w;rw[E] at R;rw[G] at u;rw[I] at w;obtain⟨s0,J,_,w0⟩:=DataW.trod_int (P:=ag) (t:=43) (k:= .u64) (by kernel_rfl) R;obtain⟨p1,m1,c1,l1,K,g1⟩:=anN u;obtain⟨p2,m2,c2,l2,N,g2,g3⟩:=anO w;have J:a= .int .u64 s0:=by simpa using J
   have K:b= .slice p1 m1 c1:=by simpa using K
   have N:c= .slice p2 m2 c2:=by simpa using N
   obtain⟨u0,u1⟩:=Wg w0;refine⟨(s0.toNat,b,c), ?_,⟨s0.toNat,l1,l2⟩,rfl,by show s0.toNat<_;omega, ?_, ?_,g3⟩
   ·rw[J];simp[yG];omega
   ·rw[K];exact g1
   ·rw[N];exact g2) h
 obtain⟨f,q⟩:=Go.Deep.choose_lt (α:=bI) (n:=l.length) (p:=λ i s=>∀hi:i<l.length,l[i].1=s.ref/\s.ref<18446744073709551616/\Sl db 2 W l[i].2.1 s.labels/\Sl ff 3 W l[i].2.2 s.chunks/\∀c∈s.chunks,c.1<18446744073709551616) (λ i hi=>by
  obtain⟨s,U⟩:=h3 _ (iy hi);exact⟨s,λ _=>U⟩)
 refine⟨p,n,c,(lZ l.length).map f,u,⟨l,by simp,w,λ i a b=> ?_⟩,λ s U=> ?_⟩
 ·have e:((lZ l.length).map f)[i]=f i:=by simp
  obtain⟨Z,q2,q3,q4,q5⟩:=q i a a;rw[e];exact⟨Z,q3,q4⟩
 ·obtain⟨i,hi,rfl⟩:=dt.1 U;obtain⟨Z,q2,q3,q4,q5⟩:=q i (List.mem_range.1 hi) (List.mem_range.1 hi);exact⟨q2,q5⟩
end
end Go.Proofs
namespace Go.Proofs.YtlhckhmoneeilaaGreatDoor
open Go Go.V Go.ChangeShapes Go.WideShapes Go.ChangeAt Go.RowKit
theorem anQ:Kids ag (·<ag.types.size):=kids_rows (by kernel_rfl) (by kernel_rfl)
theorem anR:∀t e,t<ag.types.size->ag.underlying t=some (.slice e)->0<ag.cellsOf e:=slices_full_of ag (by kernel_rfl)
theorem anS:ownKnob ag.godebug=none:=by kernel_rfl
theorem K2{w w':ak}(k:aS w w'){b:Nat}(I:b<w.heap.size):w'.heap[b]? =w.heap[b]? :=by
 have r:=λ o=>k.cell b o I (λ h=>h)
 unfold view at r;have q:=r 0;cases u:w.heap[b]? with
 |none=>rw[Array.getElem?_eq_none_iff] at u;omega
 |some x=>
  cases E:w'.heap[b]? with
  |none=>rw[u,E] at q;cases x<;>cases q
  |some y=>
   rw[u,E] at q;simp only[u,E] at r;cases x with
   |cells c e f=>
    cases y with
    |cells G K N=>
     have J:G=c:=Array.ext_getElem? λ o=>by
      have:=r o;simp at this;exact this.2.2.1
     have:=r 0;simp at this;obtain⟨rfl,_,_,rfl⟩:=this;rw[J]
    |_=>cases q
   |_=>cases y<;>first|(cases q;done)|(simp at q;simp[q])
theorem anT{w w':ak}{S:MemPlace->Prop}(k:aS w w'):w.keptBut w' S:=by
 refine⟨k.os,k.output,λ i hi=> ?_⟩;rw[K2 k hi];cases w.heap[i]? with
 |none=>rfl
 |some x=>cases x<;>simp
theorem anU{w w':ak}(k:aS w w'){p:MemPlace}(c:p.block<w.heap.size):w.sameAt w' p:=by
 cases p with
 |cell b o=>
  show w'.cell? ⟨b,o,none⟩=w.cell? ⟨b,o,none⟩;have c:b<w.heap.size:=c;unfold World.cell?;dsimp only;rw[K2 k c]
 |map b=>exact K2 k c
section
variable{H:Type}{enc:cK×ay->H}
theorem Wh{w w':ak}(k:aS w w'){sp:Nat->Bool}:∀{ts:List cK} {vs:List ay} {u:List (DataW H)} {r:List MemPlace},DataW.TrodAll enc ag w 0 sp true ts vs u r->(∀p∈r,p.block<w.heap.size)->DataW.TrodAll enc ag w' 0 sp true ts vs u r
 |[],[],[],_,h,_=>h
 |_::_,_::_,_::_,_,⟨p,q,⟨n,E⟩,G,e⟩,y=>⟨p,q,⟨n,DataW.trod_carry n _ _ _ E (λ x c=>anU k (y x (by rw[e];exact List.mem_append_left _ c)))⟩,Wh k G (λ x c=>y x (by rw[e];exact List.mem_append_right _ c)),e⟩
theorem anV{f:Func}{s:ChangeSpec}{W I:ak}{args:Array ay}{c u:List (DataW H)}{before:List MemPlace}(R:f.resultTypes=#[4])(U:s.vars=[])(Q:∀t∈f.params.toList,t<ag.types.size)
  (E:s.fn H (c++u)={results:=[.lit (.bool true)],args:=c})(w:DataW.Whole enc ag f.params.toList s.vars false W args.toList c u before)(k:aS W I):
  s.post enc ag f false true false false W args (.bool true) I:=by
 have y:=w.lt;obtain⟨p,q,J,N,r,_,_⟩:=w;have K:∀x∈p,x.block<W.heap.size:=λ x G=>y x (by rw[r];exact List.mem_append_left _ G)
 have w:DataW.Whole enc ag f.params.toList s.vars false W args.toList c u before:=⟨p,q,J,N,r,by assumption,by assumption⟩;refine⟨c,u,before,[],p,[],w, ?_, ?_, ?_,anT k,λ h=>by cases h⟩
 ·rw[R,E];exact trodAll_mk1 (shut_bool (by kernel_rfl) _)
 ·rw[E];exact Wh k (J.respare anQ anR Q (λ x G=>by simpa using K x G)) K
 ·rw[U,E];rfl
end
abbrev Ea:List (String×DataW Unit):=[("pub-quillon/pub/prometheus/tsdb/encoding.ErrInvalidSize",Rows.laid_pub_quillon_pub_prometheus_tsdb_encoding_ErrInvalidSize),("pub-quillon/pub/prometheus/tsdb/encoding.ErrInvalidChecksum",Rows.laid_pub_quillon_pub_prometheus_tsdb_encoding_ErrInvalidChecksum)]
theorem anW(os:Os)(args:Array ay):laidMetH ag Ea ((World.doorLaid ag 600 os).forCall (λ _ _=>0) ⟨#[],args,[]⟩).memory:=
 laidMet_of_run' 8 (by kernel_rfl) (by kernel_rfl)
theorem atj(os:Os)(started:os.Started)(H:Type)(enc:cK×ay->H):
  ReturnsInHanded {} Tryz.checked os 4 .any (λ w args=>(Rows.fnIndexTableSpec.pre enc ag C5 [] false w args/\laidMetH ag Ea w)/\sizedMet enc ag C5 (OpenSpec.ofChange Rows.fnIndexTableSpec) false w args)
   (Rows.fnIndexTableSpec.post enc ag C5 false true false false):=by
 refine returnsInHanded_of_change_and (C:=Tryz.checked) (X:=λ w _=>laidMetH ag Ea w) (λ _ _ _ hh h=>h.of_heap hh) anS started (by kernel_rfl) Tryz.func4
  (ChangeSpec.witness_shaped (enc:=enc) (C:=Tryz.checked) (os:=os) (X:=λ w _=>laidMetH ag Ea w) false (World.doorLaid ag 600 os) #[.slice none 0 0, .slice none 0 0] 8 rfl (World.shaped_of_RefB (by kernel_rfl) (by kernel_rfl)) (by kernel_rfl) (by kernel_rfl) (by kernel_rfl) (anW os _)) ?_
 intro W base args K gs before u G _ _ hL _;have c:∀(j:Nat) t v,C5.params[j]? =some t->args[j]? =some v->Value.okWide ag W .any base t v:=u;have y:=G;obtain⟨p,q,x,U,rfl,Z,lU⟩:=G;have E:DataW.TrodAll enc ag W 0 (λ _=>true) true C5.params.toList args.toList K p:=x;rw[Tryz.params4] at E c;obtain⟨v0,v1,d0,d1,p0,p1,rfl,rfl,rfl,⟨n0,N⟩,⟨n1,Q⟩⟩:=trodAll_two E;obtain⟨rfl,rfl⟩:=trodVars_none U;obtain⟨a0,l0,c0,rfl⟩:=okWide_slice Tryz.underlying22 (c 0 22 v0 rfl rfl);obtain⟨a1,l1,c1,rfl⟩:=okWide_slice Tryz.underlying23 (c 1 23 v1 rfl rfl);obtain⟨x0,m0,e0,M,I,hu⟩:=anM N;obtain⟨x1,m1,e1,L,J,hv,R⟩:=anP Q;simp[Value.cells] at I J;obtain⟨rfl,rfl,rfl⟩:=I;obtain⟨rfl,rfl,rfl⟩:=J;refine Calls.mono (k4 hu hv R) λ e W' h=> ?_
 cases e with
 |returned r=>
  obtain⟨rfl,k⟩:=h;exact⟨_,rfl,anV rfl rfl (by rw[Tryz.params4];decide+kernel) rfl y k⟩
 |_=>exact h.elim
end Go.Proofs.YtlhckhmoneeilaaGreatDoor
namespace Go.Proofs.YtlhckhmoneeilaaGreatDoor
open Go
theorem atk:(Rows.fnIndexTableRow.wf (OpenSpec.ofChange Rows.fnIndexTableSpec))=true:=by kernel_rfl
theorem atl:(laidOutB ag)=true:=by kernel_rfl
theorem atm:(mapsRowed ag)=true:=by kernel_rfl
theorem atn:(C5.params.all (ag.readableRec ·))=true:=by kernel_rfl
theorem ato:(namedTie ag Rows.fnIndexTableRow.named Rows.fnIndexTableSpec.vars)=true:=by kernel_rfl
theorem atp:((Rows.fnIndexTableRow.stops==[]))=true:=by kernel_rfl
theorem atq:((ag.stops==[]))=true:=by kernel_rfl
theorem atr:((Rows.fnIndexTableRow.knobs==[]))=true:=by kernel_rfl
theorem ats:((ag.stopKnobs==[]))=true:=by kernel_rfl
theorem att:((Rows.fnIndexTableRow.inPlace==ag.inPlace 4))=true:=by kernel_rfl
theorem atu:((Rows.fnIndexTableRow.unfollowed==ag.unfollowed 4))=true:=by kernel_rfl
theorem atv:((Rows.fnIndexTableRow.recurses==ag.recurses 4))=true:=by kernel_rfl
theorem atw:((Rows.fnIndexTableRow.named==ag.varsNamed 4))=true:=by kernel_rfl
theorem atx:((Rows.fnIndexTableRow.maps==(C5.params.toList++Rows.fnIndexTableSpec.plain.varTypes ag).any (ag.mapsRec ·)))=true:=by kernel_rfl
theorem aty:((Rows.fnIndexTableRow.ifaces==(C5.params.toList++Rows.fnIndexTableSpec.plain.varTypes ag).any (ag.ifacesRec ·)))=true:=by kernel_rfl
theorem atz:((Rows.fnIndexTableRow.mapsOut==ag.mapsAmong C5.resultTypes.toList))=true:=by kernel_rfl
theorem atB:((Rows.fnIndexTableRow.loops==(C5.params.toList++Rows.fnIndexTableSpec.plain.varTypes ag).any (ag.loopsFrom ·)))=true:=by kernel_rfl
theorem atD:((Rows.fnIndexTableRow.wideKeys==(C5.params.toList++Rows.fnIndexTableSpec.plain.varTypes ag++C5.resultTypes.toList).any (ag.wideKeysFrom ·)))=true:=by kernel_rfl
theorem atE:(Rows.fnIndexTableSpec.vars.all (ag.varReadable ·))=true:=by kernel_rfl
theorem atF:(C5.resultTypes.all (λ t=>ag.readableRec t&&decide (t<ag.types.size)))=true:=by kernel_rfl
theorem atG:((Rows.fnIndexTableRow.ifacesOut==C5.resultTypes.toList.any (ag.ifacesRec ·)))=true:=by kernel_rfl
theorem atH:((Rows.fnIndexTableRow.loopsOut==C5.resultTypes.toList.any (ag.loopsFrom ·)))=true:=by kernel_rfl
theorem atI:((Rows.fnIndexTableRow.plainKeys==ag.plainKeys))=true:=by kernel_rfl
theorem atJ:(Rows.fnIndexTableRow.shortTexts.isNone)=true:=by kernel_rfl
theorem atK:(ag.stopsHeard)=true:=by kernel_rfl
theorem atL:(ag.mayEnter)=true:=by kernel_rfl
theorem atM:((Rows.fnIndexTableRow.lifted==ag.liftsFinal))=true:=by kernel_rfl
theorem atN:((ag.make==some Rows.fnIndexTableRow.make))=true:=by kernel_rfl
theorem atO:((Rows.fnIndexTableRow.kinds==(if Rows.fnIndexTableRow.domain.isEmpty then [] else C5.params.toList.map λ t=>match ag.underlying t with|some (.int k)=>some k|_=>none)))=true:=by kernel_rfl
theorem atP:((Rows.fnIndexTableRow.pinned==Rows.fnIndexTableRow.pinnedBy))=true:=by kernel_rfl
theorem atQ:((Rows.fnIndexTableRow.veiled==(C5.params.toList++Rows.fnIndexTableSpec.plain.varTypes ag++C5.resultTypes.toList).any (ag.veiledRec ·)))=true:=by kernel_rfl
theorem atS:(Rows.fnIndexTableRow.veiledFits ag C5.params.toList (C5.params.toList++Rows.fnIndexTableSpec.plain.varTypes ag++C5.resultTypes.toList))=true:=by kernel_rfl
theorem atT:joinedFacts ag 4 C5 Rows.fnIndexTableSpec Rows.fnIndexTableRow=true:=by
 simp only[joinedFacts,Bool.and_eq_true];exact⟨⟨⟨⟨⟨⟨⟨⟨⟨⟨⟨⟨⟨⟨⟨⟨⟨⟨⟨⟨⟨⟨⟨⟨⟨⟨⟨⟨⟨⟨⟨atk,atl⟩,atm⟩,atn⟩,ato⟩,atp⟩,atq⟩,atr⟩,ats⟩,att⟩,atu⟩,atv⟩,atw⟩,atx⟩,aty⟩,atz⟩,atB⟩,atD⟩,atE⟩,atF⟩,atG⟩,atH⟩,atI⟩,atJ⟩,atK⟩,atL⟩,atM⟩,atN⟩,atO⟩,atP⟩,atQ⟩,atS⟩
theorem asq:ag.funcNamed "pub-quillon/laws.FnIndexTable" =some 4:=by kernel_rfl
theorem atU:C5.isInstance ag Rows.fnIndexTableRow.origin Rows.fnIndexTableRow.targs:=of_decide_eq_true (by kernel_rfl)
theorem atV:C5.isWrapper ag Rows.fnIndexTableRow.wrapper Rows.fnIndexTableRow.mainSum:=by unfold Func.isWrapper;first|(rw[if_pos (by decide+kernel)];kernel_rfl)|(rw[if_neg (by decide+kernel)];exact⟨rfl,rfl⟩)
theorem atW:Rows.FnIndexTableSaid:=
 OpenClaim.holds_of_wide 4 C5 rfl rfl rfl rfl rfl rfl rfl ⟨rfl,rfl,rfl,rfl,rfl⟩ rfl rfl rfl rfl rfl asq Tryz.func4 atT atU atV
  (λ os started H enc _=>atj os started H enc)
theorem atX:Rows.fnIndexTableRow.wfByText (OpenSpec.ofChange Rows.fnIndexTableSpec)=true:=by kernel_rfl
theorem atY:ag.mainIs=some (true, "fbb738224745b04c17d798a9366d9a68599301c54432a128f818b03ce8d89286".toList):=by kernel_rfl
theorem atZ:true=ag.looks []:=by kernel_rfl
theorem at1:false=Rows.fnIndexTableRow.goesBy ag:=by kernel_rfl
theorem at2:([22,23].all λ u=>!ag.wantsStandIn u)=true:=by kernel_rfl
theorem index_table_holds:Rows.FnIndexTableCardSaid:=
 Claim7.holds_tied_plain_at .later [] [.sentinel, .sentinel] true (true, "fbb738224745b04c17d798a9366d9a68599301c54432a128f818b03ce8d89286") true
  atW (λ _ h=>by cases h) atX (λ _ h=>by cases h) fnIndexTable_row_tie rfl ⟨rfl,rfl⟩ atY rfl
  (λ f fn r c=>by
   obtain rfl:f=4:=iW (asq.symm.trans r)|>.symm
   obtain rfl:fn=C5:=(iW (Tryz.func4.symm.trans c)).symm;exact⟨atZ,λ j t q=>by
    have q:#[22,23][j]? =some t:=by rw[<-Tryz.params4];exact q
    have u:t∈[22,23]:=by simpa using Array.mem_of_getElem? q
    exact(show ag.wantsStandIn t=false by simpa using List.all_eq_true.1 at2 t u)⟩)
  at1
#print axioms index_table_holds
end Go.Proofs.YtlhckhmoneeilaaGreatDoor
