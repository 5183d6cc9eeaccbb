/- The law FnIndexTable answers true for every input, and what came in reads behind the call as it read before (Rows.FnIndexTableCardSaid). Conditions: those of the given card alone, which ties the listed package variables to the program. Packed by a program of ours: short names, no remarks. -/
import Derived.Test.YtlhckhmoneeilaaGreatDoorTD
set_option linter.all false
set_option maxHeartbeats 4000000
set_option maxRecDepth 100000
set_option autoImplicit true
open Array renaming getElem?_eq_some_iff→rD
open BitVec renaming ofInt→ql,ofNat→lY,toNat_ofNat→mI
open Classical renaming byContradiction→qq
open Go renaming Addr→kd,FuncId→fz,Program→bU,TypeId→cK,Value→ay,World→ak,bytes→fA,convert→dq,run_underlying→iN,undef→dU
open Go.Addr renaming add→aw
open Go.Builtin renaming append_→cM,copy_→mF
open Go.Instr renaming buildSlice→bw,lookup→dJ,makeSlice→kS,mapUpdate→fF,sliceAt→dw
open Go.IntKind renaming i64→af,u32→aL,u64→aj,u8→aG,wrap→aq
open Go.Op renaming bytesLess→ds
open Go.Proofs.Tryz renaming prog→ag
open Go.Result renaming andThen→iV
open Go.Value renaming agg→aV,bool→aQ,iface→cG,int→ah,nilIface→aA,pointer→an,slice→aa,string→aC,tuple→aZ
open Int renaming tdiv→gi,toNat_natCast→fH
open List renaming append_assoc→dx,append_nil→iA,drop_eq_getElem_cons→gS,drop_left→iz,drop_zero→T2,flatMap_append→jK,flatMap_cons→fG,foldl_cons→qo,getD_eq_getElem?_getD→l8,getElem?_eq_getElem→gH,getElem_map→mJ,length_append→aY,length_cons→dH,length_drop→hY,length_map→fu,length_take→fS,length→fZ,map_append→iE,map_cons→hW,mem_append→mG,mem_cons→dX,mem_flatMap→jJ,mem_singleton→oO,nil_append→oS,pairwise_iff_getElem→qt,range→lZ,replicate→jx,set_cons_zero→oU,take_append_drop→kC,take_append_getElem→l7,take_left→E2,take_length→fY,take_of_length_le→lD
open Nat renaming le_refl→bB,le_trans→eX,lt_of_lt_of_le→dR,mod_eq_of_lt→lC,mul_one→mH,sub_zero→nJ,zero_le→dO
open Option.some renaming inj→iW
namespace Go.Proofs
open Go Go.V
theorem ae':gW ag 38 91 (λ x:Nat×OA×Nat×Nat=>[ah aj (x.1:Int),aa x.2.1 x.2.2.1 x.2.2.2]) 2 32 [ah aj 0,aa none 0 0]:=
 ⟨⟨by kernel_rfl,by kernel_rfl,rfl,by decide⟩,λ _=>rfl,λ x u c=>by simp at c;rcases c with rfl|rfl<;>rfl⟩
theorem afa(n:Nat)(p:OA)(l c:Nat)(w:ak):(bw 38 1 #[(0,aV #[ah aj (n:Int),aa p l c])]).run ag w= .ok (aa (some ⟨w.heap.size,0,none⟩) 1 1) (w.alloc (.cells ⟨[ah aj (n:Int),aa p l c]⟩ 91)):=by kernel_rfl
theorem k13{w:ak}{u v:ay}{L:List bI}{R:List Nat}(hL:im w u L)(hR:Refs w v R)(hl:L.length<=1000)(hr:R.length<=1000):
  au ag 13 #[u,v] w λ r w'=>nj w' r (R.zip (L.map (·.labels)))/\aS w w':=by
 obtain⟨p,c,rfl,H⟩:=hL.ex;obtain⟨q,d,rfl,hd⟩:=aX.ex hR;apply Yh;unfold Mv;have hz:(R.zip (L.map (·.labels))).length=min R.length L.length:=by simp
 refine Yg (λ p' L' C' q' M' D' oP oL oC i w'=>p=p'/\L'=L.length/\c=C'/\q=q'/\M'=R.length/\d=D'/\aS w w'/\∃k:Nat,i=(k:Int)/\k<=L.length/\k<=R.length/\∃y:List (Nat×OA×Nat×Nat),y.length=k/\pj (λ x:Nat×OA×Nat×Nat=>[ah aj (x.1:Int),aa x.2.1 x.2.2.1 x.2.2.2]) 2 w.heap.size w' (aa oP oL oC) y/\∀i (I:i<y.length) (W:i<(R.zip (L.map (·.labels))).length),y[i].1=(R.zip (L.map (·.labels)))[i].1/\Sl db 2 w (aa y[i].2.1 y[i].2.2.1 y[i].2.2.2) (R.zip (L.map (·.labels)))[i].2) (λ _ _ _ _ _ _ _ _ _ i _=>((L.length:Int)-i).toNat) ?_ ?_
 ·exact⟨rfl,rfl,rfl,rfl,rfl,rfl,aS.refl w,0,rfl,by omega,by omega,[],rfl,pj.nil _ _ _ _,λ i h=>by simp at h⟩
 ·rintro _ _ _ _ _ _ oP oL oC _ X ⟨rfl,rfl,rfl,rfl,rfl,rfl,K,k,rfl,hk,Sj,y,U,E,hg⟩;unfold Fz;have done:k=min R.length L.length->wR (λ r w'=>nj w' r (R.zip (L.map (·.labels)))/\aS w w') oP oL oC X:=by
   intro Q1;unfold wR;refine⟨⟨y.map λ x=>(x.1,aa x.2.1 x.2.2.1 x.2.2.2),by rw[fu,U,hz,Q1], ?_, ?_⟩,K⟩
   ·have:=E.sl;show aX _ _ _ _ _;rw[fu,List.flatMap_map];exact this
   ·intro i I W;rw[fu] at I;have:=hg i I W;simp only[mJ];exact⟨this.1,Sl.aH this.2 K⟩
  refine bn (λ H=> ?_) (λ H=> ?_)
  ·have gT:k<L.length:=by simp at H;omega
   refine bn (λ H=> ?_) (λ H=> ?_)
   ·have rR:k<R.length:=by simp at H;omega
    unfold Fy;have d1:=K.trans (cu X);refine uN hR k rR rfl (λ a m=>⟨_,d1.at m, ?_⟩);refine kq hL k gT rfl (λ b Z c1 P2 c2 m0 m1 m2 s1 s2=>⟨_,_,_,d1.at m1, ?_⟩);refine⟨_,_,afa _ _ _ _ _,_,_,_,rfl, ?_⟩;have G:=bA X.drew (.cells ⟨[ah aj ((R[k]:Nat):Int),aa Z (L[k]).labels.length c1]⟩ 91);have d2:=d1.trans G;refine⟨d2.at m1,d2.at m, ?_⟩;have hx:Sl (λ x:Nat×OA×Nat×Nat=>[ah aj (x.1:Int),aa x.2.1 x.2.2.1 x.2.2.2]) 2 (X.drew.alloc (.cells ⟨[ah aj ((R[k]:Nat):Int),aa Z (L[k]).labels.length c1]⟩ 91)) (aa (some ⟨X.drew.heap.size,0,none⟩) 1 1) [(R[k],Z,(L[k]).labels.length,c1)]:=
     aX.new _ 2 [ah aj ((R[k]:Nat):Int),aa Z (L[k]).labels.length c1] 91 1 1 rfl (bB _)
    have Q:=E.aH ((cu X).trans G);refine oi ae' Q.1 hx (by simp;omega) (by simp;omega) (λ p2 Sk w2 I W h3=> ?_);have N:aS w w2:=(d1.trans G).new W (λ b _ hS=>E.2 b hS.1);refine⟨N.at m1,N.at m, ?_⟩;rw[gX (by omega)];refine⟨⟨rfl,rfl,rfl,rfl,rfl,rfl,N,k+1,rfl,by omega,by omega,y++[(R[k],Z,(L[k]).labels.length,c1)],by simp[U],⟨I, ?_⟩, ?_⟩,by omega⟩
    ·intro g J;rcases h3 with h3|⟨g',hg2,hle⟩
     ·exact E.2 g (h3▸J)
     ·rw[hg2] at J;cases J;exact eX (d1.trans G).size hle
    ·intro i I W;by_cases hi:i<y.length
     ·rw[List.getElem_append_left hi];exact hg i hi W
     ·have:i=y.length:=by simp at I;omega
      subst this;rw[List.getElem_append_right (bB _)];simp only[Nat.sub_self,List.getElem_cons_zero,List.getElem_zip,mJ,U];exact⟨trivial,s1⟩
   ·exact done (by simp at H;omega)
  ·exact done (by simp at H;omega)
end Go.Proofs
namespace Go.V
theorem Own.Iy{w w':ak}{z n g c:Nat}{vs vs':List ay}{S:Nat->Nat->Prop}(h:Own w z (aa (some ⟨g,0,none⟩) n c) n vs)(R:vs'.length=n*z)(U:Ob w' ⟨g,0,none⟩ vs')(Q:Fr S w w')(K:∀o,n*z<=o->¬S g o):Own w' z (aa (some ⟨g,0,none⟩) n c) n vs':=by
 refine⟨R, ?_⟩;rcases h.2 with⟨x,_⟩|⟨g',cap,cur,e,x,I,N,y,W,ht⟩
 ·cases x
 ·cases x;right;have E:g<w.heap.size:=(rD.1 I).1;obtain⟨q,G,h3⟩:=LM I (Q.cell g (n*z) E (K _ (bB _)));refine⟨g,c,q,e,rfl,G,N,y,by omega, ?_⟩;apply List.ext_getElem?;intro i;rw[List.getElem?_take];by_cases hi:i<n*z
  ·rw[if_pos hi];have u:i<vs'.length:=by omega
   have H:=U.at i (v:=vs'[i]) (by simp[u]);rw[v_] at H;obtain⟨_,X,n',Z,r⟩:=H;rw[cT,fJ] at r;unfold view at r;simp only[G] at r;simp at r;rw[gH u];have J:=r.2.2.1;simpa using J
  ·rw[if_neg hi]
   symm
   apply List.getElem?_eq_none;omega
theorem Own.over{w w':ak}{n g c:Nat}{vs vs':List ay}{S:Nat->Nat->Prop}(h:Own w 1 (aa (some ⟨g,0,none⟩) n c) n vs)(x:vs'.length=n)(u:Ob w' ⟨g,0,none⟩ vs')(r:Fr S w w')(q:∀o,n<=o->¬S g o):Own w' 1 (aa (some ⟨g,0,none⟩) n c) n vs':=
 h.Iy (by omega) u r (λ o h=>q o (by omega))
end Go.V
namespace Go.Proofs
open Go Go.V
def Fw(w:ak)(a:kd)(v:ay)(l:Wd):Prop:=
 (∃nm,Ob w a [v,ah aj (l.length:Int),aC nm])/\Own w 1 v l.length (cD l)/\aN v≠some a.block/\l.length<=1073741824
def mn(a:kd)(v:ay)(n:Nat):Nat->Nat->Prop:=λ b o=>(b=a.block/\a.off<=o/\o<a.off+3)\/(aN v=some b/\n<=o)
def sO(w:ak)(a:kd)(v:ay)(n:Nat)(w':ak)(l':Wd):Prop:=
 ∃v',Fw w' a v' l'/\Fr (mn a v n) w w'/\(aN v'=aN v\/∃g,aN v'=some g/\w.heap.size<=g)
theorem Fw.fr{S:Nat->Nat->Prop}{w w':ak}{a:kd}{v:ay}{l:Wd}(h:Fw w a v l)(q:Fr S w w')(r:∀o,a.off<=o->o<a.off+3->¬S a.block o)(u:∀g,aN v=some g->∀o,¬S g o):Fw w' a v l:=by
 obtain⟨⟨nm,y⟩,E,c,x⟩:=h;exact⟨⟨nm,y.fr q (λ o a b=>r o a (by simpa using b))⟩,E.fr q u,c,x⟩
theorem Fw.aH{w w':ak}{a:kd}{v:ay}{l:Wd}(h:Fw w a v l)(c:aS w w'):Fw w' a v l:=h.fr c (λ _ _ _ x=>x) (λ _ _ _ x=>x)
theorem Fw.v{w:ak}{a:kd}{v:ay}{l:Wd}(h:Fw w a v l):at_ w a v:=by
 obtain⟨⟨nm,c⟩,_⟩:=h;simpa using c.at 0 (v:=v) rfl
theorem Fw.pos{w:ak}{a:kd}{v:ay}{l:Wd}(h:Fw w a v l):at_ w (a.add 1) (ah aj (l.length:Int)):=by
 obtain⟨⟨nm,c⟩,_⟩:=h;exact c.at 1 rfl
theorem Fw.sl{w:ak}{a:kd}{v:ay}{l:Wd}(h:Fw w a v l):∃p c,v=aa p l.length c/\l.length<=c:=h.2.1.ex
theorem Fw.eD{w:ak}{a:kd}{v:ay}{l:Wd}(h:Fw w a v l):cz w v l:=h.2.1.cV
theorem Fw.lt{w:ak}{a:kd}{v:ay}{l:Wd}(h:Fw w a v l):a.block<w.heap.size:=by
 obtain⟨⟨nm,c⟩,_⟩:=h;exact c.lt (by simp)
def dd(x:OA×Nat×Nat):List ay:=[aa x.1 x.2.1 x.2.2]
def uP(w:ak)(v:ay)(h:List Wd)(away:Nat->Prop):Prop:=
 ∃c:List (OA×Nat×Nat),c.length=h.length/\Sl dd 1 w v c/\(∀g,aN v=some g->away g)/\∀i (q:i<c.length) (r:i<h.length),cz w (aa c[i].1 c[i].2.1 c[i].2.2) h[i]/\∀g,aN (aa c[i].1 c[i].2.1 c[i].2.2)=some g->away g
theorem CX{w:ak}{a:kd}{v x:ay}{l:Wd}{u:List Wd}(h:Fw w a v l)(hx:uP w x u (λ g=>g≠a.block/\aN v≠some g))(hm:l.length+u.flatten.length<=1073741824)(hn:u.length<=1000):
  au ag 186 #[an (some a),x] w λ r w'=>r=aA/\sO w a v l.length w' (l++u.flatten):=by
 obtain⟨y,iS,U,X,hr⟩:=hx;obtain⟨p,c,rfl,hc⟩:=aX.ex U;apply abh;unfold O_;refine abg (λ a' p' L' C' t8 t9 w'=>a=a'/\p=p'/\L'=y.length/\c=C'/\t8=(y.length:Int)/\∃k:Nat,t9=(k:Int)/\k<=y.length/\sO w a v l.length w' (l++(u.take k).flatten)) (λ _ _ _ _ t8 t9 _=>(t8-t9).toNat) ?_ ?_
 ·exact⟨rfl,rfl,rfl,rfl,rfl,0,rfl,by omega,v,by simpa using h,Fr.refl _ w, .inl rfl⟩
 ·rintro _ _ _ _ _ _ w1 ⟨rfl,rfl,rfl,rfl,rfl,k,rfl,hk,v1,hF,hf,hb⟩;unfold GK;refine bn (λ Z=> ?_) (λ Z=> ?_)
  ·have gT:k<y.length:=by simp at Z;omega
   have Q1:k<u.length:=by omega
   have H:(u.take (k+1)).flatten=(u.take k).flatten++u[k]:=by
    rw[<-l7 Q1,List.flatten_append];simp
   have J:(u.take (k+1)).flatten.length<=u.flatten.length:=by
    conv=>rhs;rw[<-kC (k+1) u]
    rw[List.flatten_append,aY];omega
   rw[H,aY] at J;have Ik:aX w1 1 (aa p y.length c) y.length (y.flatMap dd):=aX.fr U hf (λ q l' c' e o _ _ K=>by
    have I:=X q.block (by rw[e];rfl);rcases K with K|K
    ·exact I.1 K.1
    ·exact I.2 K.1)
   have R:=hr k gT Q1;have hxs:=R.1;have uQ:y[k].2.1=u[k].length:=(Sl.len R.1).1;have lQ:cz w1 (aa y[k].1 y[k].2.1 y[k].2.2) u[k]:=aX.fr R.1 hf (λ q l' c' e o _ _ K=>by
    have I:=R.2 q.block (by rw[e];rfl);rcases K with K|K
    ·exact I.1 K.1
    ·exact I.2 K.1)
   refine Sl.ix (enc:=dd) (z:=1) (λ _=>rfl) (by omega) Ik (by omega) (by omega) (λ q ou hq=> ?_);have Sm:=hq 0 _ rfl;simp only[fH,add_zero] at Sm;refine⟨_,_,_,Sm, ?_⟩;obtain⟨p1,c1,rfl,ao4⟩:=hF.sl;refine⟨_,_,_,hF.v, ?_⟩;obtain⟨⟨nm,ho⟩,hv,eY,lJ⟩:=hF;obtain⟨v',w2,mj,lO,mZ,E⟩:=Own.append (tx:=26) (ty:=26) qH hv (cz.src lQ) (by simp only[aY] at*;omega) (by simp only[aY] at*;omega);refine⟨v',w2,mj, ?_⟩;obtain⟨p2,c2,rfl,kL⟩:=lO.ex;have gy:Ob w2 a [aa p1 (l++(u.take k).flatten).length c1,ah aj ((l++(u.take k).flatten).length:Int),aC nm]:=ho.fr mZ (λ o _ _ h=>eY h.1);refine⟨_,_,_,rfl,⟨trivial,by simpa using gy.can 0 (by simp)⟩, ?_⟩;have Q:=gy.set 0 (by simp) (aa p2 ((l++(u.take k).flatten).length+u[k].length) c2);simp only[add_zero,oU] at Q;refine⟨_,Q.at 1 rfl,⟨trivial,Q.can 1 (by simp)⟩, ?_⟩;have N:=Q.set 1 (by simp) (ah aj (aq aj (((l++(u.take k).flatten).length:Int)+aq aj (y[k].2.1:Int))));simp only[List.set_cons_succ,oU] at N;have ew:aq aj (((l++(u.take k).flatten).length:Int)+aq aj (y[k].2.1:Int))=((l++(u.take (k+1)).flatten).length:Int):=by
    rw[H,uQ,dV (x:=(u[k].length:Int)) (by omega) (by omega),dV (by omega) (by simp only[aY];omega)];simp only[aY];omega
   rw[ew] at N⊢;have yU:(l++(u.take (k+1)).flatten).length<=1073741824:=by rw[H,aY,aY];omega
   refine⟨_,N.at 1 rfl,aT (by rw[decide_eq_false_iff_not];omega) ?_⟩;rw[show aq af ((k:Int)+1)=((k+1:Nat):Int) by rw[bk (by omega) (by omega)];omega];have SU:Fr (λ b o=>b=a.block/\a.off<=o/\o<a.off+3) w2 ((w2.setCell a (aa p2 ((l++(u.take k).flatten).length+u[k].length) c2)).setCell (a.add 1) (ah aj ((l++(u.take (k+1)).flatten).length:Int))):=by
    refine(Fr.mono (Fr.set w2 a _) ?_).step (Fr.set _ (a.add 1) _) ?_
    ·rintro b o _ ⟨rfl,rfl⟩;exact⟨rfl,bB _,by omega⟩
    ·rintro b o ⟨h1,h2⟩ _;rw[cT] at h1;rw[fJ] at h2;exact⟨h1,by omega,by omega⟩
   generalize (w2.setCell a (aa p2 ((l++(u.take k).flatten).length+u[k].length) c2)).setCell (a.add 1) (ah aj ((l++(u.take (k+1)).flatten).length:Int))=W at N SU⊢;refine⟨⟨rfl,rfl,rfl,rfl,rfl,k+1,rfl,by omega,aa p2 ((l++(u.take k).flatten).length+u[k].length) c2,⟨⟨nm,N⟩, ?_, ?_, ?_⟩, ?_, ?_⟩,by omega⟩
   ·have h5:=lO.fr SU (λ b G o h=>by
     rcases E with E|⟨g,I,J⟩
     ·rw[E] at G;exact eY (by rw[G,h.1])
     ·rw[I] at G;cases G;have:=ho.lt (by simp);omega)
    have e5:(l++(u.take k).flatten++u[k]).length=(l++(u.take k).flatten).length+u[k].length:=aY;rw[H,<-dx,pk,e5];exact h5
   ·intro G;rcases E with E|⟨g,I,J⟩
    ·exact eY (by rw[<-E];exact G)
    ·rw[I] at G;cases G;have:=ho.lt (by simp);omega
   ·exact yU
   ·refine(hf.step mZ ?_).step SU (λ b o h _=> .inl h);intro b o h gU;rcases hb with hb|⟨g,I,J⟩
    ·exact .inr ⟨by rw[<-hb];exact h.1,by simp only[aY] at h;omega⟩
    ·rw[I] at h;have:=h.1;cases this;omega
   ·rcases E with E|⟨g,I,J⟩
    ·rw[E];exact hb
    ·exact .inr ⟨g,I,eX hf.size J⟩
  ·have gT:¬k<y.length:=by simp at Z;omega
   rw[lD (by omega)] at hF;exact⟨rfl,v1,hF,hf,hb⟩
theorem afe{w:ak}{g n c k:Nat}{l m:Wd}{x:ay}(h:Own w 1 (aa (some ⟨g,0,none⟩) n c) n (cD l))(W:l.length=n)(Z:cz w x m)(hm:m.length<=n-k)(hk:k<=n)(hc:n<=c)(h0:0<m.length):
  ∃w',(mF #[26,26] 3 #[aa (C4 (some ⟨g,0,none⟩) k c 1) (n-k) (c-k),x]).run ag w= .ok (ah af (m.length:Int)) w'/\
   Own w' 1 (aa (some ⟨g,0,none⟩) n c) n (cD (l.take k++(m++l.drop (k+m.length))))/\Fr (λ b o=>b=g/\k<=o/\o<k+m.length) w w':=by
 obtain⟨p,cx,rfl,Sn⟩:=aX.ex Z;have Q:=h.ob;have G:(cD l).length=n:=by rw[js,W]
 obtain⟨w',hr,N,I⟩:=Ic (P:=ag) (cD m) 0 k w (cD l) Q (by rw[js m,G];omega) (by
  intro v X;simp only[cD,jJ,fK,oO] at X;obtain⟨b,_,rfl⟩:=X;trivial)
 have u:=cz.src Z;have U:cD (l.take k++(m++l.drop (k+m.length)))=(cD l).take (k+0)++cD m++(cD l).drop (k+0+(cD m).length):=by
  rw[pk,pk,js m,dx];rw[Nat.add_zero,Rh,Rg]
 have y:(ag.info? 5).map (·.size)=some 1:=by kernel_rfl
 have hT:ag.underlying 26=some (.slice 5):=by kernel_rfl
 have r:Nat.min m.length (n-k)=m.length:=Nat.min_eq_left hm;rw[js m] at I;have K:Fr (λ b o=>b=g/\k<=o/\o<k+m.length) w w':=I.mono (λ b o _ q=>by
  have h1:b=g:=q.1;have h2:=q.2.1;have E:=q.2.2;simp at h2 E;exact⟨h1,by omega,by omega⟩)
 refine⟨w', ?_, ?_,K⟩
 ·cases R:ag.info? 5 with
  |none=>rw[R] at y;simp at y
  |some i=>
   have hi:i.size=1:=by rw[R] at y;simpa using y
   have J:=u.2.2.2.2 w rfl;have H:¬c=k:=by omega
   unfold C4;rw[if_neg H];simp only[Option.map_some,mH];simp[mF,iN hT,Builtin.lenOf,sizeOf,typeInfo,R,hi,r,J,hr,goInt]
 ·rw[U];exact Own.over h (by rw[<-U,js,<-W];simp;omega) N I (λ o ho q=>by
   have E:=q.2.2;simp at E;omega)
def over(l:Wd)(k:Nat)(m:Wd):Wd:=l.take k++(m++l.drop (k+m.length))
theorem Iz{l m:Wd}{k:Nat}(h:k+m.length<=l.length):(over l k m).length=l.length:=by
 unfold over;simp;omega
theorem sQ{w:ak}{a:kd}:au ag 198 #[an (some a)] w λ r w'=>r=aA/\w'=w:=by
 apply abi;exact⟨rfl,rfl⟩
theorem IA{w:ak}{a:kd}:au ag 140 #[an (some a)] w λ r w'=>r=aA/\w'=w:=by
 apply aaP;unfold OW;refine aF sQ ?_;rintro _ _ ⟨rfl,rfl⟩;exact⟨_,rfl,_,λ w=>cE _ w,_,rfl,aT rfl ⟨rfl,rfl⟩⟩
theorem Sp{w:ak}{a:kd}:au ag 139 #[an (some a)] w λ r w'=>r=aA/\w'=w:=by
 apply aaO;exact⟨rfl,rfl⟩
theorem Sq{w:ak}{a:kd}:au ag 240 #[an (some a)] w λ r w'=>r=aA/\w'=w:=by
 apply abr;exact⟨rfl,rfl⟩
def yV(v:ay)(k n:Nat):Nat->Nat->Prop:=λ b o=>aN v=some b/\k<=o/\o<k+n
theorem aff{w:ak}{a:kd}{v x:ay}{l m:Wd}{k:Nat}(h:Fw w a v l)(N:cz w x m)(X:k+m.length<=l.length)(Q:0<m.length):
  au ag 261 #[an (some a),x,ah aj (k:Int)] w λ r w'=>r=aA/\Fw w' a v (over l k m)/\Fr (yV v k m.length) w w':=by
 obtain⟨px,cx,rfl,U⟩:=aX.ex N;apply abj;unfold O';refine aF sQ ?_;rintro _ w ⟨rfl,rfl⟩;refine⟨_,rfl,_,λ w=>cE _ w,_,rfl,aT rfl ?_⟩;have H:=h.v;obtain⟨⟨nm,Z⟩,K,u,E⟩:=h;rcases K.2 with⟨_,h1⟩|⟨g,cap,cur,e,rfl,hg,I,R,W,ht⟩
 ·omega
 ·refine⟨_,_,_,H, ?_⟩;refine⟨_,λ w=>gV (e:=5) (by kernel_rfl) (z:=1) (by kernel_rfl) _ l.length cap k l.length (by omega) I _ none (.inr ⟨_,rfl⟩) (.inl ⟨rfl,rfl⟩) w,_,_,_,rfl, ?_⟩;obtain⟨w',hr,G,J⟩:=afe (k:=k) K rfl N (by omega) (by omega) I Q;have y:Fr (yV (aa (some ⟨g,0,none⟩) l.length cap) k m.length) w w':=J.mono (λ b o _ q=>⟨by rw[q.1];rfl,q.2.1,q.2.2⟩);have c:(over l k m).length=l.length:=Iz X;refine⟨_,w',hr,_,rfl,rfl,⟨⟨nm, ?_⟩, ?_,u, ?_⟩,y⟩
  ·have:=Z.fr J (λ o _ _ q=>u (by rw[q.1];rfl));rw[c];exact this
  ·rw[c];exact G
  ·rw[c];exact E
theorem yW(p:OA)(l c:Nat)(w:ak):(bw 299 1 #[(0,aa p l c)]).run ag w= .ok (aa (some ⟨w.heap.size,0,none⟩) 1 1) (w.alloc (.cells ⟨[aa p l c]⟩ 26)):=by kernel_rfl
theorem Sr(p q:OA)(l c k d:Nat)(w:ak):(bw 299 2 #[(0,aa p l c),(1,aa q k d)]).run ag w= .ok (aa (some ⟨w.heap.size,0,none⟩) 2 2) (w.alloc (.cells ⟨[aa p l c,aa q k d]⟩ 26)):=by kernel_rfl
theorem yX{w:ak}{p:OA}{l c:Nat}{m:Wd}{away:Nat->Prop}(u:cz w (aa p l c) m)(h:away w.heap.size)(q:∀g,aN (aa p l c)=some g->away g):
  uP (w.alloc (.cells ⟨[aa p l c]⟩ 26)) (aa (some ⟨w.heap.size,0,none⟩) 1 1) [m] away:=by
 refine⟨[(p,l,c)],rfl,aX.new w 1 [aa p l c] 26 1 1 rfl (bB _), ?_, ?_⟩
 ·intro g r;cases r;exact h
 ·intro i h x;have:i=0:=by simp at h;omega
  subst this;exact⟨Sl.aH u (bA _ _),q⟩
theorem Ss{w:ak}{p q:OA}{l c k d:Nat}{m n:Wd}{away:Nat->Prop}(y:cz w (aa p l c) m)(E:cz w (aa q k d) n)(h:away w.heap.size)(r:∀g,aN (aa p l c)=some g->away g)(u:∀g,aN (aa q k d)=some g->away g):
  uP (w.alloc (.cells ⟨[aa p l c,aa q k d]⟩ 26)) (aa (some ⟨w.heap.size,0,none⟩) 2 2) [m,n] away:=by
 refine⟨[(p,l,c),(q,k,d)],rfl,aX.new w 1 [aa p l c,aa q k d] 26 2 2 rfl (bB _), ?_, ?_⟩
 ·intro g x;cases x;exact h
 ·intro i h G;have:i=0\/i=1:=by simp at h;omega
  rcases this with rfl|rfl
  ·exact⟨Sl.aH y (bA _ _),r⟩
  ·exact⟨Sl.aH E (bA _ _),u⟩
theorem sO.pre{w u y:ak}{a:kd}{v:ay}{n:Nat}{l:Wd}(r:aS w u)(h:sO u a v n y l):sO w a v n y l:=by
 obtain⟨v',E,G,c⟩:=h;refine⟨v',E,(Fr.mono r (λ _ _ _ x=>x.elim)).step G (λ _ _ h _=>h), ?_⟩;rcases c with c|⟨g,H,q⟩
 ·exact .inl c
 ·exact .inr ⟨g,H,eX r.size q⟩
theorem Fw.aN{w:ak}{a:kd}{v:ay}{l:Wd}(h:Fw w a v l):∀g,aN v=some g->g<w.heap.size:=λ g c=>h.2.1.lt c
theorem afg(n:Nat):jx n (ah aG 0)=cD (jx n 0):=by
 induction n with
 |zero=>rfl
 |succ n c=>rw[List.replicate_succ,List.replicate_succ,c];rfl
theorem IB{w:ak}{a:kd}{v:ay}{l:Wd}{s:Nat}(h:Fw w a v l)(U:0<s)(hs:s<=1000)(hl:l.length<=1073700000):
  au ag 189 #[an (some a),ah af (s:Int)] w λ r w'=>r=aA/\sO w a v l.length w' (l++pad s l.length):=by
 apply abf;unfold O8;refine⟨_,h.pos, ?_⟩;dsimp only;rw[dV (x:=(s:Int)) (by omega) (by omega)];have u:Int.tmod (l.length:Int) (s:Int)=((l.length % s:Nat):Int):=rfl;rw[u];refine⟨by omega, ?_⟩;have Z:l.length % s<s:=Nat.mod_lt _ U;refine bn (λ E=> ?_) (λ E=> ?_)
 ·have:l.length % s=0:=by have:=beq_iff_eq.1 E;omega
  refine⟨rfl,v, ?_,Fr.refl _ w, .inl rfl⟩;have G:pad s l.length=[]:=by unfold pad;simp[this]
  rw[G,iA];exact h
 ·have eY:l.length % s≠0:=λ e=>by rw[e] at E;cases E
  rw[dV (x:=(s:Int)-((l.length % s:Nat):Int)) (by omega) (by omega)];have G:pad s l.length=jx (s-l.length % s) 0:=by
   unfold pad;rw[lC (by omega)]
  have R:(s:Int)-((l.length % s:Nat):Int)=((s-l.length % s:Nat):Int):=by omega
  rw[R];obtain⟨ht,i,N,hi,I,X,hz,J,lI,_⟩:=qH.ex;obtain⟨y,hr,K,H⟩:=run_make_full w 0 26 5 i N 1 ht hi hz I aj aj (s-l.length % s) (by rw[X];omega) (by simp only[maxLen];omega) (dO _);have Q:(madeCells N.cells ((s-l.length % s)*1)).toList=jx (s-l.length % s) (ah aG 0):=by
   rw[J,mH];exact toList_madeCells_one _ _
  rw[Q] at K;have c:aS w y:=(wg H).mono (λ b _ _ h=>by cases h);refine⟨_,y,hr,_,_,_,rfl, ?_⟩;have hx:cz y (aa (some ⟨w.heap.size,0,none⟩) (s-l.length % s) (s-l.length % s)) (pad s l.length):=by
   have:=(Az K).cV;rw[G];show aX _ _ _ (jx _ _).length _;rw[List.length_replicate];rw[afg] at this;exact this
  refine⟨_,_,yW _ _ _ y,_,_,_,rfl, ?_⟩;have q:=c.trans (bA y (.cells ⟨[aa (some ⟨w.heap.size,0,none⟩) (s-l.length % s) (s-l.length % s)]⟩ 26));have W:=h.lt;refine aF (CX (h.aH q) (yX hx ⟨by have:=c.size;omega,λ e=>by have:=h.aN _ e;have:=c.size;omega⟩ (λ g H=>by cases H;exact⟨λ e=>by simp at e;omega,λ e=>by have:=h.aN _ e;simp at this⟩)) (by simp[G];omega) (by simp)) ?_;rintro _ w3 ⟨rfl,hw⟩;refine⟨_,rfl,_,λ w=>cE _ w,_,rfl,aT rfl ⟨rfl,sO.pre q ?_⟩⟩;simpa using hw
def dM(s:Wd):ay:=aC (bs s)
def dZ(n:Nat):ay:=ah aL (n:Int)
def mo(n:Nat):ay:=ah aj (n:Int)
def kM(n:Nat):List ay:=[ah af (n:Int)]
def eQ(S:List Wd)(off:Nat):List Nat:=(lZ ((S.length+31)/32)).map λ j=>off+8+((S.take (32*j)).flatMap b8).length
structure pM(w:ak)(h ov:ay)(S:List Wd)(off:Nat)(B:Wd):Prop where
 eD:cz w h B
 len:B.length<=1073741824
 sym:∃r,B.drop off=dh (cY S)++r
 gF:Sl kM 1 w ov (eQ S off)
structure WC where
 f:kd
 p:kd
 o:kd
 d:kd
 t:kd
 r1:Nat
 r2:Nat
 lf:Option ay:=none
 ll:Option ay:=none
 Y:Nat->Prop:=λ _=>False
class RF(c:WC):Prop where
 no:c.lf=none
class RL(c:WC):Prop where
 no:c.ll=none
class RO(c:WC):Prop where
 no:∀b,¬c.Y b
structure WV where
 fv:ay
 pv:ay
 ov:ay
 v1:ay
 v2:ay
 kN:ay
 sy:OA
 sf:OA
structure cF where
 F:Wd
 P:Wd
 O:Wd
 fN:Bool
 eR:Bool
 cnt:Nat
 t0:Nat
 t1:Nat
 t2:Nat
 t3:Nat
 t4:Nat
 t5:Nat
 stage:Nat
 pst:Nat
 b1:Wd
 b2:Wd
 nsym:Nat
 last:Wd
 m1:Wd->Option Nat
 m2:Wd->Option Nat
 li:List (Wd×Nat)
 ls:Wd
 lref:Nat
 lcref:Nat
 dig:Wd
 sym:Option (List Wd)
 ir:Wd
def gm(c:WC)(s:cF):List ay:=
 [an (some c.f),an (if s.fN then some c.p else none),an (if s.eR then some c.o else none),ah aj (s.cnt:Int),ah aj (s.t0:Int),ah aj (s.t1:Int),ah aj (s.t2:Int),ah aj (s.t3:Int),ah aj (s.t4:Int),ah aj (s.t5:Int),ah aG (s.stage:Int),ah aj (s.pst:Int)]
def gO(c:WC)(g:WV)(s:cF):List ay:=
 [ah af (s.nsym:Int),an g.sy,an g.sf,aC (bs s.last), .map (some c.r1),g.kN, .map (some c.r2),aC (bs s.ls),ah aj (s.lref:Int),ah aj (s.lcref:Int),cG 420 (an (some c.d)),ah af 0, .func (.func 147) #[] #[]]
def TG(w:ak)(tag:Nat->Nat)(v:ay)(k:Nat):Prop:=∀x,aN v=some x->x<w.heap.size/\tag x=k
def sR(x:(OA×Nat×Nat)×Nat):List ay:=[aa x.1.1 x.1.2.1 x.1.2.2,ah aj (x.2:Int)]
structure IC(w:ak)(tag:Nat->Nat)(v:ay)(li:List (Wd×Nat)):Prop where
 ex:∃h:List ((OA×Nat×Nat)×Nat),h.length=li.length/\cP sR 2 w v h/\∀i (q:i<h.length) (r:i<li.length),h[i].2=(li[i]).2/\dK w (aa h[i].1.1 h[i].1.2.1 h[i].1.2.2) [(li[i]).1]/\TG w tag (aa h[i].1.1 h[i].1.2.1 h[i].1.2.2) 15
 tg:TG w tag v 14
def qO(w:ak)(tag:Nat->Nat)(g:WV)(s:cF):Prop:=
 match s.sym with
 |none=>True
 |some S=>∃y b n cc ov,g.sy=some y/\(∃z,g.sf=some z)/\Ob w y [cW (aa (some ⟨b,0,none⟩) n cc),ah af 2,ah af 5,ov,ah af (S.length:Int)]/\pM w (aa (some ⟨b,0,none⟩) n cc) ov S 5 s.ir/\
   tag y.block=16/\y.block<w.heap.size/\TG w tag ov 16/\b<w.heap.size/\tag b=5
def YS(c:WC)(tag:Nat->Nat)(w0 w:ak):Prop:=(∀b,c.Y b->(tag b=8\/tag b=9)/\b<w0.heap.size)/\Fr (λ b _=>¬c.Y b) w0 w
structure WI(c:WC)(tag:Nat->Nat)(g:WV)(w0:ak)(Z:Nat->Prop)(w:ak)(W:kd)(s:cF):Prop where
 eL:∀b,Z b->b<w0.heap.size
 kp:Fr (λ b _=>¬Z b) w0 w
 own:∀b,tag b≠0->¬Z b
 top:∀b,w.heap.size<=b->tag b=0
 sp:W.spot=none
 tW:tag W.block=1
 A:Ob w W (gm c s)
 B1:dA w (W.add 12) g.v1 s.b1
 dS:TG w tag g.v1 2
 B2:dA w (W.add 23) g.v2 s.b2
 eT:TG w tag g.v2 3
 C:Ob w (W.add 34) (gO c g s)
 F:Fw w c.f g.fv s.F
 tF:tag c.f.block=4
 fg:TG w tag g.fv 5
 P:Fw w c.p g.pv s.P
 tP:tag c.p.block=6
 fV:TG w tag g.pv 7
 O:Fw w c.o g.ov s.O
 tO:tag c.o.block=8
 fh:TG w tag g.ov 9
 D:fL w c.d c.t s.dig
 tD:tag c.d.block=10
 tT:tag c.t.block=11
 M1:dY dM dZ w c.r1 s.m1
 f_:tag c.r1=12
 M2:dY dM mo w c.r2 s.m2
 fO:tag c.r2=13
 L:IC w tag g.kN s.li
 S:qO w tag g s
 fW:s.ir.length<=s.F.length
 gz:∀v,c.lf=some v->g.fv=v
 gP:∀v,c.ll=some v->g.kN=v
 ys:YS c tag w0 w
def C1(c:WC)(w0:ak)(Z:Nat->Prop)(w:ak)(W:kd)(s:cF):Prop:=∃tag g,WI c tag g w0 Z w W s
def fP(tag:Nat->Nat)(W:kd)(T:Nat->Prop)(lo hi lim:Nat)(S:Nat->Nat->Prop):Prop:=
 ∀b o,S b o->(b=W.block/\W.off+lo<=o/\o<W.off+hi)\/(T (tag b)/\(tag b=5->lim<=o))
theorem TG.step{w w':ak}{tag tag':Nat->Nat}{v:ay}{k:Nat}(h:TG w tag v k)(r:w.heap.size<=w'.heap.size)(u:∀b,b<w.heap.size->tag' b=tag b):TG w' tag' v k:=
 λ x q=>⟨dR (h x q).1 r,by rw[u x (h x q).1];exact(h x q).2⟩
section
variable{c:WC}{tag tag':Nat->Nat}{g:WV}{w0:ak}{Z:Nat->Prop}{w w':ak}{W:kd}{s:cF}{S:Nat->Nat->Prop}{T:Nat->Prop}{lo hi lim:Nat}
theorem fP.off(u:fP tag W T lo hi lim S)(tW:tag W.block=1){x k:Nat}(q:tag x=k)(r:k≠1)(y:¬T k)(o:Nat):¬S x o:=by
 intro h;rcases u x o h with h|h
 ·rw[h.1,tW] at q;exact r q.symm
 ·rw[q] at h;exact y h.1
theorem fP.cell(u:fP tag W T lo hi lim S)(tW:tag W.block=1)(x:¬T 1)(o:Nat)(h:o<W.off+lo\/W.off+hi<=o):¬S W.block o:=by
 intro r;rcases u _ o r with q|q
 ·omega
 ·rw[tW] at q;exact x q.1
theorem WI.pA(h:WI c tag g w0 Z w W s)(u:Fr S w w')(q:fP tag W T lo hi lim S)(r:¬T 1)(hd:12<=lo\/hi<=lo):Ob w' W (gm c s):=
 h.A.fr u (λ o x y=>by
  rcases hd with hd|hd
  ·exact q.cell h.tW r o (by have:(gm c s).length=12:=rfl;omega)
  ·exact q.cell h.tW r o (by omega))
theorem WI.pC(h:WI c tag g w0 Z w W s)(x:Fr S w w')(r:fP tag W T lo hi lim S)(u:¬T 1)(hd:hi<=34\/hi<=lo):Ob w' (W.add 34) (gO c g s):=
 h.C.fr x (λ o q y=>by
  rw[fJ] at q;rw[cT];exact r.cell h.tW u o (by omega))
theorem qP{e:kd}{v:ay}{l:Wd}(h:dA w e v l)(y:Fr S w w')(E:∀o,e.off<=o->o<e.off+11->¬S e.block o)(G:∀x,aN v=some x->∀o,¬S x o):dA w' e v l:=by
 obtain⟨I,⟨cs,H,u,hi⟩,J,q,r⟩:=h;exact⟨I,⟨cs,H.fr y (λ o a b=>E o a (by simp[u] at b;omega)),u,hi⟩,J.fr y G,q,r⟩
theorem WI.nk(h:WI c tag g w0 Z w W s)(G:Fr S w w')(r:fP tag W T lo hi lim S)(E:¬T 1)(q:¬T 2)(hd:hi<=12\/23<=lo\/hi<=lo):dA w' (W.add 12) g.v1 s.b1:=
 qP h.B1 G (λ o u y=>by rw[fJ] at u y;rw[cT];exact r.cell h.tW E o (by omega)) (λ x H o=>r.off h.tW (h.dS x H).2 (by decide) q o)
theorem WI.nq(h:WI c tag g w0 Z w W s)(G:Fr S w w')(r:fP tag W T lo hi lim S)(E:¬T 1)(q:¬T 3)(hd:hi<=23\/34<=lo\/hi<=lo):dA w' (W.add 23) g.v2 s.b2:=
 qP h.B2 G (λ o u y=>by rw[fJ] at u y;rw[cT];exact r.cell h.tW E o (by omega)) (λ x H o=>r.off h.tW (h.eT x H).2 (by decide) q o)
theorem WI.pF(h:WI c tag g w0 Z w W s)(y:Fr S w w')(q:fP tag W T lo hi lim S)(r:¬T 4)(u:¬T 5):Fw w' c.f g.fv s.F:=
 h.F.fr y (λ o _ _=>q.off h.tW h.tF (by decide) r o) (λ x E o=>q.off h.tW (h.fg x E).2 (by decide) u o)
theorem WI.pP(h:WI c tag g w0 Z w W s)(y:Fr S w w')(q:fP tag W T lo hi lim S)(r:¬T 6)(u:¬T 7):Fw w' c.p g.pv s.P:=
 h.P.fr y (λ o _ _=>q.off h.tW h.tP (by decide) r o) (λ x E o=>q.off h.tW (h.fV x E).2 (by decide) u o)
theorem WI.pO(h:WI c tag g w0 Z w W s)(y:Fr S w w')(q:fP tag W T lo hi lim S)(r:¬T 8)(u:¬T 9):Fw w' c.o g.ov s.O:=
 h.O.fr y (λ o _ _=>q.off h.tW h.tO (by decide) r o) (λ x E o=>q.off h.tW (h.fh x E).2 (by decide) u o)
theorem WI.pD(h:WI c tag g w0 Z w W s)(x:Fr S w w')(q:fP tag W T lo hi lim S)(r:¬T 10)(u:¬T 11):fL w' c.d c.t s.dig:=
 h.D.fr x (λ o=>q.off h.tW h.tD (by decide) r o) (q.off h.tW h.tT (by decide) u _)
theorem WI.kY(h:WI c tag g w0 Z w W s)(u:Fr S w w')(r:fP tag W T lo hi lim S)(q:¬T 12):dY dM dZ w' c.r1 s.m1:=
 h.M1.fr u 0 (r.off h.tW h.f_ (by decide) q 0)
theorem WI.kZ(h:WI c tag g w0 Z w W s)(u:Fr S w w')(r:fP tag W T lo hi lim S)(q:¬T 13):dY dM mo w' c.r2 s.m2:=
 h.M2.fr u 0 (r.off h.tW h.fO (by decide) q 0)
theorem WI.pL(h:WI c tag g w0 Z w W s)(q:Fr S w w')(E:fP tag W T lo hi lim S)(J:¬T 14)(K:¬T 15)(G:∀b,b<w.heap.size->tag' b=tag b):IC w' tag' g.kN s.li:=by
 obtain⟨u,N,Q,R⟩:=h.L.ex;refine⟨⟨u,N,Own.fr Q q (λ x r o=>E.off h.tW (h.L.tg x r).2 (by decide) J o),λ i a b=> ?_⟩,h.L.tg.step q.size G⟩;obtain⟨H,I,y⟩:=R i a b;exact⟨H,aX.away I q (λ x r o=>E.off h.tW (y x r).2 (by decide) K o),y.step q.size G⟩
theorem k_{g':WV}{s':cF}(h:qO w tag g s)(X:g'.sy=g.sy/\g'.sf=g.sf)(hs:s'.sym=s.sym/\s'.ir=s.ir)(tW:tag W.block=1)(q:Fr S w w')(G:fP tag W T lo hi lim S)(U:¬T 16)(h2:T 5->s.ir.length<=lim)(J:∀b,b<w.heap.size->tag' b=tag b):qO w' tag' g' s':=by
 unfold qO at h⊢;rw[hs.1,hs.2];split at h
 ·trivial
 ·rename_i S' tG;obtain⟨y,b,n,cc,ov,e1,e2,e3,u,K,N,Q,R,E⟩:=h;refine⟨y,b,n,cc,ov,X.1.trans e1,by rw[X.2];exact e2,e3.fr q (λ o _ _=>G.off tW K (by decide) U o),⟨?_,u.len,u.sym, ?_⟩,by rw[J _ N];exact K,dR N q.size,Q.step q.size J,dR R q.size,by rw[J _ R];exact E⟩
  ·refine aX.fr u.eD q (λ a l' c' e o sG H I=> ?_);cases e;rcases G b o I with r|r
   ·rw[r.1,tW] at E;cases E
   ·rw[E] at r;have:=h2 r.1;have:=r.2 rfl;simp at H;omega
  ·exact aX.away u.gF q (λ x hx o=>G.off tW (Q x hx).2 (by decide) U o)
end
def iT(tag:Nat->Nat)(w w':ak)(k:Nat):Nat->Nat:=λ b=>if b<w.heap.size then tag b else if b<w'.heap.size then k else 0
theorem pN{tag:Nat->Nat}{w w':ak}{k:Nat}:∀b,b<w.heap.size->iT tag w w' k b=tag b:=λ b h=>by simp[iT,h]
theorem afh{tag:Nat->Nat}{w w':ak}{k b:Nat}(h:w.heap.size<=b)(q:b<w'.heap.size):iT tag w w' k b=k:=by simp[iT,Nat.not_lt.2 h,q]
theorem TG.new{w w':ak}{tag:Nat->Nat}{v v':ay}{k:Nat}(h:TG w tag v k)(H:w.heap.size<=w'.heap.size)(E:∀x,aN v'=some x->x<w'.heap.size)(r:aN v'=aN v\/∃x,aN v'=some x/\w.heap.size<=x):TG w' (iT tag w w' k) v' k:=by
 intro x q;refine⟨E x q, ?_⟩;rcases r with r|⟨y,G,u⟩
 ·have:=h x (r▸q);rw[pN x this.1];exact this.2
 ·rw[G] at q;cases q;exact afh u (E _ G)
theorem yY{tag:Nat->Nat}{w w':ak}{k:Nat}(q:w.heap.size<=w'.heap.size):∀b,w'.heap.size<=b->iT tag w w' k b=0:=by
 intro b h;unfold iT;rw[if_neg (by omega),if_neg (by omega)]
theorem WI.kt{c:WC}{tag:Nat->Nat}{g:WV}{w0:ak}{Z:Nat->Prop}{w:ak}{W:kd}{s:cF}(h:WI c tag g w0 Z w W s):W.block<w.heap.size:=h.A.lt (by simp[gm])
section
variable{c:WC}{tag tag':Nat->Nat}{g:WV}{w0:ak}{Z:Nat->Prop}{w w':ak}{W:kd}{s:cF}{S:Nat->Nat->Prop}{T:Nat->Prop}{lo hi lim:Nat}
theorem WI.ku(h:WI c tag g w0 Z w W s)(x:Fr S w w')(u:fP tag W T lo hi lim S)(r:¬T 0):Fr (λ b _=>¬Z b) w0 w':=
 h.kp.step x (λ b o y _=>by
  apply h.own;rcases u b o y with q|q
  ·rw[q.1,h.tW];decide
  ·intro e;rw[e] at q;exact r q.1)
theorem WI.E1(h:WI c tag g w0 Z w W s)(I:Fr S w w')(G:fP tag W T lo hi lim S)(K:∀b,b<w.heap.size->tag' b=tag b)(y:¬T 8)(E:¬T 9):YS c tag' w0 w':=by
 have x:∀b,c.Y b->b<w.heap.size:=λ b u=>dR (h.ys.1 b u).2 h.kp.size
 refine⟨λ b u=>by rw[K b (x b u)];exact h.ys.1 b u,h.ys.2.step I (λ b o J _ H=> ?_)⟩;have q:=(h.ys.1 b H).1;rcases G b o J with r|r
 ·rw[r.1,h.tW] at q;rcases q with q|q<;>cases q
 ·rcases q with q|q
  ·rw[q] at r;exact y r.1
  ·rw[q] at r;exact E r.1
theorem WI.aH(h:WI c tag g w0 Z w W s)(r:aS w w'):WI c tag g w0 Z w' W s:=by
 have u:fP tag W (λ k=>False) 0 0 (0) (λ _ _=>False):=by
  intro b o h;exact h.elim
 have q:∀b,b<w.heap.size->tag b=tag b:=λ _ _=>rfl
 have y:=r.size;exact⟨h.eL,h.ku r u (λ x=>x),h.own,λ b E=>h.top b (eX y E),h.sp,by rw[q _ h.kt];exact h.tW,h.pA r u (λ x=>x) (.inr (by omega)),h.nk r u (λ x=>x) (λ x=>x) (.inl (by omega)),h.dS.step y q,h.nq r u (λ x=>x) (λ x=>x) (.inl (by omega)),h.eT.step y q,h.pC r u (λ x=>x) (.inl (by omega)),h.pF r u (λ x=>x) (λ x=>x),by rw[q _ h.F.lt];exact h.tF,h.fg.step y q,h.pP r u (λ x=>x) (λ x=>x),by rw[q _ h.P.lt];exact h.tP,h.fV.step y q,h.pO r u (λ x=>x) (λ x=>x),by rw[q _ h.O.lt];exact h.tO,h.fh.step y q,h.pD r u (λ x=>x) (λ x=>x),by rw[q _ (h.D.1.lt (by simp))];exact h.tD,by rw[q _ (iH h.D.2.1)];exact h.tT,h.kY r u (λ x=>x),by rw[q _ h.M1.fT];exact h.f_,h.kZ r u (λ x=>x),by rw[q _ h.M2.fT];exact h.fO,h.pL r u (λ x=>x) (λ x=>x) q,k_ h.S ⟨rfl,rfl⟩ ⟨rfl,rfl⟩ h.tW r u (λ x=>x) (λ x=>x.elim) q,h.fW,h.gz,h.gP,h.E1 r u q (by decide) (by decide)⟩
theorem WI.sS{v':ay}{l' J:Wd}(h:WI c tag g w0 Z w W s)(H:dA w' (W.add 12) v' l')(hd:fL w' c.d c.t J)(r:Fr (λ b o=>pn (W.add 12) g.v1 b o\/b=c.d.block) w w')(Q:aN v'=aN g.v1\/∃x,aN v'=some x/\w.heap.size<=x):WI c (iT tag w w' 2) {g with v1:=v'} w0 Z w' W {s with b1:=l',dig:=J}:=by
 have u:fP tag W (λ k=>k=2\/k=10) 12 23 (0) (λ b o=>pn (W.add 12) g.v1 b o\/b=c.d.block):=by
  rintro b o((⟨y,K,N⟩|y)|y)
  ·rw[cT] at y;rw[fJ] at K N;exact .inl ⟨y,by omega,by omega⟩
  ·exact .inr ⟨.inl (h.dS b y).2,λ _=>dO _⟩
  ·exact .inr ⟨.inr (by rw[y];exact h.tD),λ _=>dO _⟩
 have q:∀b,b<w.heap.size->(iT tag w w' 2) b=tag b:=pN (tag:=tag) (w:=w) (w':=w') (k:=2);have E:=r.size;exact⟨h.eL,h.ku r u (by decide),λ b G I=>by
   rw[q b (dR (h.eL b I) h.kp.size)] at G;exact h.own b G I,yY E,h.sp,by rw[q _ h.kt];exact h.tW,h.pA r u (by decide) (.inl (by omega)),H,h.dS.new E (λ x R=>H.2.2.1.lt R) Q,h.nq r u (by decide) (by decide) (.inl (by omega)),h.eT.step E q,h.pC r u (by decide) (.inl (by omega)),h.pF r u (by decide) (by decide),by rw[q _ h.F.lt];exact h.tF,h.fg.step E q,h.pP r u (by decide) (by decide),by rw[q _ h.P.lt];exact h.tP,h.fV.step E q,h.pO r u (by decide) (by decide),by rw[q _ h.O.lt];exact h.tO,h.fh.step E q,hd,by rw[q _ (h.D.1.lt (by simp))];exact h.tD,by rw[q _ (iH h.D.2.1)];exact h.tT,h.kY r u (by decide),by rw[q _ h.M1.fT];exact h.f_,h.kZ r u (by decide),by rw[q _ h.M2.fT];exact h.fO,h.pL r u (by decide) (by decide) q,k_ h.S ⟨rfl,rfl⟩ ⟨rfl,rfl⟩ h.tW r u (by decide) (λ x=>by rcases x with x|x<;>cases x) q,h.fW,h.gz,h.gP,h.E1 r u q (by decide) (by decide)⟩
theorem WI.yZ{v':ay}{l' J:Wd}(h:WI c tag g w0 Z w W s)(H:dA w' (W.add 23) v' l')(hd:fL w' c.d c.t J)(r:Fr (λ b o=>pn (W.add 23) g.v2 b o\/b=c.d.block) w w')(Q:aN v'=aN g.v2\/∃x,aN v'=some x/\w.heap.size<=x):WI c (iT tag w w' 3) {g with v2:=v'} w0 Z w' W {s with b2:=l',dig:=J}:=by
 have u:fP tag W (λ k=>k=3\/k=10) 23 34 (0) (λ b o=>pn (W.add 23) g.v2 b o\/b=c.d.block):=by
  rintro b o((⟨y,K,N⟩|y)|y)
  ·rw[cT] at y;rw[fJ] at K N;exact .inl ⟨y,by omega,by omega⟩
  ·exact .inr ⟨.inl (h.eT b y).2,λ _=>dO _⟩
  ·exact .inr ⟨.inr (by rw[y];exact h.tD),λ _=>dO _⟩
 have q:∀b,b<w.heap.size->(iT tag w w' 3) b=tag b:=pN (tag:=tag) (w:=w) (w':=w') (k:=3);have E:=r.size;exact⟨h.eL,h.ku r u (by decide),λ b G I=>by
   rw[q b (dR (h.eL b I) h.kp.size)] at G;exact h.own b G I,yY E,h.sp,by rw[q _ h.kt];exact h.tW,h.pA r u (by decide) (.inl (by omega)),h.nk r u (by decide) (by decide) (.inr (.inl (by omega))),h.dS.step E q,H,h.eT.new E (λ x R=>H.2.2.1.lt R) Q,h.pC r u (by decide) (.inl (by omega)),h.pF r u (by decide) (by decide),by rw[q _ h.F.lt];exact h.tF,h.fg.step E q,h.pP r u (by decide) (by decide),by rw[q _ h.P.lt];exact h.tP,h.fV.step E q,h.pO r u (by decide) (by decide),by rw[q _ h.O.lt];exact h.tO,h.fh.step E q,hd,by rw[q _ (h.D.1.lt (by simp))];exact h.tD,by rw[q _ (iH h.D.2.1)];exact h.tT,h.kY r u (by decide),by rw[q _ h.M1.fT];exact h.f_,h.kZ r u (by decide),by rw[q _ h.M2.fT];exact h.fO,h.pL r u (by decide) (by decide) q,k_ h.S ⟨rfl,rfl⟩ ⟨rfl,rfl⟩ h.tW r u (by decide) (λ x=>by rcases x with x|x<;>cases x) q,h.fW,h.gz,h.gP,h.E1 r u q (by decide) (by decide)⟩
theorem WI.dig{G:Wd}(h:WI c tag g w0 Z w W s)(hd:fL w' c.d c.t G)(r:Fa c.d 1 w w'):WI c tag g w0 Z w' W {s with dig:=G}:=by
 have u:fP tag W (λ k=>k=10) 0 0 (0) (λ b o=>b=c.d.block/\c.d.off<=o/\o<c.d.off+1):=by
  rintro b o⟨H,_⟩;exact .inr ⟨by rw[H];exact h.tD,λ _=>dO _⟩
 have q:∀b,b<w.heap.size->tag b=tag b:=λ _ _=>rfl
 have y:=r.size;exact⟨h.eL,h.ku r u (by decide),h.own,λ b E=>h.top b (eX y E),h.sp,by rw[q _ h.kt];exact h.tW,h.pA r u (by decide) (.inr (by omega)),h.nk r u (by decide) (by decide) (.inl (by omega)),h.dS.step y q,h.nq r u (by decide) (by decide) (.inl (by omega)),h.eT.step y q,h.pC r u (by decide) (.inl (by omega)),h.pF r u (by decide) (by decide),by rw[q _ h.F.lt];exact h.tF,h.fg.step y q,h.pP r u (by decide) (by decide),by rw[q _ h.P.lt];exact h.tP,h.fV.step y q,h.pO r u (by decide) (by decide),by rw[q _ h.O.lt];exact h.tO,h.fh.step y q,hd,by rw[q _ (h.D.1.lt (by simp))];exact h.tD,by rw[q _ (iH h.D.2.1)];exact h.tT,h.kY r u (by decide),by rw[q _ h.M1.fT];exact h.f_,h.kZ r u (by decide),by rw[q _ h.M2.fT];exact h.fO,h.pL r u (by decide) (by decide) q,k_ h.S ⟨rfl,rfl⟩ ⟨rfl,rfl⟩ h.tW r u (by decide) (λ x=>by cases x) q,h.fW,h.gz,h.gP,h.E1 r u q (by decide) (by decide)⟩
theorem WI.file [RF c]{v':ay}{l':Wd}(h:WI c tag g w0 Z w W s)(J:Fw w' c.f v' l')(r:Fr (mn c.f g.fv s.F.length) w w')(R:aN v'=aN g.fv\/∃x,aN v'=some x/\w.heap.size<=x)(I:s.F.length<=l'.length):WI c (iT tag w w' 5) {g with fv:=v'} w0 Z w' W {s with F:=l'}:=by
 have u:fP tag W (λ k=>k=4\/k=5) 0 0 (s.F.length) (mn c.f g.fv s.F.length):=by
  rintro b o(⟨G,_⟩|⟨G,Q⟩)
  ·have e:tag b=4:=by rw[G];exact h.tF
   exact .inr ⟨.inl e,λ H=>by rw[e] at H;cases H⟩
  ·have e:=(h.fg b G).2;exact .inr ⟨.inr e,λ H=>Q⟩
 have q:∀b,b<w.heap.size->(iT tag w w' 5) b=tag b:=pN (tag:=tag) (w:=w) (w':=w') (k:=5);have y:=r.size;exact⟨h.eL,h.ku r u (by decide),λ b E N=>by
   rw[q b (dR (h.eL b N) h.kp.size)] at E;exact h.own b E N,yY y,h.sp,by rw[q _ h.kt];exact h.tW,h.pA r u (by decide) (.inr (by omega)),h.nk r u (by decide) (by decide) (.inl (by omega)),h.dS.step y q,h.nq r u (by decide) (by decide) (.inl (by omega)),h.eT.step y q,h.pC r u (by decide) (.inl (by omega)),J,by rw[q _ h.F.lt];exact h.tF,h.fg.new y (λ x U=>J.aN x U) R,h.pP r u (by decide) (by decide),by rw[q _ h.P.lt];exact h.tP,h.fV.step y q,h.pO r u (by decide) (by decide),by rw[q _ h.O.lt];exact h.tO,h.fh.step y q,h.pD r u (by decide) (by decide),by rw[q _ (h.D.1.lt (by simp))];exact h.tD,by rw[q _ (iH h.D.2.1)];exact h.tT,h.kY r u (by decide),by rw[q _ h.M1.fT];exact h.f_,h.kZ r u (by decide),by rw[q _ h.M2.fT];exact h.fO,h.pL r u (by decide) (by decide) q,k_ h.S ⟨rfl,rfl⟩ ⟨rfl,rfl⟩ h.tW r u (by decide) (λ _=>h.fW) q,eX h.fW I,λ v K=>(by rw[RF.no] at K;cases K),h.gP,h.E1 r u q (by decide) (by decide)⟩
theorem WI.post{v':ay}{l':Wd}(h:WI c tag g w0 Z w W s)(I:Fw w' c.p v' l')(r:Fr (mn c.p g.pv s.P.length) w w')(K:aN v'=aN g.pv\/∃x,aN v'=some x/\w.heap.size<=x):WI c (iT tag w w' 7) {g with pv:=v'} w0 Z w' W {s with P:=l'}:=by
 have u:fP tag W (λ k=>k=6\/k=7) 0 0 (0) (mn c.p g.pv s.P.length):=by
  rintro b o(⟨H,_⟩|⟨H,Q⟩)
  ·have e:tag b=6:=by rw[H];exact h.tP
   exact .inr ⟨.inl e,λ E=>by rw[e] at E;cases E⟩
  ·have e:=(h.fV b H).2;exact .inr ⟨.inr e,λ E=>by rw[e] at E;cases E⟩
 have q:∀b,b<w.heap.size->(iT tag w w' 7) b=tag b:=pN (tag:=tag) (w:=w) (w':=w') (k:=7);have y:=r.size;exact⟨h.eL,h.ku r u (by decide),λ b G J=>by
   rw[q b (dR (h.eL b J) h.kp.size)] at G;exact h.own b G J,yY y,h.sp,by rw[q _ h.kt];exact h.tW,h.pA r u (by decide) (.inr (by omega)),h.nk r u (by decide) (by decide) (.inl (by omega)),h.dS.step y q,h.nq r u (by decide) (by decide) (.inl (by omega)),h.eT.step y q,h.pC r u (by decide) (.inl (by omega)),h.pF r u (by decide) (by decide),by rw[q _ h.F.lt];exact h.tF,h.fg.step y q,I,by rw[q _ h.P.lt];exact h.tP,h.fV.new y (λ x N=>I.aN x N) K,h.pO r u (by decide) (by decide),by rw[q _ h.O.lt];exact h.tO,h.fh.step y q,h.pD r u (by decide) (by decide),by rw[q _ (h.D.1.lt (by simp))];exact h.tD,by rw[q _ (iH h.D.2.1)];exact h.tT,h.kY r u (by decide),by rw[q _ h.M1.fT];exact h.f_,h.kZ r u (by decide),by rw[q _ h.M2.fT];exact h.fO,h.pL r u (by decide) (by decide) q,k_ h.S ⟨rfl,rfl⟩ ⟨rfl,rfl⟩ h.tW r u (by decide) (λ x=>by rcases x with x|x<;>cases x) q,h.fW,h.gz,h.gP,h.E1 r u q (by decide) (by decide)⟩
theorem WI.gF [RO c]{v':ay}{l':Wd}(h:WI c tag g w0 Z w W s)(J:Fw w' c.o v' l')(r:Fr (mn c.o g.ov s.O.length) w w')(I:aN v'=aN g.ov\/∃x,aN v'=some x/\w.heap.size<=x):WI c (iT tag w w' 9) {g with ov:=v'} w0 Z w' W {s with O:=l'}:=by
 have u:fP tag W (λ k=>k=8\/k=9) 0 0 (0) (mn c.o g.ov s.O.length):=by
  rintro b o(⟨H,_⟩|⟨H,Q⟩)
  ·have e:tag b=8:=by rw[H];exact h.tO
   exact .inr ⟨.inl e,λ E=>by rw[e] at E;cases E⟩
  ·have e:=(h.fh b H).2;exact .inr ⟨.inr e,λ E=>by rw[e] at E;cases E⟩
 have q:∀b,b<w.heap.size->(iT tag w w' 9) b=tag b:=pN (tag:=tag) (w:=w) (w':=w') (k:=9);have y:=r.size;exact⟨h.eL,h.ku r u (by decide),λ b G K=>by
   rw[q b (dR (h.eL b K) h.kp.size)] at G;exact h.own b G K,yY y,h.sp,by rw[q _ h.kt];exact h.tW,h.pA r u (by decide) (.inr (by omega)),h.nk r u (by decide) (by decide) (.inl (by omega)),h.dS.step y q,h.nq r u (by decide) (by decide) (.inl (by omega)),h.eT.step y q,h.pC r u (by decide) (.inl (by omega)),h.pF r u (by decide) (by decide),by rw[q _ h.F.lt];exact h.tF,h.fg.step y q,h.pP r u (by decide) (by decide),by rw[q _ h.P.lt];exact h.tP,h.fV.step y q,J,by rw[q _ h.O.lt];exact h.tO,h.fh.new y (λ x N=>J.aN x N) I,h.pD r u (by decide) (by decide),by rw[q _ (h.D.1.lt (by simp))];exact h.tD,by rw[q _ (iH h.D.2.1)];exact h.tT,h.kY r u (by decide),by rw[q _ h.M1.fT];exact h.f_,h.kZ r u (by decide),by rw[q _ h.M2.fT];exact h.fO,h.pL r u (by decide) (by decide) q,k_ h.S ⟨rfl,rfl⟩ ⟨rfl,rfl⟩ h.tW r u (by decide) (λ x=>by rcases x with x|x<;>cases x) q,h.fW,h.gz,h.gP,λ b I=>(RO.no b I).elim,h.ys.2.step r (λ b o _ _=>RO.no b)⟩
theorem WI.fileAt{l':Wd}{k n:Nat}(h:WI c tag g w0 Z w W s)(I:Fw w' c.f g.fv l')(r:Fr (yV g.fv k n) w w')(J:s.ir.length<=k)(E:l'.length=s.F.length):WI c tag g w0 Z w' W {s with F:=l'}:=by
 have u:fP tag W (λ k=>k=5) 0 0 (k) (yV g.fv k n):=by
  rintro b o⟨G,H,K⟩;exact .inr ⟨(h.fg b G).2,λ _=>H⟩
 have q:∀b,b<w.heap.size->tag b=tag b:=λ _ _=>rfl
 have x:=r.size;exact⟨h.eL,h.ku r u (by decide),h.own,λ b y=>h.top b (eX x y),h.sp,by rw[q _ h.kt];exact h.tW,h.pA r u (by decide) (.inr (by omega)),h.nk r u (by decide) (by decide) (.inl (by omega)),h.dS.step x q,h.nq r u (by decide) (by decide) (.inl (by omega)),h.eT.step x q,h.pC r u (by decide) (.inl (by omega)),I,by rw[q _ h.F.lt];exact h.tF,h.fg.step x q,h.pP r u (by decide) (by decide),by rw[q _ h.P.lt];exact h.tP,h.fV.step x q,h.pO r u (by decide) (by decide),by rw[q _ h.O.lt];exact h.tO,h.fh.step x q,h.pD r u (by decide) (by decide),by rw[q _ (h.D.1.lt (by simp))];exact h.tD,by rw[q _ (iH h.D.2.1)];exact h.tT,h.kY r u (by decide),by rw[q _ h.M1.fT];exact h.f_,h.kZ r u (by decide),by rw[q _ h.M2.fT];exact h.fO,h.pL r u (by decide) (by decide) q,k_ h.S ⟨rfl,rfl⟩ ⟨rfl,rfl⟩ h.tW r u (by decide) (λ _=>J) q,by rw[E];exact h.fW,h.gz,h.gP,h.E1 r u q (by decide) (by decide)⟩
theorem WI.lR{hP hO:Bool}{cnt t0 t1 t2 t3 t4 t5 stage pst k:Nat}{v:ay}(h:WI c tag g w0 Z w W s)(K:k<12)
  (J:gm c {s with fN:=hP,eR:=hO,cnt:=cnt,t0:=t0,t1:=t1,t2:=t2,t3:=t3,t4:=t4,t5:=t5,stage:=stage,pst:=pst}=(gm c s).set k v):
  WI c tag g w0 Z (w.setCell (W.add k) v) W {s with fN:=hP,eR:=hO,cnt:=cnt,t0:=t0,t1:=t1,t2:=t2,t3:=t3,t4:=t4,t5:=t5,stage:=stage,pst:=pst}:=by
 have r:=Fr.set w (W.add k) v;have q:fP tag W (λ _=>False) 0 12 0 (λ b o=>b=(W.add k).block/\o=(W.add k).off):=by
  rintro b o⟨u,E⟩;rw[cT] at u;rw[fJ] at E;exact .inl ⟨u,by omega,by omega⟩
 have y:∀b,b<w.heap.size->tag b=tag b:=λ _ _=>rfl
 have G:=r.size;exact⟨h.eL,h.ku r q (λ x=>x),h.own,λ b I=>h.top b (eX G I),h.sp,h.tW,by rw[J];exact h.A.set k (by simpa[gm] using K) v,qP h.B1 r (λ o u E=>by rw[fJ] at u E;rw[cT];exact q.cell h.tW (λ x=>x) o (by omega)) (λ x H o=>q.off h.tW (h.dS x H).2 (by decide) (λ x=>x) o),h.dS.step G y,qP h.B2 r (λ o u E=>by rw[fJ] at u E;rw[cT];exact q.cell h.tW (λ x=>x) o (by omega)) (λ x H o=>q.off h.tW (h.eT x H).2 (by decide) (λ x=>x) o),h.eT.step G y,h.C.fr r (λ o u E=>by rw[fJ] at u;rw[cT];exact q.cell h.tW (λ x=>x) o (by omega)),h.pF r q (λ x=>x) (λ x=>x),h.tF,h.fg.step G y,h.pP r q (λ x=>x) (λ x=>x),h.tP,h.fV.step G y,h.pO r q (λ x=>x) (λ x=>x),h.tO,h.fh.step G y,h.pD r q (λ x=>x) (λ x=>x),h.tD,h.tT,h.kY r q (λ x=>x),h.f_,h.kZ r q (λ x=>x),h.fO,h.pL r q (λ x=>x) (λ x=>x) y,k_ h.S ⟨rfl,rfl⟩ ⟨rfl,rfl⟩ h.tW r q (λ x=>x) (λ x=>x.elim) y,h.fW,h.gz,h.gP,h.E1 r q y (by decide) (by decide)⟩
theorem WI.kO{nsym lref lcref k:Nat}{last ls:Wd}{v:ay}(h:WI c tag g w0 Z w W s)(K:k<13)
  (J:gO c g {s with nsym:=nsym,last:=last,ls:=ls,lref:=lref,lcref:=lcref}=(gO c g s).set k v):
  WI c tag g w0 Z (w.setCell (W.add (34+k)) v) W {s with nsym:=nsym,last:=last,ls:=ls,lref:=lref,lcref:=lcref}:=by
 have r:=Fr.set w (W.add (34+k)) v;have q:fP tag W (λ _=>False) 34 47 0 (λ b o=>b=(W.add (34+k)).block/\o=(W.add (34+k)).off):=by
  rintro b o⟨y,E⟩;rw[cT] at y;rw[fJ] at E;exact .inl ⟨y,by omega,by omega⟩
 have u:∀b,b<w.heap.size->tag b=tag b:=λ _ _=>rfl
 have G:=r.size;exact⟨h.eL,h.ku r q (λ x=>x),h.own,λ b I=>h.top b (eX G I),h.sp,h.tW,h.A.fr r (λ o y E=>q.cell h.tW (λ x=>x) o (by have:(gm c s).length=12:=rfl;omega)),qP h.B1 r (λ o y E=>by rw[fJ] at y E;rw[cT];exact q.cell h.tW (λ x=>x) o (by omega)) (λ x H o=>q.off h.tW (h.dS x H).2 (by decide) (λ x=>x) o),h.dS.step G u,qP h.B2 r (λ o y E=>by rw[fJ] at y E;rw[cT];exact q.cell h.tW (λ x=>x) o (by omega)) (λ x H o=>q.off h.tW (h.eT x H).2 (by decide) (λ x=>x) o),h.eT.step G u,by rw[J,<-add_add _ _ _ h.sp];exact h.C.set k (by simpa[gO] using K) v,h.pF r q (λ x=>x) (λ x=>x),h.tF,h.fg.step G u,h.pP r q (λ x=>x) (λ x=>x),h.tP,h.fV.step G u,h.pO r q (λ x=>x) (λ x=>x),h.tO,h.fh.step G u,h.pD r q (λ x=>x) (λ x=>x),h.tD,h.tT,h.kY r q (λ x=>x),h.f_,h.kZ r q (λ x=>x),h.fO,h.pL r q (λ x=>x) (λ x=>x) u,k_ h.S ⟨rfl,rfl⟩ ⟨rfl,rfl⟩ h.tW r q (λ x=>x) (λ x=>x.elim) u,h.fW,h.gz,h.gP,h.E1 r q u (by decide) (by decide)⟩
theorem WI.St{sy sf:OA}{k:Nat}{v:ay}(h:WI c tag g w0 Z w W s)(N:s.sym=none)(K:k<13)
  (J:gO c {g with sy:=sy,sf:=sf} s=(gO c g s).set k v):WI c tag {g with sy:=sy,sf:=sf} w0 Z (w.setCell (W.add (34+k)) v) W s:=by
 have r:=Fr.set w (W.add (34+k)) v;have q:fP tag W (λ _=>False) 34 47 0 (λ b o=>b=(W.add (34+k)).block/\o=(W.add (34+k)).off):=by
  rintro b o⟨u,E⟩;rw[cT] at u;rw[fJ] at E;exact .inl ⟨u,by omega,by omega⟩
 have y:∀b,b<w.heap.size->tag b=tag b:=λ _ _=>rfl
 have G:=r.size;exact⟨h.eL,h.ku r q (λ x=>x),h.own,λ b I=>h.top b (eX G I),h.sp,h.tW,h.A.fr r (λ o u E=>q.cell h.tW (λ x=>x) o (by have:(gm c s).length=12:=rfl;omega)),qP h.B1 r (λ o u E=>by rw[fJ] at u E;rw[cT];exact q.cell h.tW (λ x=>x) o (by omega)) (λ x H o=>q.off h.tW (h.dS x H).2 (by decide) (λ x=>x) o),h.dS.step G y,qP h.B2 r (λ o u E=>by rw[fJ] at u E;rw[cT];exact q.cell h.tW (λ x=>x) o (by omega)) (λ x H o=>q.off h.tW (h.eT x H).2 (by decide) (λ x=>x) o),h.eT.step G y,by rw[J,<-add_add _ _ _ h.sp];exact h.C.set k (by simpa[gO] using K) v,h.pF r q (λ x=>x) (λ x=>x),h.tF,h.fg.step G y,h.pP r q (λ x=>x) (λ x=>x),h.tP,h.fV.step G y,h.pO r q (λ x=>x) (λ x=>x),h.tO,h.fh.step G y,h.pD r q (λ x=>x) (λ x=>x),h.tD,h.tT,h.kY r q (λ x=>x),h.f_,h.kZ r q (λ x=>x),h.fO,h.pL r q (λ x=>x) (λ x=>x) y,by unfold qO;rw[N];trivial,h.fW,h.gz,h.gP,h.E1 r q y (by decide) (by decide)⟩
theorem WI.afi{S':List Wd}{B:Wd}(h:WI c tag g w0 Z w W s)(Q:∀b,b<w.heap.size->tag b≠0->tag' b=tag b)(ho:∀b,tag' b≠0->¬Z b)(y:∀b,w.heap.size<=b->tag' b=0)(X:qO w tag' g {s with sym:=some S',ir:=B})(U:B.length<=s.F.length):
  WI c tag' g w0 Z w W {s with sym:=some S',ir:=B}:=by
 have q:∀x k,x<w.heap.size->tag x=k->k≠0->tag' x=k:=λ x k E N G=>by rw[Q x E (by rw[N];exact G)];exact N
 have r:∀{v k},TG w tag v k->k≠0->TG w tag' v k:=λ h G x E=>⟨(h x E).1,q x _ (h x E).1 (h x E).2 G⟩
 obtain⟨J,hl,H,I⟩:=h.L.ex;exact⟨h.eL,h.kp,ho,y,h.sp,q _ _ h.kt h.tW (by decide),h.A,h.B1,r h.dS (by decide),h.B2,r h.eT (by decide),h.C,h.F,q _ _ h.F.lt h.tF (by decide),r h.fg (by decide),h.P,q _ _ h.P.lt h.tP (by decide),r h.fV (by decide),h.O,q _ _ h.O.lt h.tO (by decide),r h.fh (by decide),h.D,q _ _ (h.D.1.lt (by simp)) h.tD (by decide),q _ _ (iH h.D.2.1) h.tT (by decide),h.M1,q _ _ h.M1.fT h.f_ (by decide),h.M2,q _ _ h.M2.fT h.fO (by decide),⟨⟨J,hl,H,λ i a b=>⟨(I i a b).1,(I i a b).2.1,r (I i a b).2.2 (by decide)⟩⟩,r h.L.tg (by decide)⟩,X,U,h.gz,h.gP,λ b hb=>by
   obtain⟨u,K⟩:=h.ys.1 b hb;have R:=dR K h.kp.size;rw[Q b R (by rcases u with u|u<;>rw[u]<;>decide)];exact⟨u,K⟩,h.ys.2⟩
theorem WI.uR{m:Wd->Option Nat}(h:WI c tag g w0 Z w W s)(G:dY dM dZ w' c.r1 m)(q:Fr (λ b _=>b=c.r1) w w'):WI c tag g w0 Z w' W {s with m1:=m}:=by
 have r:fP tag W (λ k=>k=12) 0 0 0 (λ b _=>b=c.r1):=by
  rintro b o rfl;exact .inr ⟨h.f_,λ _=>dO _⟩
 have u:∀b,b<w.heap.size->tag b=tag b:=λ _ _=>rfl
 have y:=q.size;exact⟨h.eL,h.ku q r (by decide),h.own,λ b E=>h.top b (eX y E),h.sp,h.tW,h.pA q r (by decide) (.inr (by omega)),h.nk q r (by decide) (by decide) (.inl (by omega)),h.dS.step y u,h.nq q r (by decide) (by decide) (.inl (by omega)),h.eT.step y u,h.pC q r (by decide) (.inl (by omega)),h.pF q r (by decide) (by decide),h.tF,h.fg.step y u,h.pP q r (by decide) (by decide),h.tP,h.fV.step y u,h.pO q r (by decide) (by decide),h.tO,h.fh.step y u,h.pD q r (by decide) (by decide),h.tD,h.tT,G,h.f_,h.kZ q r (by decide),h.fO,h.pL q r (by decide) (by decide) u,k_ h.S ⟨rfl,rfl⟩ ⟨rfl,rfl⟩ h.tW q r (by decide) (λ x=>by cases x) u,h.fW,h.gz,h.gP,h.E1 q r u (by decide) (by decide)⟩
theorem WI.sT{m:Wd->Option Nat}(h:WI c tag g w0 Z w W s)(G:dY dM mo w' c.r2 m)(q:Fr (λ b _=>b=c.r2) w w'):WI c tag g w0 Z w' W {s with m2:=m}:=by
 have r:fP tag W (λ k=>k=13) 0 0 0 (λ b _=>b=c.r2):=by
  rintro b o rfl;exact .inr ⟨h.fO,λ _=>dO _⟩
 have u:∀b,b<w.heap.size->tag b=tag b:=λ _ _=>rfl
 have y:=q.size;exact⟨h.eL,h.ku q r (by decide),h.own,λ b E=>h.top b (eX y E),h.sp,h.tW,h.pA q r (by decide) (.inr (by omega)),h.nk q r (by decide) (by decide) (.inl (by omega)),h.dS.step y u,h.nq q r (by decide) (by decide) (.inl (by omega)),h.eT.step y u,h.pC q r (by decide) (.inl (by omega)),h.pF q r (by decide) (by decide),h.tF,h.fg.step y u,h.pP q r (by decide) (by decide),h.tP,h.fV.step y u,h.pO q r (by decide) (by decide),h.tO,h.fh.step y u,h.pD q r (by decide) (by decide),h.tD,h.tT,h.kY q r (by decide),h.f_,G,h.fO,h.pL q r (by decide) (by decide) u,k_ h.S ⟨rfl,rfl⟩ ⟨rfl,rfl⟩ h.tW q r (by decide) (λ x=>by cases x) u,h.fW,h.gz,h.gP,h.E1 q r u (by decide) (by decide)⟩
theorem WI.lis [RL c]{v':ay}{H:List (Wd×Nat)}(h:WI c tag g w0 Z w W s)(r:Fr (λ b o=>aN g.kN=some b\/(b=W.block/\o=W.off+39)) w w')(N:Ob w' (W.add 34) (gO c {g with kN:=v'} s))
  (q:∀b,b<w.heap.size->tag' b=tag b)(G:∀b,w'.heap.size<=b->tag' b=0)(Q:IC w' tag' v' H):WI c tag' {g with kN:=v'} w0 Z w' W {s with li:=H}:=by
 have u:fP tag W (λ k=>k=14) 39 40 0 (λ b o=>aN g.kN=some b\/(b=W.block/\o=W.off+39)):=by
  rintro b o(I|⟨I,R⟩)
  ·exact .inr ⟨(h.L.tg b I).2,λ _=>dO _⟩
  ·exact .inl ⟨I,by omega,by omega⟩
 have E:=r.size;exact⟨h.eL,h.ku r u (by decide),λ b y K=>by
   rw[q b (dR (h.eL b K) h.kp.size)] at y;exact h.own b y K,G,h.sp,by rw[q _ h.kt];exact h.tW,h.pA r u (by decide) (.inl (by omega)),h.nk r u (by decide) (by decide) (.inr (.inl (by omega))),h.dS.step E q,h.nq r u (by decide) (by decide) (.inr (.inl (by omega))),h.eT.step E q,N,h.pF r u (by decide) (by decide),by rw[q _ h.F.lt];exact h.tF,h.fg.step E q,h.pP r u (by decide) (by decide),by rw[q _ h.P.lt];exact h.tP,h.fV.step E q,h.pO r u (by decide) (by decide),by rw[q _ h.O.lt];exact h.tO,h.fh.step E q,h.pD r u (by decide) (by decide),by rw[q _ (h.D.1.lt (by simp))];exact h.tD,by rw[q _ (iH h.D.2.1)];exact h.tT,h.kY r u (by decide),by rw[q _ h.M1.fT];exact h.f_,h.kZ r u (by decide),by rw[q _ h.M2.fT];exact h.fO,Q,k_ h.S ⟨rfl,rfl⟩ ⟨rfl,rfl⟩ h.tW r u (by decide) (λ x=>by cases x) q,h.fW,h.gz,λ v J=>(by rw[RL.no] at J;cases J),h.E1 r u q (by decide) (by decide)⟩
end
section
variable{c:WC}{tag:Nat->Nat}{g:WV}{w0:ak}{Z:Nat->Prop}{w w':ak}{W:kd}{s:cF}
theorem WI.dP(h:WI c tag g w0 Z w W s)(k:Nat){v:ay}(q:(gm c s)[k]? =some v):at_ w (W.add k) v:=h.A.at k q
theorem WI.eI(h:WI c tag g w0 Z w W s)(k:Nat){v:ay}(q:(gO c g s)[k]? =some v):at_ w (W.add (34+k)) v:=by
 rw[<-add_add _ _ _ h.sp];exact h.C.at k q
theorem WI.eM(h:WI c tag g w0 Z w W s):at_ w W (an (some c.f)):=by simpa using h.dP 0 rfl
theorem C1.aH(h:C1 c w0 Z w W s)(q:aS w w'):C1 c w0 Z w' W s:=by
 obtain⟨tag,g,h⟩:=h;exact⟨_,_,h.aH q⟩
theorem C1.drew(h:C1 c w0 Z w W s):C1 c w0 Z w.drew W s:=h.aH (cu w)
theorem C1.dP(h:C1 c w0 Z w W s)(k:Nat){v:ay}(q:(gm c s)[k]? =some v):at_ w (W.add k) v:=by
 obtain⟨tag,g,h⟩:=h;exact h.dP k q
def Su(c:WC)(s:cF):Nat->Option ay
 |0=>some (ah af (s.nsym:Int))
 |3=>some (aC (bs s.last))
 |4=>some (.map (some c.r1))
 |6=>some (.map (some c.r2))
 |7=>some (aC (bs s.ls))
 |8=>some (ah aj (s.lref:Int))
 |9=>some (ah aj (s.lcref:Int))
 |10=>some (cG 420 (an (some c.d)))
 |12=>some (.func (.func 147) #[] #[])
 |_=>none
theorem C1.eI(h:C1 c w0 Z w W s)(k:Nat){v:ay}(q:Su c s k=some v):at_ w (W.add (34+k)) v:=by
 obtain⟨tag,g,h⟩:=h;apply h.eI k;unfold Su at q;split at q<;>first|exact q|cases q
theorem C1.eM(h:C1 c w0 Z w W s):at_ w W (an (some c.f)):=by simpa using h.dP 0 rfl
theorem C1.pos(h:C1 c w0 Z w W s):at_ w (c.f.add 1) (ah aj (s.F.length:Int)):=by
 obtain⟨tag,g,h⟩:=h;exact h.F.pos
theorem C1.afk(h:C1 c w0 Z w W s):at_ w (c.p.add 1) (ah aj (s.P.length:Int)):=by
 obtain⟨tag,g,h⟩:=h;exact h.P.pos
theorem C1.dQ{N:fz}{args:Array ay}{l':Wd}(h:C1 c w0 Z w W s)(E:∀v,dA w (W.add 12) v s.b1->au ag N args w λ _ w'=>fe w (W.add 12) v w' l'):
  au ag N args w λ _ w'=>C1 c w0 Z w' W {s with b1:=l'}:=by
 obtain⟨tag,g,h⟩:=h;refine aF (E g.v1 h.B1) ?_;rintro _ w' ⟨v',y,u,x⟩;have hd:fL w' c.d c.t s.dig:=h.D.fr u (λ o r=>by
  rcases r with⟨q,_⟩|q
  ·rw[cT] at q;have:=h.tD;rw[q,h.tW] at this;cases this
  ·have:=(h.dS _ q).2;rw[h.tD] at this;cases this) (λ r=>by
  rcases r with⟨q,_⟩|q
  ·rw[cT] at q;have:=h.tT;rw[q,h.tW] at this;cases this
  ·have:=(h.dS _ q).2;rw[h.tT] at this;cases this)
 exact⟨_,_,h.sS y hd (u.mono (λ b o _ r=> .inl r)) x⟩
theorem C1.afl{N:fz}{args:Array ay}{l':Wd}{Q:ay->Prop}(h:C1 c w0 Z w W s)(G:∀tag g,WI c tag g w0 Z w W s->au ag N args w λ r w'=>Q r/\fe w (W.add 12) g.v1 w' l'):
  au ag N args w λ r w'=>Q r/\C1 c w0 Z w' W {s with b1:=l'}:=by
 obtain⟨tag,g,h⟩:=h;refine aF (G tag g h) ?_;rintro r w' ⟨H,v',E,x,y⟩;have hd:fL w' c.d c.t s.dig:=h.D.fr x (λ o u=>by
  rcases u with⟨q,_⟩|q
  ·rw[cT] at q;have:=h.tD;rw[q,h.tW] at this;cases this
  ·have:=(h.dS _ q).2;rw[h.tD] at this;cases this) (λ u=>by
  rcases u with⟨q,_⟩|q
  ·rw[cT] at q;have:=h.tT;rw[q,h.tW] at this;cases this
  ·have:=(h.dS _ q).2;rw[h.tT] at this;cases this)
 exact⟨H,_,_,h.sS E hd (x.mono (λ b o _ u=> .inl u)) y⟩
theorem C1.call2{N:fz}{args:Array ay}{l':Wd}(h:C1 c w0 Z w W s)(E:∀v,dA w (W.add 23) v s.b2->au ag N args w λ _ w'=>fe w (W.add 23) v w' l'):
  au ag N args w λ _ w'=>C1 c w0 Z w' W {s with b2:=l'}:=by
 obtain⟨tag,g,h⟩:=h;refine aF (E g.v2 h.B2) ?_;rintro _ w' ⟨v',y,u,x⟩;have hd:fL w' c.d c.t s.dig:=h.D.fr u (λ o r=>by
  rcases r with⟨q,_⟩|q
  ·rw[cT] at q;have:=h.tD;rw[q,h.tW] at this;cases this
  ·have:=(h.eT _ q).2;rw[h.tD] at this;cases this) (λ r=>by
  rcases r with⟨q,_⟩|q
  ·rw[cT] at q;have:=h.tT;rw[q,h.tW] at this;cases this
  ·have:=(h.eT _ q).2;rw[h.tT] at this;cases this)
 exact⟨_,_,h.yZ y hd (u.mono (λ b o _ r=> .inl r)) x⟩
theorem WI.afm(h:WI c tag g w0 Z w W s):Cv (W.add 12) g.v1 c.d c.t:=by
 refine⟨λ e=> ?_,λ e=> ?_,λ e=> ?_,λ e=> ?_⟩
 ·rw[cT] at e;have:=h.tD;rw[<-e,h.tW] at this;cases this
 ·have:=(h.dS _ e).2;rw[h.tD] at this;cases this
 ·rw[cT] at e;have:=h.tT;rw[<-e,h.tW] at this;cases this
 ·have:=(h.dS _ e).2;rw[h.tT] at this;cases this
theorem WI.afn(h:WI c tag g w0 Z w W s):Cv (W.add 23) g.v2 c.d c.t:=by
 refine⟨λ e=> ?_,λ e=> ?_,λ e=> ?_,λ e=> ?_⟩
 ·rw[cT] at e;have:=h.tD;rw[<-e,h.tW] at this;cases this
 ·have:=(h.eT _ e).2;rw[h.tD] at this;cases this
 ·rw[cT] at e;have:=h.tT;rw[<-e,h.tW] at this;cases this
 ·have:=(h.eT _ e).2;rw[h.tT] at this;cases this
abbrev qQ(c:WC):ay:=cG 420 (an (some c.d))
theorem C1.Sv(h:C1 c w0 Z w W s)(x:s.b1.length+4<=1073741824):au ag 135 #[an (some (W.add 12)),qQ c] w λ _ w'=>C1 c w0 Z w' W {s with b1:=s.b1++be 4 (cI 0 s.b1),dig:=s.b1}:=by
 obtain⟨tag,g,h⟩:=h;refine aF (Re h.B1 h.D h.afm x) ?_;rintro _ w' ⟨v',r,hd,u,q⟩;exact⟨_,_,h.sS r hd u q⟩
theorem C1.ID(h:C1 c w0 Z w W s)(x:s.b2.length+4<=1073741824):au ag 135 #[an (some (W.add 23)),qQ c] w λ _ w'=>C1 c w0 Z w' W {s with b2:=s.b2++be 4 (cI 0 s.b2),dig:=s.b2}:=by
 obtain⟨tag,g,h⟩:=h;refine aF (Re h.B2 h.D h.afn x) ?_;rintro _ w' ⟨v',r,hd,u,q⟩;exact⟨_,_,h.yZ r hd u q⟩
theorem C1.pQ(h:C1 c w0 Z w W s):au ag 190 #[an (some (W.add 12)),qQ c] w λ _ w'=>C1 c w0 Z w' W {s with dig:=s.dig++s.b1}:=by
 obtain⟨tag,g,h⟩:=h;refine aF (HU h.B1 h.D) ?_;rintro _ w' ⟨hd,q⟩;exact⟨_,_,h.dig hd q⟩
theorem C1.Sw(h:C1 c w0 Z w W s)(r:s.b1.length+4<=1073741824):au ag 191 #[an (some (W.add 12)),qQ c] w λ _ w'=>C1 c w0 Z w' W {s with b1:=s.b1++be 4 (cI 0 s.dig)}:=by
 refine C1.dQ h (λ v q=> ?_);obtain⟨tag,g,h⟩:=h;exact Rc q h.D r
theorem C1.reset{K:ak->Prop}(h:C1 c w0 Z w W s)(r:∀w',C1 c w0 Z w' W {s with dig:=[]}->K w'):cS ag (qQ c) "Reset" #[] w λ _ w'=>K w':=by
 obtain⟨tag,g,h⟩:=h;refine Rb (aF (Ra h.D) ?_);rintro _ w' ⟨hd,q⟩;exact r w' ⟨_,_,h.dig hd q⟩
theorem WI.CY [RF c]{x:ay}{G:List Wd}(h:WI c tag g w0 Z w W s)(I:uP w x G (λ b=>tag b≠4/\tag b≠5))(R:s.F.length+G.flatten.length<=1073741824)(U:G.length<=1000):
  au ag 127 #[an (some W),x] w λ r w'=>r=aA/\∃v',WI c (iT tag w w' 5) {g with fv:=v'} w0 Z w' W {s with F:=s.F++G.flatten}/\Fr (mn c.f g.fv s.F.length) w w':=by
 obtain⟨J,H,u,y,N⟩:=I;obtain⟨p,cc,rfl,X⟩:=aX.ex u;apply aaM;unfold v127;refine⟨_,h.eM, ?_⟩;have q:∀b,tag b≠4/\tag b≠5->b≠c.f.block/\aN g.fv≠some b:=λ b E=>⟨λ e=>E.1 (by rw[e];exact h.tF),λ e=>E.2 (h.fg b e).2⟩
 refine aF (CX h.F ⟨J,H,u,λ b E=>q b (y b E),λ i a b=>⟨(N i a b).1,λ x I=>q x ((N i a b).2 x I)⟩⟩ R U) ?_;rintro _ w' ⟨rfl,v',Q,K,E⟩;exact⟨_,rfl,rfl,v',h.file Q K E (by simp),K⟩
theorem C1.ld [RF c]{K:ay->ak->Prop}(h:C1 c w0 Z w W s)(J:s.F.length+s.b1.length<=1073741824)(I:∀w',C1 c w0 Z w' W {s with F:=s.F++s.b1}->K aA w'):
  au ag 86 #[an (some (W.add 12))] w λ r X=>az (ax r) λ U R Q=>aP ag (bw 299 1 #[(0,aa U R Q)]) X λ r w3=>az (ax r) λ y u q=>
   au ag 127 #[an (some W),aa y u q] w3 λ r w4=>aM (ax r) λ v=>K v w4:=by
 obtain⟨tag,g,h⟩:=h;refine aF (om h.B1) ?_;rintro _ w ⟨rfl,rfl⟩;obtain⟨p,cc,H,hc⟩:=h.B1.2.2.1.ex;refine⟨p,_,cc,H, ?_⟩;refine⟨_,_,yW _ _ _ w,_,_,_,rfl, ?_⟩;have G:=bA w (.cells ⟨[aa p s.b1.length cc]⟩ 26);have E:cz w (aa p s.b1.length cc) s.b1:=by rw[<-H];exact h.B1.2.2.1.cV
 refine aF ((h.aH G).CY (yX E ⟨by rw[h.top _ (bB _)];decide,by rw[h.top _ (bB _)];decide⟩ (λ x N=>by rw[(h.dS x (by rw[H];exact N)).2];exact⟨by decide,by decide⟩)) (by simpa using J) (by simp)) ?_;rintro _ w' ⟨rfl,v',h',_⟩;have e:[s.b1].flatten=s.b1:=by simp
 rw[e] at h';exact⟨_,rfl,I w' ⟨_,_,h'⟩⟩
theorem C1.writeNew [RF c]{K:ay->ak->Prop}{p:OA}{l cc:Nat}{m:Wd}(h:C1 c w0 Z w W s)(H:cz w' (aa p l cc) m)(q:aS w w')(u:∀x,aN (aa p l cc)=some x->w.heap.size<=x)(N:s.F.length+m.length<=1073741824)(J:∀w',C1 c w0 Z w' W {s with F:=s.F++m}->K aA w'):
  aP ag (bw 299 1 #[(0,aa p l cc)]) w' λ r R=>az (ax r) λ G E y=>
   au ag 127 #[an (some W),aa G E y] R λ r U=>aM (ax r) λ v=>K v U:=by
 obtain⟨tag,g,h⟩:=h;refine⟨_,_,yW _ _ _ w',_,_,_,rfl, ?_⟩;have I:=q.trans (bA w' (.cells ⟨[aa p l cc]⟩ 26));refine aF ((h.aH I).CY (yX H ⟨by rw[h.top _ q.size];decide,by rw[h.top _ q.size];decide⟩ (λ x Q=>by rw[h.top _ (u x Q)];exact⟨by decide,by decide⟩)) (by simpa using N) (by simp)) ?_;rintro _ w' ⟨rfl,v',h',_⟩;have e:[m].flatten=m:=by simp
 rw[e] at h';exact⟨_,rfl,J w' ⟨_,_,h'⟩⟩
theorem afo(m:Wd)(n:Nat)(w:ak):(dq 26 26 (aa (some ⟨w.heap.size,0,none⟩) n n)).run ag (w.alloc (.cells ⟨cD m⟩ 5))= .ok (aa (some ⟨w.heap.size,0,none⟩) n n) (w.alloc (.cells ⟨cD m⟩ 5 (m.length,m.length+1))):=by
 have:=Lib.run_convert_bytes_const (P:=ag) w 26 5 ⟨cD m⟩ n n (by kernel_rfl) (by kernel_rfl);rw[this];simp[js]
theorem afp(w:ak)(m:Wd)(f:Nat×Nat):cz (w.alloc (.cells ⟨cD m⟩ 5 f)) (aa (some ⟨w.heap.size,0,none⟩) m.length m.length) m:=by
 refine⟨_,_,rfl,bB _,by rw[kF (z:=1) (λ _=>rfl)],λ j u q=>⟨_,rfl,rfl, ?_⟩⟩;have h:(⟨w.heap.size,0,none⟩:kd).add j=⟨w.heap.size,j,none⟩:=by
  unfold aw;split<;>simp_all
 rw[h];apply RW;simpa[cD] using q
theorem C1.y5 [RF c]{K:ay->ak->Prop}{n:Nat}{J:Array (Nat×ay)}{m:Wd}(h:C1 c w0 Z w W s)(N:(bw 26 n J).run ag w= .ok (aa (some ⟨w.heap.size,0,none⟩) n n) (w.alloc (.cells ⟨cD m⟩ 5)))(U:m.length=n)
  (R:s.F.length+m.length<=1073741824)(Q:∀w',C1 c w0 Z w' W {s with F:=s.F++m}->K aA w'):
  aP ag (bw 26 n J) w λ r w2=>az (ax r) λ H G E=>aP ag (dq 26 26 (aa H G E)) w2 λ r I=>az (ax r) λ H G E=>aP ag (bw 299 1 #[(0,aa H G E)]) I λ r I=>az (ax r) λ y u q=>
   au ag 127 #[an (some W),aa y u q] I λ r w4=>aM (ax r) λ v=>K v w4:=by
 subst U;refine⟨_,_,N,_,_,_,rfl,_,_,afo m _ w,_,_,_,rfl, ?_⟩;refine h.writeNew (afp w m _) (bA _ _) ?_ R Q;intro x X;cases X;exact bB _
theorem IE(w:ak):(bw 26 4 #[(0,ah aG 97),(1,ah aG 108),(2,ah aG 101),(3,ah aG 110)]).run ag w= .ok (aa (some ⟨w.heap.size,0,none⟩) 4 4) (w.alloc (.cells ⟨cD [97,108,101,110]⟩ 5)):=by kernel_rfl
end
section
variable{c:WC}[RF c]{tag:Nat->Nat}{g:WV}{w0:ak}{Z:Nat->Prop}{w w':ak}{W:kd}{s:cF}
theorem Sx{n:Nat}(h:C1 c w0 Z w W s)(q:0<n)(G:n<=1000)(E:s.F.length<=1073700000):
  au ag 130 #[an (some W),ah af (n:Int)] w λ r w'=>r=aA/\C1 c w0 Z w' W {s with F:=s.F++pad n s.F.length}:=by
 obtain⟨tag,g,h⟩:=h;apply aaN;unfold v130;refine⟨_,h.eM, ?_⟩;refine aF (IB h.F q G E) ?_;rintro _ w' ⟨rfl,v',x,y,u⟩;exact⟨_,rfl,rfl,_,_,h.file x y u (by simp)⟩
theorem WI.IF{x:ay}{m:Wd}{k:Nat}(h:WI c tag g w0 Z w W s)(y:cz w x m)(u:k+m.length<=s.F.length)(E:0<m.length)(H:s.ir.length<=k):
  au ag 231 #[an (some W),x,ah aj (k:Int)] w λ r w'=>r=aA/\WI c tag g w0 Z w' W {s with F:=over s.F k m}/\Fr (yV g.fv k m.length) w w':=by
 obtain⟨p,cc,rfl,_⟩:=aX.ex y;apply aaV;unfold O0;refine⟨_,h.eM, ?_⟩;refine aF (aff h.F y u E) ?_;rintro _ w' ⟨rfl,G,q⟩;exact⟨_,rfl,rfl,h.fileAt G q H (Iz u),q⟩
theorem C1.Sy{K:ay->ak->Prop}{k:Nat}(h:C1 c w0 Z w W s)(G:k+s.b1.length<=s.F.length)(x:0<s.b1.length)(E:s.ir.length<=k)(y:∀w',C1 c w0 Z w' W {s with F:=over s.F k s.b1}->K aA w'):
  au ag 86 #[an (some (W.add 12))] w λ r N=>az (ax r) λ J I H=>au ag 231 #[an (some W),aa J I H,ah aj (k:Int)] N λ r Q=>aM (ax r) λ v=>K v Q:=by
 obtain⟨tag,g,h⟩:=h;refine aF (om h.B1) ?_;rintro _ w ⟨rfl,rfl⟩;obtain⟨p,cc,u,R⟩:=h.B1.2.2.1.ex;refine⟨p,_,cc,u, ?_⟩;have q:cz w (aa p s.b1.length cc) s.b1:=by rw[<-u];exact h.B1.2.2.1.cV
 refine aF (h.IF q G x E) ?_;rintro _ w' ⟨rfl,h',_⟩;exact⟨_,rfl,y w' ⟨_,_,h'⟩⟩
theorem afq(h:C1 c w0 Z w W s)(u:s.F.length<=1073700000):
  au ag 178 #[an (some W)] w λ r w'=>r=aA/\C1 c w0 Z w' W {s with F:=s.F++[97,108,101,110,98,108,101,110]}:=by
 apply aaR;unfold OX;have q:(bw 26 8 #[(0,ah aG 97),(1,ah aG 108),(2,ah aG 101),(3,ah aG 110),(4,ah aG 98),(5,ah aG 108),(6,ah aG 101),(7,ah aG 110)]).run ag w= .ok (aa (some ⟨w.heap.size,0,none⟩) 8 8) (w.alloc (.cells ⟨cD [97,108,101,110,98,108,101,110]⟩ 5)):=by kernel_rfl
 exact h.y5 q rfl (by simp;omega) (λ w' h'=>⟨rfl,h'⟩)
theorem afr(h:C1 c w0 Z w W s)(E:s.F.length<=1073700000):
  au ag 230 #[an (some W)] w λ r w'=>r=aA/\C1 c w0 Z w' W {s with F:=s.F++(be 4 3131758336++[2]),b1:=be 4 3131758336++[2]}:=by
 apply aaU;unfold OZ;refine aF (h.dQ (λ v q=>iZ q)) ?_;intro _ G u;refine aF (u.dQ (λ v q=>yn (n:=3131758336) q (by omega) (by simp))) ?_;intro _ H x;refine aF (x.dQ (λ v q=>k72 (c:=2) q (by simp[cH]))) ?_;intro _ I y;exact y.ld (by simp[cH];omega) (λ w' h'=>⟨rfl,h'⟩)
theorem Sz{k:Nat}{A B:Wd}(h:C1 c w0 Z w W s)(G:s.F=A++([97,108,101,110]++B))(hk:k=A.length)(hl:s.F.length<=1073700000)(hs:s.ir.length<=A.length):
  au ag 241 #[an (some W),ah aj (k:Int)] w λ r w'=>r=aA/\∃b1,C1 c w0 Z w' W {s with F:=A++(be 4 B.length++(B++be 4 (cI 0 s.dig))),b1:=b1}:=by
 subst hk;have H:s.F.length=A.length+4+B.length:=by rw[G];simp;omega
 apply abt;unfold Pe;refine aF (h.dQ (λ v u=>iZ u)) ?_;intro _ w1 y;refine⟨_,y.eM,_,y.pos, ?_⟩;have I:aq aj (aq aj ((s.F.length:Int)-(A.length:Int))-4)=(B.length:Int):=by
  rw[dV (x:=(s.F.length:Int)-(A.length:Int)) (by omega) (by omega),dV (by omega) (by omega)];omega
 dsimp only;rw[I];refine aT (by rw[decide_eq_false_iff_not];omega) ?_;rw[bk (by omega) (by omega)];refine aF (y.dQ (λ v u=>oo u (by omega) (by simp))) ?_;intro _ w2 N;refine N.Sy (k:=A.length) (by simp[cH];omega) (by simp[cH]) hs (λ w3 Q=> ?_);refine⟨_,λ w=>cE _ w,_,rfl,aT rfl ?_⟩;refine aF (Q.dQ (λ v u=>iZ u)) ?_;intro _ w4 R;have q:=R.drew;refine⟨_,q.eI 10 rfl, ?_⟩;refine aF (q.Sw (by simp)) ?_;intro _ w5 U;have K:over s.F A.length ([]++be 4 B.length)=A++(be 4 B.length++B):=by
  rw[G];unfold over;simp[cH]
 have E:C1 c w0 Z w5 W {s with F:=A++(be 4 B.length++B),b1:=be 4 (cI 0 s.dig)}:=by rw[<-K];exact U
 refine E.ld (by show(A++(be 4 B.length++B)).length+(be 4 (cI 0 s.dig)).length<=_;simp[cH];omega) (λ w6 X=> ?_);have J:(A++(be 4 B.length++B))++be 4 (cI 0 s.dig)=A++(be 4 B.length++(B++be 4 (cI 0 s.dig))):=by simp
 refine⟨_,λ w=>cE _ w,_,rfl,aT rfl ⟨rfl,be 4 (cI 0 s.dig), ?_⟩⟩;rw[<-J];exact X
theorem afs(h:C1 c w0 Z w W s)(hl:s.F.length<=1073700000)(h0:s.t0<1073741824)(h1:s.t1<1073741824)(h2:s.t2<1073741824)(h3:s.t3<1073741824)(h4:s.t4<1073741824)(h5:s.t5<1073741824):
  au ag 185 #[an (some W)] w λ r w'=>r=aA/\∃b1 dig,C1 c w0 Z w' W {s with F:=s.F++(eu s.t0 s.t1 s.t2 s.t3 s.t4 s.t5++be 4 (cI 0 (eu s.t0 s.t1 s.t2 s.t3 s.t4 s.t5))),b1:=b1,dig:=dig}:=by
 apply abm;unfold Pb;have y:∀{w:ak} {s':cF} (k:Nat) {v:ay},C1 c w0 Z w W s'->(gm c s')[k+4]? =some v->at_ w ((W.add 4).add k) v:=by
  intro w s' k v h X;have:=h.dP (k+4) X;obtain⟨_,_,h⟩:=h;rw[add_add _ _ _ h.sp,Nat.add_comm 4 k];exact this
 refine aF (h.dQ (λ v q=>iZ q)) ?_;intro _ w1 E;refine⟨_,E.drew.dP 4 rfl, ?_⟩;refine aF (E.drew.dQ (λ v q=>uA (n:=s.t0) q (by omega) (by simp))) ?_;intro _ w2 G;refine⟨_,y 1 G.drew rfl, ?_⟩;refine aF (G.drew.dQ (λ v q=>uA (n:=s.t1) q (by omega) (by simp[cH]))) ?_;intro _ w3 H;refine⟨_,y 2 H.drew rfl, ?_⟩;refine aF (H.drew.dQ (λ v q=>uA (n:=s.t2) q (by omega) (by simp[cH]))) ?_;intro _ w4 I;refine⟨_,y 3 I.drew rfl, ?_⟩;refine aF (I.drew.dQ (λ v q=>uA (n:=s.t3) q (by omega) (by simp[cH]))) ?_;intro _ w5 J;refine⟨_,y 4 J.drew rfl, ?_⟩;refine aF (J.drew.dQ (λ v q=>uA (n:=s.t4) q (by omega) (by simp[cH]))) ?_;intro _ w6 K;refine⟨_,y 5 K.drew rfl, ?_⟩;refine aF (K.drew.dQ (λ v q=>uA (n:=s.t5) q (by omega) (by simp[cH]))) ?_;intro _ w7 Q;have N:[]++be 8 s.t0++be 8 s.t1++be 8 s.t2++be 8 s.t3++be 8 s.t4++be 8 s.t5=eu s.t0 s.t1 s.t2 s.t3 s.t4 s.t5:=by simp[eu]
 have u:(eu s.t0 s.t1 s.t2 s.t3 s.t4 s.t5).length=48:=by simp[eu,cH]
 have x:C1 c w0 Z w7 W {s with b1:=eu s.t0 s.t1 s.t2 s.t3 s.t4 s.t5}:=by rw[<-N];exact Q
 refine⟨_,x.drew.eI 10 rfl, ?_⟩;refine aF (x.drew.Sv (by rw[show({s with b1:=eu s.t0 s.t1 s.t2 s.t3 s.t4 s.t5}:cF).b1=eu s.t0 s.t1 s.t2 s.t3 s.t4 s.t5 from rfl,u];omega)) ?_;intro _ w8 R;exact R.ld (by simp only[aY,cH,u];omega) (λ w9 U=>⟨rfl,_,_,U⟩)
theorem aft{e:kd}{v x:ay}{refs:List Nat}(h:dA w e v [])(hx:Sl (λ n:Nat=>[ah aL (n:Int)]) 1 w x refs)(U:∀y,aN x=some y->y≠e.block/\aN v≠some y)(hr:∀n∈refs,n<4294967296)(hl:refs.length<=100000):
  au ag 147 #[an (some e),x] w λ r w'=>r=aA/\fe w e v w' (fM refs):=by
 obtain⟨p,cc,rfl,hc⟩:=aX.ex hx;apply abv;unfold Pg;refine aF (oo (n:=refs.length) h (by omega) (by simp)) ?_;rintro _ w1 ⟨v1,h1,ym,X⟩;have N:∀k,k<=refs.length->((refs.take k).flatMap (be 4)).length=4*k:=by
  intro k;induction k with
  |zero=>simp
  |succ k ih=>
   intro hk;rw[<-l7 (by omega),jK,aY,ih (by omega)];simp[cH];omega
 refine abu (λ R p' L' C' E G w'=>some e=R/\p=p'/\L'=refs.length/\cc=C'/\E=(refs.length:Int)/\∃k:Nat,G=(k:Int)/\k<=refs.length/\fe w e v w' (be 4 refs.length++(refs.take k).flatMap (be 4))) (λ _ _ _ _ E G _=>(E-G).toNat) ?_ ?_
 ·exact⟨rfl,rfl,rfl,rfl,rfl,0,rfl,by omega,v1,by simpa using h1,ym,X⟩
 ·rintro _ _ _ _ _ _ w2 ⟨rfl,rfl,rfl,rfl,rfl,k,rfl,hk,v2,Q,u,J⟩;unfold GO;refine bn (λ q=> ?_) (λ q=> ?_)
  ·have K:k<refs.length:=by simp at q;omega
   have sD:Sl (λ n:Nat=>[ah aL (n:Int)]) 1 w2 (aa p refs.length cc) refs:=aX.fr hx u (λ a l' c' R o _ _ hS=>by
    have:=U a.block (by rw[R];rfl);rcases hS with⟨H,_⟩|H
    ·exact this.1 H
    ·exact this.2 H)
   refine Sl.ix (z:=1) (λ _=>rfl) (by omega) sD (by omega) (by omega) (λ a hs ha=> ?_);have I:=ha 0 _ rfl;simp only[fH,add_zero] at I;refine⟨_,I, ?_⟩;have hn:=hr (refs[k]) (by simp);refine aT (by rw[decide_eq_false_iff_not];omega) ?_;have jF:=N k (by omega);refine aF (yn Q hn (by rw[aY,cH,jF];omega)) ?_;rintro _ w3 H;rw[show aq af ((k:Int)+1)=((k+1:Nat):Int) by rw[bk (by omega) (by omega)];omega];refine⟨⟨rfl,rfl,rfl,rfl,rfl,k+1,rfl,by omega, ?_⟩,by omega⟩;have:=fe.trans Q u J H;rw[<-l7 K,jK];simpa using this
  ·have K:¬k<refs.length:=by simp at q;omega
   rw[lD (by omega)] at Q;exact⟨rfl,v2,Q,u,J⟩
end
end Go.Proofs
namespace Go.Proofs
open Go Go.V
attribute [local irreducible]cI be
section
variable{c:WC}[RO c]{tag:Nat->Nat}{g:WV}{w0:ak}{Z:Nat->Prop}{w w':ak}{W:kd}{s:cF}
theorem WI.afv{x:ay}{G:List Wd}(h:WI c tag g w0 Z w W s)(I:uP w x G (λ b=>tag b≠8/\tag b≠9))(R:s.O.length+G.flatten.length<=1073741824)(U:G.length<=1000):
  au ag 186 #[an (some c.o),x] w λ r w'=>r=aA/\∃v',WI c (iT tag w w' 9) {g with ov:=v'} w0 Z w' W {s with O:=s.O++G.flatten}:=by
 obtain⟨J,H,E,u,K⟩:=I;have q:∀b,tag b≠8/\tag b≠9->b≠c.o.block/\aN g.ov≠some b:=λ b y=>⟨λ e=>y.1 (by rw[e];exact h.tO),λ e=>y.2 (h.fh b e).2⟩
 refine aF (CX h.O ⟨J,H,E,λ b y=>q b (u b y),λ i a b=>⟨(K i a b).1,λ x I=>q x ((K i a b).2 x I)⟩⟩ R U) ?_;rintro _ w' ⟨rfl,v',N,Q,y⟩;exact⟨rfl,v',h.gF N Q y⟩
theorem WI.afw{x:ay}{G:List Wd}(h:WI c tag g w0 Z w W s)(I:uP w x G (λ b=>tag b≠6/\tag b≠7))(R:s.P.length+G.flatten.length<=1073741824)(U:G.length<=1000):
  au ag 186 #[an (some c.p),x] w λ r w'=>r=aA/\∃v',WI c (iT tag w w' 7) {g with pv:=v'} w0 Z w' W {s with P:=s.P++G.flatten}:=by
 obtain⟨J,H,E,u,K⟩:=I;have q:∀b,tag b≠6/\tag b≠7->b≠c.p.block/\aN g.pv≠some b:=λ b y=>⟨λ e=>y.1 (by rw[e];exact h.tP),λ e=>y.2 (h.fV b e).2⟩
 refine aF (CX h.P ⟨J,H,E,λ b y=>q b (u b y),λ i a b=>⟨(K i a b).1,λ x I=>q x ((K i a b).2 x I)⟩⟩ R U) ?_;rintro _ w' ⟨rfl,v',N,Q,y⟩;exact⟨rfl,v',h.post N Q y⟩
theorem WI.afx(h:WI c tag g w0 Z w W s)(y:s.P.length<=1073700000):
  au ag 189 #[an (some c.p),ah af 4] w λ r w'=>r=aA/\C1 c w0 Z w' W {s with P:=s.P++pad 4 s.P.length}:=by
 refine aF (IB (s:=4) h.P (by omega) (by omega) y) ?_;rintro _ w' ⟨rfl,v',u,x,q⟩;exact⟨rfl,_,_,h.post u x q⟩
theorem afy{e:OA}{p:OA}{l cc:Nat}{K:ay->ak->Prop}(h:au ag 147 #[an e,aa p l cc] w K):eJ ag (.func (.func 147) #[] #[]) #[an e,aa p l cc] w K:=
 ⟨147,_,by kernel_rfl,h⟩
abbrev eU(n:Nat):List ay:=[ah aL (n:Int)]
theorem WI.afz(h:WI c tag g w0 Z w W s){b:Nat}(q:Z b):tag b=0:=by
 by_cases e:tag b=0
 ·exact e
 ·exact absurd q (h.own b e)
theorem CZ{n v:Wd}{x:ay}{refs:List Nat}(h:C1 c w0 Z w W s)(hP:s.fN=true)(hO:s.eR=true)(U:Sl eU 1 w0 x refs)(hZ:∀y,aN x=some y->Z y)(hr:∀n∈refs,n<4294967296)
  (hl:refs.length<=1000)(hn:n.length<=1000)(hv:v.length<=1000)(C0:s.P.length<=1073000000)(y6:s.O.length<=1073000000)(hc:s.cnt<=1000000):
  au ag 236 #[an (some W),aC (bs n),aC (bs v),x] w λ r w'=>r=aA/\∃b1 b2 dig,C1 c w0 Z w' W {s with P:=s.P++(pad 4 s.P.length++dh (fM refs)),O:=s.O++cX (n,v,(s.P++pad 4 s.P.length).length),cnt:=s.cnt+1,b1:=b1,b2:=b2,dig:=dig}:=by
 obtain⟨px,cx,rfl,Sn⟩:=aX.ex U;have y7:(pad 4 s.P.length).length<4:=sM _ (by omega);have sU:(s.P++pad 4 s.P.length).length<=1073000003:=by rw[aY];omega
 have IG:∀k m,m<2^(7*k)->0<k->(bm m).length<=k:=fw;have SA:∀t:Wd,t.length<=1000->(b8 t).length<=1010:=by
  intro t ht;have:=IG 10 t.length (by omega) (by omega);unfold b8;rw[aY];omega
 have SC:=SA n hn;have SD:=SA v hv;have uS:=IG 10 2 (by omega) (by omega);have kJ:=IG 10 (s.P++pad 4 s.P.length).length (by omega) (by omega);apply abn;unfold v236;have hp0:at_ w (W.add 1) (an (some c.p)):=by have:=h.dP 1 rfl;rwa[if_pos hP] at this
 refine⟨_,hp0, ?_⟩;obtain⟨tag,g,h⟩:=h;refine aF (h.afx (by omega)) ?_;rintro _ w1 ⟨rfl,h1⟩;refine⟨_,rfl,_,λ w=>cE _ w,_,rfl,aT rfl ?_⟩;refine aF (h1.dQ (λ v E=>iZ E)) ?_;intro _ w2 h2;dsimp only at h2;refine aF (h2.dQ (λ v E=>oj (n:=2) E (by omega) (by simp))) ?_;intro _ w3 h3;dsimp only at h3;refine aF (h3.dQ (λ v E=>ux (s:=bs n) E (by simp only[oS,fB];omega))) ?_;intro _ w4 h4;dsimp only at h4;refine aF (h4.dQ (λ v E=>ux E (by simp only[oS,aY,fB];omega))) ?_;intro _ w5 h5;dsimp only at h5;have IH:=h5.drew;have yy:at_ w5.drew (W.add 1) (an (some c.p)):=by have:=IH.dP 1 rfl;rwa[if_pos hP] at this
 refine⟨_,yy,_,IH.afk, ?_⟩;refine aF (IH.dQ (λ v E=>mf E (by show(s.P++pad 4 s.P.length).length<_;omega) (by simp only[oS,aY];omega))) ?_;intro _ w6 h6;dsimp only at h6;have e6:[]++bm 2++b8 n++b8 v++bm (s.P++pad 4 s.P.length).length=cX (n,v,(s.P++pad 4 s.P.length).length):=by simp[cX]
 have h6':C1 c w0 Z w6 W {s with P:=s.P++pad 4 s.P.length,b1:=cX (n,v,(s.P++pad 4 s.P.length).length)}:=by rw[<-e6];exact h6
 have lh:(cX (n,v,(s.P++pad 4 s.P.length).length)).length<=3000:=by
  rw[<-e6];simp only[oS,aY];simp only[aY] at kJ;omega
 generalize hTE:cX (n,v,(s.P++pad 4 s.P.length).length)=X at h6' lh;have hp6:at_ w6 (W.add 1) (an (some c.p)):=by have:=h6'.dP 1 rfl;rwa[if_pos hP] at this
 refine⟨by simpa using hp6, ?_⟩;have SE:=h6'.drew;have iJ:at_ w6.drew (W.add 2) (an (some c.o)):=by have:=SE.dP 2 rfl;rwa[if_pos hO] at this
 refine⟨_,iJ, ?_⟩;obtain⟨ao6,g6,q6⟩:=SE;refine aF (om q6.B1) ?_;rintro _ _ ⟨rfl,rfl⟩;obtain⟨p6,II,uU,hc6⟩:=q6.B1.2.2.1.ex;refine⟨p6,_,II,uU,by simpa using iJ, ?_⟩;refine⟨_,_,yW _ _ _ _,_,_,_,rfl, ?_⟩;have N:=bA w6.drew (.cells ⟨[aa p6 X.length II]⟩ 26);have afC:cz w6.drew (aa p6 X.length II) X:=by rw[<-uU];exact q6.B1.2.2.1.cV
 refine⟨by simpa using N.at iJ, ?_⟩;refine aF ((q6.aH N).afv (yX afC ⟨by rw[q6.top _ (bB _)];decide,by rw[q6.top _ (bB _)];decide⟩ (λ x U=>by rw[(q6.dS x (by rw[uU];exact U)).2];exact⟨by decide,by decide⟩)) (by show s.O.length+_<=_;simp;omega) (by simp)) ?_;rintro _ w7 ⟨rfl,v7,q7⟩;dsimp only at q7;have e7:[X].flatten=X:=by simp
 rw[e7] at q7;refine⟨_,rfl,_,λ w=>cE _ w,_,rfl,aT rfl ?_⟩;refine⟨_,q7.dP 3 rfl,⟨trivial,q7.A.can 3 (by simp[gm])⟩, ?_⟩;have IJ:aq aj ((s.cnt:Int)+1)=((s.cnt+1:Nat):Int):=by rw[dV (by omega) (by omega)];omega
 have q8:=q7.lR (hP:=s.fN) (hO:=s.eR) (cnt:=s.cnt+1) (t0:=s.t0) (t1:=s.t1) (t2:=s.t2) (t3:=s.t3) (t4:=s.t4) (t5:=s.t5) (stage:=s.stage) (pst:=s.pst) (k:=3) (v:=ah aj ((s.cnt+1:Nat):Int)) (by omega) rfl;dsimp only;rw[IJ];have h8:C1 c w0 Z (w7.setCell (W.add 3) (ah aj ((s.cnt+1:Nat):Int))) W {s with P:=s.P++pad 4 s.P.length,O:=s.O++X,cnt:=s.cnt+1,b1:=X}:=⟨_,_,q8⟩;generalize (w7.setCell (W.add 3) (ah aj ((s.cnt+1:Nat):Int)))=w8 at h8;refine aF (h8.dQ (λ v E=>iZ E)) ?_;intro _ w9 h9;dsimp only at h9;have uV:=h9.drew;refine⟨_,uV.eI 12 rfl,afy ?_⟩;refine aF (uV.afl (l':=fM refs) (Q:=λ r=>r=aA) (λ ao8 g9 q9=> ?_)) ?_
 ·have hx9:Sl eU 1 w9.drew (aa px refs.length cx) refs:=aX.away U q9.kp (λ y hy _ hz=>hz (hZ y hy));refine aft q9.B1 hx9 (λ y hy=> ?_) hr (by omega);have ht:=q9.afz (hZ y hy);refine⟨λ e=> ?_,λ e=> ?_⟩
  ·rw[cT] at e;rw[e,q9.tW] at ht;cases ht
  ·have:=(q9.dS y e).2;rw[ht] at this;cases this
 rintro _ jg⟨rfl,qR⟩;dsimp only at qR;refine⟨_,rfl,_,λ w=>cE _ w,_,rfl,aT rfl ?_⟩;have afE:(fM refs).length=4+4*refs.length:=by
  unfold fM;rw[aY,cH];have:∀l:List Nat,(l.flatMap (be 4)).length=4*l.length:=by
   intro l;induction l with
   |nil=>rfl
   |cons a l ih=>rw[fG,aY,ih,cH,dH];omega
  rw[this]
 generalize hPB:fM refs=u at qR afE;refine aF (qR.call2 (λ v E=>iZ E)) ?_;intro _ gA H;dsimp only at H;obtain⟨ao_,g11,C7⟩:=H;refine aF (Q8 C7.B1) ?_;rintro _ gA ⟨rfl,rfl⟩;refine⟨_,rfl, ?_⟩;dsimp only;rw[dV (by omega) (by omega)];refine aT (by rw[decide_eq_false_iff_not];omega) ?_;have H:C1 c w0 Z gA W _:=⟨_,_,C7⟩;refine aF (H.call2 (λ v E=>oo (n:=u.length) E (by omega) (by simp))) ?_;intro _ gn qS;dsimp only at qS;have J:=qS.drew;refine⟨_,J.eI 10 rfl, ?_⟩;refine aF (J.Sv (by show u.length+4<=_;omega)) ?_;intro _ I qM;dsimp only at qM;have K:=qM.drew;have G:at_ I.drew (W.add 1) (an (some c.p)):=by have:=K.dP 1 rfl;rwa[if_pos hP] at this
 refine⟨_,G, ?_⟩;obtain⟨ao',g13,q⟩:=K;refine aF (om q.B2) ?_;rintro _ _ ⟨rfl,rfl⟩;obtain⟨pa,ca,IK,hca⟩:=q.B2.2.2.1.ex;refine⟨pa,_,ca,IK,by simpa using G, ?_⟩;refine aF (om q.B1) ?_;rintro _ _ ⟨rfl,rfl⟩;obtain⟨pb,cb,lS,hcb⟩:=q.B1.2.2.1.ex;refine⟨pb,_,cb,lS,by simpa using G, ?_⟩;refine⟨_,_,Sr _ _ _ _ _ _ _,_,_,_,rfl, ?_⟩;have R:=bA I.drew (.cells ⟨[aa pa ([]++be 4 u.length).length ca,aa pb (u++be 4 (cI 0 u)).length cb]⟩ 26);have afG:cz I.drew (aa pa ([]++be 4 u.length).length ca) ([]++be 4 u.length):=by rw[<-IK];exact q.B2.2.2.1.cV
 have IL:cz I.drew (aa pb (u++be 4 (cI 0 u)).length cb) (u++be 4 (cI 0 u)):=by rw[<-lS];exact q.B1.2.2.1.cV
 refine⟨by simpa using R.at G, ?_⟩;refine aF ((q.aH R).afw (Ss afG IL ⟨by rw[q.top _ (bB _)];decide,by rw[q.top _ (bB _)];decide⟩ (λ x U=>by rw[(q.eT x (by rw[IK];exact U)).2];exact⟨by decide,by decide⟩) (λ x U=>by rw[(q.dS x (by rw[lS];exact U)).2];exact⟨by decide,by decide⟩)) (by show(s.P++pad 4 s.P.length).length+_<=_;simp[cH];simp at sU;omega) (by simp)) ?_;rintro _ oz ⟨rfl,FC,nr⟩;dsimp only at nr;have e14:s.P++pad 4 s.P.length++[[]++be 4 u.length,u++be 4 (cI 0 u)].flatten=s.P++(pad 4 s.P.length++dh u):=by simp[dh]
 rw[e14] at nr;refine⟨_,rfl,rfl, ?_⟩;exact⟨_,_,_,_,_,nr⟩
end
section
variable{c:WC}[RL c]{tag:Nat->Nat}{g:WV}{w0:ak}{Z:Nat->Prop}{w w':ak}{W:kd}{s:cF}
theorem afI:gW ag 217 378 sR 2 32 [aa none 0 0,ah aj 0]:=
 ⟨⟨by kernel_rfl,by kernel_rfl,rfl,by decide⟩,λ _=>rfl,λ x u h=>by simp[sR] at h;rcases h with rfl|rfl<;>rfl⟩
theorem afJ(p:OA)(l k n:Nat)(w:ak):(bw 217 1 #[(0,aV #[aa p l k,ah aj (n:Int)])]).run ag w= .ok (aa (some ⟨w.heap.size,0,none⟩) 1 1) (w.alloc (.cells ⟨[aa p l k,ah aj (n:Int)]⟩ 378)):=by kernel_rfl
theorem WI.afK{K:ak->Prop}{name:Wd}{n:Nat}(h:WI c tag g w0 Z w W s)(hn:s.li.length<=100000)
  (hK:∀w',C1 c w0 Z w' W {s with li:=s.li++[(name,n)]}->K w'):
  ∃pl nl cl,g.kN=aa pl nl cl/\
   aP ag (bw 22 1 #[(0,aC (bs name))]) w λ y8 R=>az (ax y8) λ IM IN C9=>aS w R/\
    aP ag (bw 217 1 #[(0,aV #[aa IM IN C9,ah aj (n:Int)])]) R λ IP w4=>az (ax IP) λ y9 IQ IS=>aS w w4/\
     aP ag (cM #[217,217] 217 #[aa pl nl cl,aa y9 IQ IS]) w4 λ C_ X=>az (ax C_) λ sV IT y_=>
      Fr (λ b _=>tag b=14) w X/\wr X (W.add 39) (aa sV IT y_) λ w6=>K w6:=by
 obtain⟨q,iS,sW,hr⟩:=h.L.ex;obtain⟨pl,cl,U,jW⟩:=Own.ex sW;refine⟨pl,q.length,cl,U, ?_⟩;refine⟨_,_,CQ w name,_,_,_,rfl,bA _ _, ?_⟩;have k3:=bA w (.cells ⟨[aC (bs name)]⟩ 9);have N:=CR w name;generalize Ii:w.alloc (.cells ⟨[aC (bs name)]⟩ 9)=R at k3 N;refine⟨_,_,afJ _ _ _ _ _,_,_,_,rfl,k3.trans (bA _ _), ?_⟩;have Q:=bA R (.cells ⟨[aa (some ⟨w.heap.size,0,none⟩) 1 1,ah aj (n:Int)]⟩ 378);have r:Sl sR 2 (R.alloc (.cells ⟨[aa (some ⟨w.heap.size,0,none⟩) 1 1,ah aj (n:Int)]⟩ 378)) (aa (some ⟨R.heap.size,0,none⟩) 1 1) [((some ⟨w.heap.size,0,none⟩,1,1),n)]:=
  aX.new R 2 [aa (some ⟨w.heap.size,0,none⟩) 1 1,ah aj (n:Int)] 378 1 1 rfl (bB _)
 generalize hw4:R.alloc (.cells ⟨[aa (some ⟨w.heap.size,0,none⟩) 1 1,ah aj (n:Int)]⟩ 378)=w4 at Q r;have k4:=k3.trans Q;have afM:cP sR 2 w4 (aa pl q.length cl) q:=by rw[<-U];exact Own.aH sW k4
 refine oi afI afM r (by simp;omega) (by simp;omega) (λ p5 c5 X jR H G=> ?_);have J:∀x,aN (aa pl q.length cl)=some x->x<w.heap.size/\tag x=14:=λ x r=>h.L.tg x (by rw[U];exact r)
 have I:Fr (λ b _=>tag b=14) w X:=(Fr.mono k4 (λ _ _ _ x=>x.elim)).step H (λ b o E _=>(J b E.1).2);have h4:=h.aH k4;have SF:Ob X (W.add 34) (gO c g s):=h4.C.fr H (λ o _ _ E=>by
  have:=(J _ E.1).2;rw[cT,h.tW] at this;cases this)
 refine⟨I,⟨trivial,by have:=SF.can 5 (by simp[gO]);rwa[add_add _ _ _ h.sp] at this⟩, ?_⟩;have IU:=SF.set 5 (by simp[gO]) (aa p5 (q.length+[((some (⟨w.heap.size,0,none⟩:kd),1,1),n)].length) c5);rw[add_add _ _ _ h.sp] at IU;have u:=Fr.set X (W.add 39) (aa p5 (q.length+[((some (⟨w.heap.size,0,none⟩:kd),1,1),n)].length) c5);generalize (X.setCell (W.add 39) (aa p5 (q.length+[((some (⟨w.heap.size,0,none⟩:kd),1,1),n)].length) c5))=w6 at IU u;have lJ:w.heap.size<R.heap.size:=by rw[<-Ii];simp
 have hs6:w.heap.size<=w6.heap.size:=eX I.size u.size;have apb:R.heap.size<=w6.heap.size:=eX (eX Q.size H.size) u.size;have SG:∀x k,tag x=k->k≠1->x≠W.block:=λ x k r hk e=>hk (by rw[<-r,e,h.tW])
 let tag':Nat->Nat:=λ b=>if b<w.heap.size then tag b else if b=w.heap.size then 15 else if b<w6.heap.size then 14 else 0
 have told:∀b,b<w.heap.size->tag' b=tag b:=λ b hb=>by show(if b<w.heap.size then _ else _)=_;rw[if_pos hb]
 have t15:tag' w.heap.size=15:=by show(if w.heap.size<w.heap.size then _ else _)=_;rw[if_neg (by omega),if_pos rfl]
 have t14:∀b,w.heap.size<b->b<w6.heap.size->tag' b=14:=λ b h1 h2=>by
  show(if b<w.heap.size then _ else _)=_;rw[if_neg (by omega),if_neg (by omega),if_pos h2]
 have afO:∀b,w6.heap.size<=b->tag' b=0:=λ b hb=>by
  show(if b<w.heap.size then _ else _)=_;rw[if_neg (by omega),if_neg (by omega),if_neg (by omega)]
 apply hK;refine⟨tag',_,h.lis (tag':=tag') (v':=aa p5 (q.length+[((some (⟨w.heap.size,0,none⟩:kd),1,1),n)].length) c5) ?_ IU told afO ⟨⟨q++[((some ⟨w.heap.size,0,none⟩,1,1),n)],by simp[iS], ?_, ?_⟩, ?_⟩⟩
 ·refine((Fr.mono k4 (λ _ _ _ x=>x.elim)).step H (λ b o E _=> .inl (by rw[U];exact E.1))).step u ?_;rintro b o ⟨h1,h2⟩ _;rw[cT] at h1;rw[fJ] at h2;exact .inr ⟨h1,h2⟩
 ·have e:(q++[((some (⟨w.heap.size,0,none⟩:kd),1,1),n)]).length=q.length+[((some (⟨w.heap.size,0,none⟩:kd),1,1),n)].length:=by simp
  show Own _ _ _ _ _;have:=jR.fr u (λ b hb o E=>by
   rw[cT] at E;rcases G with G|⟨y,hy,hle⟩
   ·exact SG b 14 (J b (G▸hb)).2 (by decide) E.1
   ·rw[hy] at hb;cases hb;have:=h.kt;have:=k4.size;omega)
  exact this
 ·intro i h1 h2;by_cases hi:i<q.length
  ·rw[List.getElem_append_left hi,List.getElem_append_left (by omega)];obtain⟨e1,e2,e3⟩:=hr i hi (by omega);refine⟨e1, ?_,e3.step hs6 told⟩;have a1:dK X _ _:=aX.away e2 I (λ x r o E=>by have:=(e3 x r).2;rw[E] at this;cases this);exact aX.away a1 u (λ x r o E=>by rw[cT] at E;exact SG x 15 (e3 x r).2 (by decide) E.1)
  ·have hii:i=q.length:=by simp at h1;omega
   subst hii;rw[List.getElem_append_right (bB _),List.getElem_append_right (by omega)];simp only[Nat.sub_self,List.getElem_cons_zero,iS];refine⟨trivial, ?_, ?_⟩
   ·have a1:dK X _ _:=aX.away (Sl.aH N Q) H (λ x r o E=>by
     cases r;have:=(J _ E.1).1;simp at this)
    exact aX.away a1 u (λ x r o E=>by
     cases r;rw[cT] at E;have:=h.kt;have e:=E.1;simp at e;omega)
   ·intro x r;cases r;exact⟨by simp;omega,t15⟩
 ·intro x r;have SH:=Own.lt jR r;refine⟨dR SH u.size, ?_⟩;rcases G with G|⟨y,hy,hle⟩
  ·have:=J x (G▸r);rw[told x this.1];exact this.2
  ·rw[hy] at r;cases r;have:=Q.size;exact t14 _ (by omega) (dR SH u.size)
end
section
variable{c:WC}[RF c][RL c]{tag:Nat->Nat}{g:WV}{w0:ak}{Z:Nat->Prop}{w w':ak}{W:kd}{s:cF}
theorem SL(k:Nat):∀l:List Nat,(l.flatMap (be k)).length=k*l.length:=by
 intro l;induction l with
 |nil=>rfl
 |cons a l h=>rw[fG,aY,h,cH,dH,Nat.mul_succ];omega
theorem IV{name:Wd}{x:ay}{bD:List Nat}(h:C1 c w0 Z w W s)(hx:Sl eU 1 w0 x bD)(hZ:∀y,aN x=some y->Z y)(hv:∀n∈bD,n<4294967296)(hl:bD.length<=1000)(uW:s.li.length<=1000)(hF:s.F.length<=1070000000):
  au ag 239 #[an (some W),aC (bs name),x] w λ r w'=>r=aA/\∃X p b1 dig,X.length<=100+4*bD.length/\p<=1073741824/\C1 c w0 Z w' W {s with F:=s.F++X,li:=s.li++[(name,p)],b1:=b1,dig:=dig}:=by
 obtain⟨px,cx,rfl,Sn⟩:=aX.ex hx;apply abp;unfold Pd;refine aF (Sx (n:=4) h (by omega) (by omega) (by omega)) ?_;rintro _ w1 ⟨rfl,h1⟩;refine⟨_,rfl,_,λ w=>cE _ w,_,rfl,aT rfl ?_⟩;have y7:(pad 4 s.F.length).length<4:=sM _ (by omega);have y':(s.F++pad 4 s.F.length).length<=1070000003:=by rw[aY];omega
 generalize hA:s.F++pad 4 s.F.length=A at h1 y';have IW:=h1.drew;have u:=IW.pos;have E:=IW.eM;dsimp only at u;obtain⟨tag,g,q1⟩:=IW;obtain⟨pl,nl,cl,afQ,r1,w3,lN,p1,l1,c1,e1,k3,r2,w4,mj,p2,l2,c2,e2,k4,r3,w5,kn,p3,l3,c3,e3,jQ,afR,h6⟩:=q1.afK (K:=λ w'=>C1 c w0 Z w' W {s with F:=A,li:=s.li++[(name,A.length)]}) (name:=name) (n:=A.length) (by show s.li.length<=_;omega) (λ w' h=>h);have sU:at_ w1.drew (W.add 39) (aa pl nl cl):=by rw[<-afQ];exact q1.eI 5 rfl
 have hF4:∀o,¬(λ b (_:Nat)=>tag b=14) c.f.block o:=λ o e=>by have:=q1.tF;rw[e] at this;cases this
 have hW4:∀o,¬(λ b (_:Nat)=>tag b=14) W.block o:=λ o e=>by have:=q1.tW;rw[e] at this;cases this
 refine⟨pl,nl,cl,sU,_,E,_,u, ?_⟩;refine⟨r1,w3,lN,p1,l1,c1,e1,k3.at u,by simpa using k3.at E,by simpa using k3.at sU, ?_⟩;refine⟨r2,w4,mj,p2,l2,c2,e2,k4.at u,by simpa using k4.at E,by simpa using k4.at sU, ?_⟩;refine⟨r3,w5,kn,p3,l3,c3,e3,jQ.at u (by rw[cT];exact hF4 0),by simpa using jQ.at E (hW4 0),afR, ?_⟩;generalize (w5.setCell (W.add 39) (aa p3 l3 c3))=w6 at h6;refine⟨_,h6.eM,_,h6.pos, ?_⟩;dsimp only;refine h6.y5 (IE w6) rfl (by show A.length+4<=_;omega) (λ w7 h7=> ?_);refine⟨_,λ w=>cE _ w,_,rfl,aT rfl ?_⟩;dsimp only at h7;refine⟨_,h7.eI 10 rfl,h7.reset (λ w8 h8=> ?_)⟩;dsimp only at h8;refine aF (h8.dQ (λ v H=>iZ H)) ?_;intro _ w9 h9;dsimp only at h9;refine aF (h9.dQ (λ v H=>oo (n:=1) H (by omega) (by simp))) ?_;intro _ jg E;dsimp only at E;refine aF (E.dQ (λ v H=>oo (n:=bD.length) H (by omega) (by simp[cH]))) ?_;intro _ gA zb;dsimp only at zb;have R:=zb.drew;refine⟨_,R.eI 10 rfl, ?_⟩;refine aF R.pQ ?_;intro _ gn qS;dsimp only at qS;refine qS.ld (by show(A++[97,108,101,110]).length+([]++be 4 1++be 4 bD.length).length<=_;simp[cH];omega) (λ nt qM=> ?_);dsimp only at qM;refine⟨_,λ w=>cE _ w,_,rfl,aT rfl ?_⟩;have afU:A++[97,108,101,110]++([]++be 4 1++be 4 bD.length)=A++([97,108,101,110]++(be 4 1++be 4 bD.length++(bD.take 0).flatMap (be 4))):=by simp
 rw[afU] at qM;have gQ:∀k,k<=bD.length->(be 4 1++be 4 bD.length++(bD.take k).flatMap (be 4)).length=8+4*k:=by
  intro k hk;rw[aY,aY,SL,cH,cH,fS,Nat.min_eq_left hk]
 have qT:∀k w (b1 dig:Wd),k<=bD.length->C1 c w0 Z w W {s with F:=A++([97,108,101,110]++(be 4 1++be 4 bD.length++(bD.take k).flatMap (be 4))),li:=s.li++[(name,A.length)],b1:=b1,dig:=dig}->True:=λ _ _ _ _ _ _=>trivial
 refine abo (λ W' sp p' L' C' t93 t94 w'=>W=W'/\sp=(A.length:Int)/\px=p'/\L'=bD.length/\cx=C'/\t93=(bD.length:Int)/\∃k:Nat,t94=(k:Int)/\k<=bD.length/\∃b1 dig,C1 c w0 Z w' W {s with F:=A++([97,108,101,110]++(be 4 1++be 4 bD.length++(bD.take k).flatMap (be 4))),li:=s.li++[(name,A.length)],b1:=b1,dig:=dig}) (λ _ _ _ _ _ t93 t94 _=>(t93-t94).toNat) ?_ ?_
 ·exact⟨rfl,rfl,rfl,rfl,rfl,rfl,0,rfl,by omega,_,_,qM⟩
 ·rintro _ _ _ _ _ _ _ oz ⟨rfl,rfl,rfl,rfl,rfl,rfl,k,rfl,hk,b1,dig,Q⟩;unfold GN;refine bn (λ fj=> ?_) (λ fj=> ?_)
  ·have gT:k<bD.length:=by simp at fj;omega
   have afV:Sl eU 1 oz (aa px bD.length cx) bD:=by
    obtain⟨_,_,q⟩:=Q;exact aX.away hx q.kp (λ y hy _ hz=>hz (hZ y hy))
   refine Sl.ix (z:=1) (λ _=>rfl) (by omega) afV (by omega) (by omega) (λ a hs ha=> ?_);have lj:=ha 0 _ rfl;simp only[fH,add_zero] at lj;refine⟨_,lj, ?_⟩;have hn:=hv (bD[k]) (by simp);refine aF (Q.dQ (λ v H=>iZ H)) ?_;intro _ zd G;dsimp only at G;refine aF (G.dQ (λ v H=>yn (n:=bD[k]) H hn (by simp))) ?_;intro _ ze N;dsimp only at N;have U:=N.drew;refine⟨_,U.eI 10 rfl, ?_⟩;refine aF U.pQ ?_;intro _ qU I;dsimp only at I;have hB:=gQ k hk;refine I.ld (by show(A++([97,108,101,110]++(be 4 1++be 4 bD.length++(bD.take k).flatMap (be 4)))).length+([]++be 4 (bD[k])).length<=_;rw[aY,aY,hB];simp[cH];omega) (λ SN J=> ?_);dsimp only at J;refine⟨_,λ w=>cE _ w,_,rfl,aT rfl ?_⟩;rw[show aq af ((k:Int)+1)=((k+1:Nat):Int) by rw[bk (by omega) (by omega)];omega];have e:A++([97,108,101,110]++(be 4 1++be 4 bD.length++(bD.take k).flatMap (be 4)))++([]++be 4 (bD[k]))=A++([97,108,101,110]++(be 4 1++be 4 bD.length++(bD.take (k+1)).flatMap (be 4))):=by
    rw[<-l7 gT,jK];simp
   rw[e] at J;exact⟨⟨rfl,rfl,rfl,rfl,rfl,rfl,k+1,rfl,by omega,_,_,J⟩,by omega⟩
  ·have gT:k=bD.length:=by simp at fj;omega
   have hB:=gQ k hk;generalize (be 4 1++be 4 bD.length++(bD.take k).flatMap (be 4))=B at Q hB;have lT:(A++([97,108,101,110]++B)).length=A.length+4+B.length:=by simp;omega
   have mq:s.ir.length<=A.length:=by
    rw[<-hA,aY];obtain⟨_,_,q⟩:=h;have:=q.fW;omega
   refine aF (Q.dQ (λ v H=>iZ H)) ?_;intro _ zd G;dsimp only at G;have SO:=G.pos;dsimp only at SO;refine⟨_,G.eM,_,SO, ?_⟩;have e1:aq aj (aq aj (((A++([97,108,101,110]++B)).length:Int)-(A.length:Int))-4)=(B.length:Int):=by
    rw[lT,dV (x:=((A.length+4+B.length:Nat):Int)-(A.length:Int)) (by omega) (by omega),dV (by omega) (by omega)];omega
   dsimp only;rw[e1];refine aT (by rw[decide_eq_false_iff_not];omega) ?_;rw[bk (by omega) (by omega)];refine aF (G.dQ (λ v H=>oo H (by omega) (by simp))) ?_;intro _ ze N;dsimp only at N;refine N.Sy (k:=A.length) (by show A.length+([]++be 4 B.length).length<=(A++([97,108,101,110]++B)).length;rw[lT];simp[cH]) (by simp[cH]) mq (λ qU I=> ?_);dsimp only at I;refine⟨_,λ w=>cE _ w,_,rfl,aT rfl ?_⟩;have eF:over (A++([97,108,101,110]++B)) A.length ([]++be 4 B.length)=A++(be 4 B.length++B):=by
    unfold over;simp[cH]
   rw[eF] at I;refine aF (I.dQ (λ v H=>iZ H)) ?_;intro _ SN J;dsimp only at J;have aqC:=J.drew;refine⟨_,aqC.eI 10 rfl, ?_⟩;refine aF (aqC.Sw (by simp)) ?_;intro _ zf SQ;dsimp only at SQ;refine SQ.ld (by show(A++(be 4 B.length++B)).length+([]++be 4 (cI 0 dig)).length<=_;simp[cH];omega) (λ zg zh=> ?_);dsimp only at zh;refine⟨rfl,pad 4 s.F.length++(be 4 B.length++(B++be 4 (cI 0 dig))),A.length,[]++be 4 (cI 0 dig),dig, ?_,by omega, ?_⟩
   ·simp[cH];omega
   ·have e2:A++(be 4 B.length++B)++([]++be 4 (cI 0 dig))=s.F++(pad 4 s.F.length++(be 4 B.length++(B++be 4 (cI 0 dig)))):=by
     rw[<-hA];simp
    rw[<-e2];exact zh
theorem afW(h:C1 c w0 Z w W s)(hP:s.fN=true)(hF:s.F.length<=500000000)(C0:s.P.length<=500000000):
  au ag 182 #[an (some W)] w λ r w'=>r=aA/\C1 c w0 Z w' W {s with F:=s.F++(pad 4 s.F.length++s.P),fN:=false,pst:=(s.F++pad 4 s.F.length).length}:=by
 apply abb;unfold v182;refine⟨_,h.eM, ?_⟩;obtain⟨tag,g,h⟩:=h;refine aF (IB (s:=4) h.F (by omega) (by omega) (by omega)) ?_;rintro _ w1 ⟨rfl,v1,IX,ym,jE⟩;have q1:=h.file IX ym jE (by simp);refine⟨_,rfl,_,λ w=>cE _ w,_,rfl,aT rfl ?_⟩;have y7:(pad 4 s.F.length).length<4:=sM _ (by omega);have hA:(s.F++pad 4 s.F.length).length<=500000004:=by rw[aY];omega
 refine⟨_,q1.eM,_,q1.F.pos,⟨trivial,q1.A.can 11 (by simp[gm])⟩, ?_⟩;have q2:=q1.lR (hP:=s.fN) (hO:=s.eR) (cnt:=s.cnt) (t0:=s.t0) (t1:=s.t1) (t2:=s.t2) (t3:=s.t3) (t4:=s.t4) (t5:=s.t5) (stage:=s.stage) (pst:=(s.F++pad 4 s.F.length).length) (k:=11) (v:=ah aj ((s.F++pad 4 s.F.length).length:Int)) (by omega) rfl;dsimp only at q2⊢;generalize (w1.setCell (W.add 11) (ah aj ((s.F++pad 4 s.F.length).length:Int)))=w2 at q2;generalize hAA:s.F++pad 4 s.F.length=A at q2 hA;have H:∀{w:ak} {tag:Nat->Nat} {g:WV} {s':cF},WI c tag g w0 Z w W s'->s'.fN=true->at_ w (W.add 1) (an (some c.p)):=λ q hp=>by have:=q.dP 1 rfl;rwa[if_pos hp] at this
 refine⟨_,H q2 hP, ?_⟩;refine aF sQ ?_;rintro _ w2 ⟨rfl,rfl⟩;refine⟨_,rfl,_,λ w=>cE _ w,_,rfl,aT rfl ?_⟩;have u:=q2.aH (cu w2);refine⟨_,u.eM,_,u.eM, ?_⟩;obtain⟨pf,cf,SR,hcf⟩:=u.F.sl;obtain⟨pp,cp,SS,hcp⟩:=u.P.sl;have qV:=u.F.v;have Du:=u.P.v;rw[SR] at qV;rw[SS] at Du;refine⟨_,_,_,qV,_,H u hP,_,_,_,Du, ?_⟩;obtain⟨⟨nm,ho⟩,hv,eY,lJ⟩:=u.F;have hbp:cz w2.drew (aa pp s.P.length cp) s.P:=by rw[<-SS];exact u.P.eD
 obtain⟨v',w4,jT,lO,E,I⟩:=Own.append (tx:=26) (ty:=26) qH hv (cz.src hbp) (by dsimp only;omega) (by dsimp only;omega);obtain⟨N,c4,rfl,zi⟩:=lO.ex;rw[SR] at jT;dsimp only at jT lO E I lJ;have qW:∀x,aN v1=some x->x<w2.drew.heap.size/\(iT tag w w1 5) x=5:=u.fg;have U:∀o,¬(λ b o=>aN v1=some b/\A.length*1<=o) W.block o:=λ o e=>by
  have:=(qW _ e.1).2;rw[u.tW] at this;cases this
 have hfb:∀o,¬(λ b o=>aN v1=some b/\A.length*1<=o) c.f.block o:=λ o e=>eY e.1
 refine⟨_,w4,jT,N,_,c4,rfl,E.at (H u hP) (by rw[cT];exact U _),by simpa using E.at u.eM (U _),by simpa using E.at u.eM (U _), ?_⟩;have jS:Ob w4 c.f _:=ho.fr E (λ o _ _=>hfb o);refine⟨⟨trivial,by simpa using jS.can 0 (by simp)⟩, ?_⟩;have K:=jS.set 0 (by simp) (aa N (A.length+s.P.length) c4);simp only[add_zero,oU] at K;have G:Fr (mn c.f v1 A.length) w2.drew (w4.setCell c.f (aa N (A.length+s.P.length) c4)):=by
  refine(E.mono (λ b o _ hS=> .inr ⟨hS.1,by omega⟩)).step (Fr.set w4 c.f _) ?_;rintro b o ⟨rfl,rfl⟩ _;exact .inl ⟨rfl,bB _,by omega⟩
 have SU:=Fr.set w4 c.f (aa N (A.length+s.P.length) c4);generalize (w4.setCell c.f (aa N (A.length+s.P.length) c4))=w6 at K G SU;have SV:∀o,¬mn c.f v1 A.length W.block o:=by
  rintro o(⟨e,_⟩|⟨e,_⟩)
  ·have:=u.tF;rw[<-e,u.tW] at this;cases this
  ·have:=(qW _ e).2;rw[u.tW] at this;cases this
 have SX:∀o,¬mn c.f v1 A.length c.p.block o:=by
  rintro o(⟨e,_⟩|⟨e,_⟩)
  ·have:=u.tF;rw[<-e,u.tP] at this;cases this
  ·have:=(qW _ e).2;rw[u.tP] at this;cases this
 have R:=G.at (H u hP) (by rw[cT];exact SV _);have af0:=G.at u.eM (SV _);refine⟨_,R,_,_,_,G.at Du (SX _),_,R,_,G.at u.P.pos (by rw[cT];exact SX _), ?_⟩;dsimp only;rw[dV (x:=(s.P.length:Int)) (by omega) (by omega)];refine aT (by simp) ?_;refine⟨_,af0,_,K.at 1 rfl,⟨trivial,K.can 1 (by simp)⟩, ?_⟩;have eN:aq aj ((A.length:Int)+(s.P.length:Int))=((A++s.P).length:Int):=by rw[aY,dV (by omega) (by omega)];omega
 dsimp only;rw[eN];have X:=K.set 1 (by simp) (ah aj ((A++s.P).length:Int));simp only[List.set_cons_succ,oU] at X;have py:Fr (mn c.f v1 A.length) w2.drew (w6.setCell (c.f.add 1) (ah aj ((A++s.P).length:Int))):=by
  refine G.step (Fr.set w6 (c.f.add 1) _) ?_;rintro b o ⟨e1,e2⟩ _;rw[cT] at e1;rw[fJ] at e2;exact .inl ⟨e1,by omega,by omega⟩
 have Q:=Fr.set w6 (c.f.add 1) (ah aj ((A++s.P).length:Int));generalize SY:(w6.setCell (c.f.add 1) (ah aj ((A++s.P).length:Int)))=w8 at X py Q;have hb8:aN (aa N (A.length+s.P.length) c4)=aN v1\/∃x,aN (aa N (A.length+s.P.length) c4)=some x/\w2.drew.heap.size<=x:=I;have J:aN (aa N (A.length+s.P.length) c4)≠some c.f.block:=by
  intro e;rcases I with I|⟨y,hy,hle⟩
  ·exact eY (by rw[<-I];exact e)
  ·rw[hy] at e;cases e;have:=u.F.lt;omega
 have IZ:Own w8 1 (aa N (A.length+s.P.length) c4) (A++s.P).length (cD (A++s.P)):=by
  have h1:=(lO.fr SU (λ x hx o hS=>J (by rw[hx,hS.1]))).fr Q (λ x hx o hS=>J (by rw[hx,hS.1,cT]));rw[pk,aY];exact h1
 have q8:=u.file (v':=aa N (A.length+s.P.length) c4) (l':=A++s.P) ⟨⟨nm,X⟩,IZ,J,by rw[aY];omega⟩ py hb8 (by simp);dsimp only at q8;refine⟨_,H q8 hP, ?_⟩;refine aF IA ?_;rintro _ w8 ⟨rfl,rfl⟩;refine⟨_,rfl,_,λ w=>cE _ w,_,rfl,aT rfl ?_⟩;refine⟨_,H q8 hP, ?_⟩;refine aF Sq ?_;rintro _ w8 ⟨rfl,rfl⟩;refine⟨_,rfl,_,λ w=>cE _ w,_,rfl,aT rfl ?_⟩;refine⟨⟨trivial,q8.A.can 1 (by simp[gm])⟩,rfl, ?_⟩;have q9:=q8.lR (hP:=false) (hO:=s.eR) (cnt:=s.cnt) (t0:=s.t0) (t1:=s.t1) (t2:=s.t2) (t3:=s.t3) (t4:=s.t4) (t5:=s.t5) (stage:=s.stage) (pst:=A.length) (k:=1) (v:=an none) (by omega) rfl;dsimp only at q9;have e9:s.F++(pad 4 s.F.length++s.P)=A++s.P:=by rw[<-hAA];simp
 rw[e9];exact⟨_,_,q9⟩
end
theorem SZ:gW ag 336 3 kM 1 8 [ah af 0]:=
 ⟨⟨by kernel_rfl,by kernel_rfl,rfl,by decide⟩,λ _=>rfl,λ x u c=>by simp[kM] at c;subst c;rfl⟩
theorem af2(n:Nat)(w:ak):(bw 336 1 #[(0,ah af (n:Int))]).run ag w= .ok (aa (some ⟨w.heap.size,0,none⟩) 1 1) (w.alloc (.cells ⟨[ah af (n:Int)]⟩ 3)):=by kernel_rfl
theorem uX{P:bU}{t e:cK}{size fA:Nat}{N:List ay}(c:nV P t e size fA N)(w:ak)(n:Nat)(u:fA*n<=281474976710656)(x:n<=4611686018427387904):
  ∃w',(kS t (ah af 0) (ah af (n:Int))).run P w= .ok (aa (some ⟨w.heap.size,0,none⟩) 0 n) w'/\Own w' size (aa (some ⟨w.heap.size,0,none⟩) 0 n) 0 []/\aS w w':=by
 obtain⟨H,i,Q,hi,G,q,I,J,K,_⟩:=c.ex;obtain⟨w',E,y,r⟩:=run_make_own w 0 t e i Q size H hi I G af af n (by rw[q];exact u) (by simp only[maxLen];omega) (dO _);exact⟨w',E,Az y,(wg r).mono (λ b _ _ h=>by cases h)⟩
def eV(S:List Wd):Nat:=(S.flatMap b8).length
theorem af3(S:List Wd)(k:Nat):eV (S.take k)+eV (S.drop k)=eV S:=by
 unfold eV
 conv=>rhs;rw[<-kC k S]
 rw[jK,aY]
theorem I0(S:List Wd)(off:Nat):(eQ S off).length=(S.length+31)/32:=by simp[eQ]
theorem S1{w:ak}{p:OA}{cc off:Nat}{S:List Wd}{B rest:Wd}(h:cz w (aa p B.length cc) B)(hB:B.length<=1073741824)(hd:B.drop off=dh (cY S)++rest)(c:S.length<=100000):
  au ag 204 #[cW (aa p B.length cc),ah af 2,ah af (off:Int)] w λ r w'=>∃y ov,r=aZ #[an (some y),aA]/\w.heap.size<=y.block/\Ob w' y [cW (aa p B.length cc),ah af 2,ah af (off:Int),ov,ah af (S.length:Int)]/\
   pM w' (aa p B.length cc) ov S off B/\(∀g,aN ov=some g->w.heap.size<=g/\g<w'.heap.size)/\aS w w':=by
 have iP:(cY S).length=4+eV S:=by unfold cY eV;rw[aY,cH]
 have hlen:=CB hd (by rw[aY,pJ];omega);rw[aY,pJ,iP] at hlen;apply ack;unfold Qe;dsimp only[a_];show fI (cG 162 (aa p B.length cc)) _;have oy:=Ob.new w [cW (aa p B.length cc),ah af 2,ah af (off:Int),aa none 0 0,ah af 0] 338;have k1:=bA w (.cells ⟨[cW (aa p B.length cc),ah af 2,ah af (off:Int),aa none 0 0,ah af 0]⟩ 338);have I1:w.heap.size<(w.alloc (.cells ⟨[cW (aa p B.length cc),ah af 2,ah af (off:Int),aa none 0 0,ah af 0]⟩ 338)).heap.size:=by simp
 show au _ _ _ _ _;refine aF (sq (w:=w.alloc (.cells ⟨[cW (aa p B.length cc),ah af 2,ah af (off:Int),aa none 0 0,ah af 0]⟩ 338))) ?_;generalize w.alloc (.cells ⟨[cW (aa p B.length cc),ah af 2,ah af (off:Int),aa none 0 0,ah af 0]⟩ 338)=w1 at oy k1 I1;rintro _ w2 ⟨t,rfl,jP,i_,ht3,k2⟩;refine⟨_,rfl, ?_⟩;have iK:=k1.trans k2;refine aF (CD (Sl.aH h iK) ht3 hB (by rw[hd];unfold dh;rw[dx,dx])) ?_;rintro _ G ⟨q,rfl,hq,hbq,k3⟩;obtain⟨pq,cq,rfl,hcq⟩:=aX.ex hq;refine⟨_,_,_,_,rfl, ?_⟩;have od:=Ob.new G [aa none 0 0,aA] 182;have k4:=bA G (.cells ⟨[aa none 0 0,aA]⟩ 182);have yH:=iK.trans k3;have oy3:=(oy.aH k2).aH k3;refine dB (m:=2) od (Fr.refl _ _) 0 (by simp) (by omega) _ (by trivial) (λ w5 od5 jQ=> ?_);refine dB od5 jQ 1 (by simp) (by omega) _ (by trivial) (λ w6 od6 I2=> ?_);have uY:aS G w6:=Fr.new k4 I2 (by rintro b o ⟨rfl,_⟩;exact bB _);have oy6:=oy3.aH uY;have hq6:=Sl.aH hq uY;have I3:w1.heap.size<=G.heap.size:=eX k2.size k3.size;have J:∀x,aN (aa pq (cY S).length cq)=some x->x<w.heap.size:=by
  intro x E;rw[hbq] at E;cases hp:p with
  |none=>rw[hp] at E;cases E
  |some a=>
   rw[hp] at E;cases E;exact HW h (by omega) hp
 have I4:dT w6 ⟨G.heap.size,0,none⟩ (aa pq (cY S).length cq) (cY S):=⟨by simpa using od6,hq6,λ e=>by have h1:G.heap.size<w.heap.size:=J _ e;have:=yH.size;omega,by omega⟩;have S2:w.heap.size<G.heap.size:=dR I1 I3;refine aF (jC I4) ?_;rintro _ w6 ⟨rfl,rfl⟩;refine⟨_,rfl, ?_⟩;refine aF (yo (n:=S.length) (rest:=S.flatMap b8) I4 (by omega)) ?_;rintro _ w7 ⟨rfl,v7,hd7,lM,I5⟩;refine⟨_,rfl, ?_⟩;have Da:aS w w7:=(yH.trans uY).new lM (λ b o c=>by rw[c.1];exact Nat.le_of_lt S2);have oy7:=oy6.fr lM (λ o _ _ c=>by have:=c.1;simp at this;omega);have hm:aq af (1+aq af (gi (S.length:Int) 32))=((1+S.length/32:Nat):Int):=by
  have e:gi (S.length:Int) 32=((S.length/32:Nat):Int):=by rfl
  rw[e,bk (x:=((S.length/32:Nat):Int)) (by omega) (by omega),bk (by omega) (by omega)];omega
 dsimp only;rw[hm];obtain⟨w8,I6,mV,k8⟩:=uX SZ.ty w7 (1+S.length/32) (by omega) (by omega);refine⟨_,w8,I6,_,_,_,rfl, ?_⟩;have S3:=oy7.aH k8;refine⟨⟨trivial,S3.can 3 (by simp)⟩, ?_⟩;have I7:=S3.set 3 (by simp) (aa (some ⟨w7.heap.size,0,none⟩) 0 (1+S.length/32));simp only[List.set_cons_succ,oU] at I7;have I8:=Fr.set w8 ((⟨w.heap.size,0,none⟩:kd).add 3) (aa (some ⟨w7.heap.size,0,none⟩) 0 (1+S.length/32));have Db:=(hd7.aH k8).fr I8 (λ o c=>by have:=c.1;simp at this;omega) (λ b hb o c=>by
  have:=J b (I5▸hb);have e:=c.1;rw[cT] at e;simp at e;omega)
 have Dc:cP kM 1 _ (aa (some ⟨w7.heap.size,0,none⟩) 0 (1+S.length/32)) ([]:List Nat):=mV.fr I8 (λ b hb o c=>by
  cases hb;have e:=c.1;rw[cT] at e;have:=Da.size;have:=yH.size;have h1:=(uY.size);have h2:=lM.size;simp at e;omega)
 have k9:aS w (w8.setCell ((⟨w.heap.size,0,none⟩:kd).add 3) (aa (some ⟨w7.heap.size,0,none⟩) 0 (1+S.length/32))):=(Da.trans k8).new I8 (λ b o c=>by rw[c.1,cT];exact bB _);have hw7:G.heap.size<w7.heap.size:=by
  have h1:G.heap.size<w6.heap.size:=(Ob.lt I4.1 (by simp));exact dR h1 lM.size
 generalize (w8.setCell ((⟨w.heap.size,0,none⟩:kd).add 3) (aa (some ⟨w7.heap.size,0,none⟩) 0 (1+S.length/32)))=w9 at I7 Db Dc k9;have e4:aq af ((off:Int)+4)=((off+4:Nat):Int):=by rw[bk (by omega) (by omega)];omega
 rw[e4]
 let gF:Nat->List Nat:=λ k=>(lZ ((k+31)/32)).map λ j=>off+8+((S.take (32*j)).flatMap b8).length
 have agc:∀k,(gF k).length=(k+31)/32:=λ k=>by simp[gF]
 refine acj (λ s d ol cnt bp w'=>s=⟨w.heap.size,0,none⟩/\d=⟨G.heap.size,0,none⟩/\ol=((cY S).length:Int)/\cnt=(S.length:Int)/\bp=((off+4:Nat):Int)/\aS w w'/\∃(k:Nat) (ov dv:ay),k<=S.length/\Ob w' ⟨w.heap.size,0,none⟩ [cW (aa p B.length cc),ah af 2,ah af (off:Int),ov,ah af (k:Int)]/\dT w' ⟨G.heap.size,0,none⟩ dv ((S.drop k).flatMap b8)/\(∀x,aN dv=some x->x<w.heap.size)/\cP kM 1 w' ov (gF k)/\(∀x,aN ov=some x->G.heap.size<x)) (λ s _ _ _ _ w'=>match w'.cell? (s.add 4) with|some (ah _ n)=>((S.length:Int)-n).toNat|_=>0) ?_ ?_
 ·refine⟨rfl,rfl,rfl,rfl,rfl,k9,0,_,v7,by omega,I7,by simpa using Db,λ x E=>J x (I5▸E),Dc,λ x E=> ?_⟩;cases E;exact hw7
 ·rintro _ _ _ _ _ wa ⟨rfl,rfl,rfl,rfl,rfl,ka,k,ov,dv,hk,H,U,Dd,I,u⟩;unfold Ha;refine aF (fU U) ?_;rintro _ wa ⟨rfl,rfl⟩;refine⟨_,rfl,_,λ w=>pK _ w,_,rfl,cJ rfl ?_⟩;refine⟨_,H.at 4 rfl, ?_⟩;have Z:∀{w':ak} {n:Nat} {l:List ay},Ob w' ⟨w.heap.size,0,none⟩ l->l[4]? =some (ah af (n:Int))->w'.cell? ((⟨w.heap.size,0,none⟩:kd).add 4)=some (ah af (n:Int)):=λ ho hl=>ho.at 4 hl
  refine bn (λ hc=> ?_) (λ hc=> ?_)
  ·have gT:k<S.length:=by simp at hc;omega
   have agd:(S.drop k).flatMap b8=b8 (S[k])++(S.drop (k+1)).flatMap b8:=by
    rw[gS gT,fG]
   have ape:=af3 S k;have age:((S.drop k).flatMap b8).length=eV (S.drop k):=rfl;have S4:∀(wb:ak) (ov:ay),aS w wb->Ob wb ⟨w.heap.size,0,none⟩ [cW (aa p B.length cc),ah af 2,ah af (off:Int),ov,ah af (k:Int)]->dT wb ⟨G.heap.size,0,none⟩ dv ((S.drop k).flatMap b8)->
     cP kM 1 wb ov (gF (k+1))->(∀x,aN ov=some x->G.heap.size<x)->
     xO (λ r w'=>∃y ov,r=aZ #[an (some y),aA]/\w.heap.size<=y.block/\Ob w' y [cW (aa p B.length cc),ah af 2,ah af (off:Int),ov,ah af (S.length:Int)]/\pM w' (aa p B.length cc) ov S off B/\(∀g,aN ov=some g->w.heap.size<=g/\g<w'.heap.size)/\aS w w') (λ s d ol cnt bp w'=>(s=⟨w.heap.size,0,none⟩/\d=⟨G.heap.size,0,none⟩/\ol=((cY S).length:Int)/\cnt=(S.length:Int)/\bp=((off+4:Nat):Int)/\aS w w'/\∃(k:Nat) (ov dv:ay),k<=S.length/\Ob w' ⟨w.heap.size,0,none⟩ [cW (aa p B.length cc),ah af 2,ah af (off:Int),ov,ah af (k:Int)]/\dT w' ⟨G.heap.size,0,none⟩ dv ((S.drop k).flatMap b8)/\(∀x,aN dv=some x->x<w.heap.size)/\cP kM 1 w' ov (gF k)/\(∀x,aN ov=some x->G.heap.size<x))/\(match w'.cell? (s.add 4) with|some (ah _ n)=>((S.length:Int)-n).toNat|_=>0)<(match wa.cell? ((⟨w.heap.size,0,none⟩:kd).add 4) with|some (ah _ n)=>((S.length:Int)-n).toNat|_=>0))
     ⟨w.heap.size,0,none⟩ ⟨G.heap.size,0,none⟩ ((cY S).length:Int) (S.length:Int) ((off+4:Nat):Int) wb:=by
    intro wb ov kb oyb S5 agh Q;unfold xO;rw[agd] at S5;refine aF (jD iO S5) ?_;rintro r wc ⟨hr,S6,dv',I9,K,R⟩;obtain⟨pr,cr,rfl,_⟩:=aX.ex hr;refine⟨_,_,_,rfl, ?_⟩;have kc:aS w wc:=kb.new K (λ b o c=>by rw[c.1];exact Nat.le_of_lt S2);have W:=oyb.fr K (λ o _ _ c=>by have:=c.1;simp at this;omega);have agj:cP kM 1 wc ov (gF (k+1)):=agh.fr K (λ x E o c=>by have:=Q x E;have:=c.1;simp at this;omega);refine⟨_,W.at 4 rfl,⟨trivial,W.can 4 (by simp)⟩, ?_⟩;have ek:aq af ((k:Int)+1)=((k+1:Nat):Int):=by rw[bk (by omega) (by omega)];omega
    dsimp only;rw[ek];have X:=W.set 4 (by simp) (ah af ((k+1:Nat):Int));simp only[List.set_cons_succ,oU] at X;have N:=Fr.set wc ((⟨w.heap.size,0,none⟩:kd).add 4) (ah af ((k+1:Nat):Int));refine⟨⟨rfl,rfl,rfl,rfl,rfl,kc.new N (λ b o c=>by rw[c.1,cT];exact bB _),k+1,ov,dv',by omega,X,I9.fr N (λ o c=>by have:=c.1;simp at this;omega) (λ b hb o c=>by
     have:=Dd b (R▸hb);have e:=c.1;rw[cT] at e;simp at e;omega),λ x E=>Dd x (R▸E),agj.fr N (λ x E o c=>by have:=Q x E;have e:=c.1;rw[cT] at e;simp at e;omega),Q⟩, ?_⟩
    rw[Z X rfl,Z H rfl];simp only;omega
   unfold G';refine⟨_,H.at 4 rfl, ?_⟩;have emod:Int.tmod (k:Int) 32=((k % 32:Nat):Int):=rfl;dsimp only;rw[emod];refine bn (λ hc=> ?_) (λ hc=> ?_)
   ·have agk:k % 32=0:=by have:=beq_iff_eq.1 hc;omega
    have da:=cu wa;obtain⟨po,co,rfl,hco⟩:=Own.ex I;refine⟨_,_,_,(H.aH da).at 3 rfl, ?_⟩;refine aF (jC (U.aH da)) ?_;rintro _ wb ⟨rfl,rfl⟩;refine⟨_,rfl,(H.aH da).at 3 rfl, ?_⟩;have en:aq af (aq af (((off+4:Nat):Int)+((cY S).length:Int))-(((S.drop k).flatMap b8).length:Int))=((off+8+eV (S.take k):Nat):Int):=by
     rw[age,iP,bk (x:=((off+4:Nat):Int)+((4+eV S:Nat):Int)) (by omega) (by omega),bk (by omega) (by omega)];omega
    rw[en];refine⟨_,_,af2 _ _,_,_,_,rfl, ?_⟩;have kx:=da.trans (bA wa.drew (.cells ⟨[ah af ((off+8+eV (S.take k):Nat):Int)]⟩ 3));refine⟨(H.aH kx).at 3 rfl, ?_⟩;have E:Sl kM 1 (wa.drew.alloc (.cells ⟨[ah af ((off+8+eV (S.take k):Nat):Int)]⟩ 3)) (aa (some ⟨wa.drew.heap.size,0,none⟩) 1 1) [off+8+eV (S.take k)]:=
     aX.new _ 1 [ah af ((off+8+eV (S.take k):Nat):Int)] 3 1 1 rfl (bB _)
    have pR:=agc k;refine oi SZ (Own.aH I kx) E (by rw[pR];simp;omega) (by rw[pR];simp;omega) (λ p2 c2 wc I_ K R=> ?_);have oyx:=H.aH kx;have zj:∀o,¬(λ b o=>aN (aa po (gF k).length co)=some b/\(gF k).length*1<=o) w.heap.size o:=λ o c=>by have:=u _ c.1;omega
    have lU:∀o,¬(λ b o=>aN (aa po (gF k).length co)=some b/\(gF k).length*1<=o) G.heap.size o:=λ o c=>by have:=u _ c.1;omega
    have W:=oyx.fr K (λ o _ _=>zj o);have kc:aS w wc:=(ka.trans kx).new K (λ b o c=>by have:=u _ c.1;omega);have I9:=(U.aH kx).fr K lU (λ b hb o c=>by have:=u _ c.1;have:=Dd b hb;omega);refine⟨⟨trivial,W.can 3 (by simp)⟩, ?_⟩;have X:=W.set 3 (by simp) (aa p2 ((gF k).length+[off+8+eV (S.take k)].length) c2);simp only[List.set_cons_succ,oU] at X;have N:=Fr.set wc ((⟨w.heap.size,0,none⟩:kd).add 3) (aa p2 ((gF k).length+[off+8+eV (S.take k)].length) c2);have Cn:∀x,aN (aa p2 ((gF k).length+[off+8+eV (S.take k)].length) c2)=some x->G.heap.size<x:=by
     intro x E;rcases R with R|⟨y,hy,hle⟩
     ·exact u x (R▸E)
     ·rw[hy] at E;cases E;have h1:G.heap.size<wa.heap.size:=Ob.lt U.1 (by simp);have:=kx.size;omega
    refine S4 _ _ (kc.new N (λ b o c=>by rw[c.1,cT];exact bB _)) X (I9.fr N (λ o c=>by have:=c.1;simp at this;omega) (λ b hb o c=>by
     have:=Dd b hb;have e:=c.1;rw[cT] at e;simp at e;omega)) ?_ Cn
    have e1:gF (k+1)=gF k++[off+8+eV (S.take k)]:=by
     have ek:(k+1+31)/32=(k+31)/32+1:=by omega
     have ek2:32*((k+31)/32)=k:=by omega
     show(lZ ((k+1+31)/32)).map _=(lZ ((k+31)/32)).map _++_;rw[ek,List.range_succ,iE,hW,List.map_nil,ek2];rfl
    rw[e1];exact I_.fr N (λ x E o c=>by have:=Cn x E;have e:=c.1;rw[cT] at e;simp at e;omega)
   ·have agk:k % 32≠0:=λ e=>by rw[e] at hc;cases hc
    have e1:gF (k+1)=gF k:=by
     have ek:(k+1+31)/32=(k+31)/32:=by omega
     show(lZ ((k+1+31)/32)).map _=(lZ ((k+31)/32)).map _;rw[ek]
    exact S4 wa ov ka H U (by rw[e1];exact I) u
  ·have gT:k=S.length:=by simp at hc;omega
   subst gT;unfold B4;refine aF (fU U) ?_;rintro _ wb ⟨rfl,rfl⟩;refine⟨_,rfl,_,λ w=>cE _ w,_,rfl,aT rfl ⟨_,ov,rfl,bB _,H,⟨Sl.aH h ka,hB,⟨rest,hd⟩, ?_⟩,λ g hg=> ?_,ka⟩⟩
   ·exact I.cV
   ·have:=u g hg;exact⟨by omega,Own.lt I hg⟩
theorem I'{B rest:Wd}{off:Nat}{S:List Wd}(h:B.drop off=dh (cY S)++rest)(k:Nat)(q:k<=S.length):
  ∃r,B.drop (off+8+eV (S.take k))=(S.drop k).flatMap b8++r:=by
 have e:dh (cY S)++rest=(be 4 (cY S).length++be 4 S.length++(S.take k).flatMap b8)++((S.drop k).flatMap b8++(be 4 (cI 0 (cY S))++rest)):=by
  unfold dh cY;have:S.flatMap b8=(S.take k).flatMap b8++(S.drop k).flatMap b8:=by rw[<-jK,kC]
  conv=>lhs;rw[show be 4 S.length++S.flatMap b8=be 4 S.length++((S.take k).flatMap b8++(S.drop k).flatMap b8) by rw[<-this]]
  simp[this]
 refine⟨be 4 (cI 0 (cY S))++rest, ?_⟩;have c:(be 4 (cY S).length++be 4 S.length++(S.take k).flatMap b8).length=8+eV (S.take k):=by
  simp only[aY,cH];unfold eV;omega
 rw[show off+8+eV (S.take k)=off+(8+eV (S.take k)) by omega,<-List.drop_drop,h,e,<-c,iz]
theorem ago{w:ak}{d:kd}{v:ay}{S:List Wd}{rest:Wd}{w0:ak}(hn:Nat){K:ay->ak->Prop}{i:Nat}(hi:i<S.length)(hd:dT w d v (S.flatMap b8++rest))(I:aS w0 w)(u:w0.heap.size<=d.block)(Z:i<4294967296)
  (W:∀w',aS w0 w'->K (aZ #[aC (bs (S[i])),aA]) w'):uq K d (i:Int) w:=by
 refine acf (λ U N w'=>d=U/\aS w0 w'/\∃(j:Nat) (Q:ay),N=(j:Int)/\j<=i/\dT w' d Q ((S.drop (i-j)).flatMap b8++rest)) (λ _ N _=>N.toNat) ?_ ?_
 ·exact⟨rfl,I,i,v,rfl,by omega,by rw[Nat.sub_self];exact hd⟩
 ·rintro _ _ w1 ⟨rfl,y,j,Q,rfl,hj,c⟩;unfold G_;have J:i-j<S.length:=by omega
  rw[gS J,fG,dx] at c;refine bn (λ G=> ?_) (λ G=> ?_)
  ·have x:0<j:=by simp at G;omega
   refine aF (jD iO c) ?_;rintro r R ⟨hr,_,q,h,H,X⟩;obtain⟨pr,cr,rfl,_⟩:=aX.ex hr;refine⟨_,_,_,rfl, ?_⟩;have e:aq aL ((j:Int)-1)=((j-1:Nat):Int):=by rw[iY (by omega) (by omega)];omega
   rw[e];refine⟨⟨rfl,y.new H (λ b o E=>by rw[E.1];exact u),j-1,q,rfl,by omega, ?_⟩,by simp;omega⟩;rw[show i-(j-1)=i-j+1 by omega];exact h
  ·have x:j=0:=by simp at G;omega
   subst x;unfold uo;refine aF (adE iO c) ?_;rintro _ R ⟨rfl,q,h,H,X⟩;refine⟨_,rfl, ?_⟩;refine aF (fU h) ?_;rintro _ R ⟨rfl,rfl⟩;refine⟨_,rfl,_,λ w=>cE _ w,_,rfl,aT rfl ?_⟩;exact W _ (y.new H (λ b o E=>by rw[E.1];exact u))
theorem Ja{w w0:ak}{y d:kd}{bv ov v:ay}{S:List Wd}{off:Nat}{B:Wd}{K:ay->ak->Prop}{i:Nat}{X Y:Int->Prop}(Z:Ob w y [cW bv,ah af 2,ah af (off:Int),ov,ah af (S.length:Int)])(hs:pM w bv ov S off B)(hd:dT w d v B)
  (hi:i<S.length)(hS:S.length<=100000)(R:aS w0 w)(G:w0.heap.size<=d.block)(hK:∀w',aS w0 w'->K (aZ #[aC (bs (S[i])),aA]) w'):
  aD af (at_ w (y.add 1)) λ I=>aB ((I:Int)==1) (X I) (aD af (at_ w (y.add 4)) λ J=>aB (decide (aq af (i:Int)>=J)) (Y J) (az (at_ w (y.add 3)) λ sP sL sC=>aU sP sL (aq af (aq aL (gi (i:Int) 32))) 1 λ a=>aD af (at_ w a) λ H=>
    au ag 208 #[an (some d),ah af H] w λ r w24=>uq K d (aq aL ((i:Int)-(aq aL ((aq aL (gi (i:Int) 32))*32)))) w24)):=by
 refine⟨_,Z.at 1 rfl,aT rfl ⟨_,Z.at 4 rfl,aT ?_ ?_⟩⟩
 ·rw[decide_eq_false_iff_not,bk (by omega) (by omega)];omega
 ·have c:=hs.gF;obtain⟨po,co,rfl,hco⟩:=aX.ex c;refine⟨_,_,_,Z.at 3 rfl, ?_⟩;have u:gi (i:Int) 32=((i/32:Nat):Int):=rfl;have hq:i/32<(eQ S off).length:=by rw[I0];omega
  rw[u,iY (x:=((i/32:Nat):Int)) (by omega) (by omega),bk (x:=((i/32:Nat):Int)) (by omega) (by omega)];refine Sl.ix (enc:=kM) (z:=1) (λ _=>rfl) (by omega) c (by omega) (by omega) (λ a ou ha=> ?_);have h:=ha 0 _ rfl;simp only[fH,add_zero] at h;have eo:(eQ S off)[i/32]'hq=off+8+eV (S.take (32*(i/32))):=by
   unfold eQ eV;simp
  rw[eo] at h;refine⟨_,h, ?_⟩;obtain⟨rest,q⟩:=hs.sym;obtain⟨r,hr⟩:=I' q (32*(i/32)) (by omega);have U:off+8+eV (S.take (32*(i/32)))<=B.length:=by
   have:0<(B.drop (off+8+eV (S.take (32*(i/32))))).length:=by
    rw[hr,aY];have W:32*(i/32)<S.length:=by omega
    rw[gS W,fG,aY];have:0<(b8 (S[32*(i/32)])).length:=by unfold b8;rw[aY];have:=jB (S[32*(i/32)]).length;omega
    omega
   rw[hY] at this;omega
  refine aF (mT hd U) ?_;rintro _ w2 ⟨dv,E,N,je⟩;rw[hr] at E;have e2:aq aL ((i:Int)-aq aL (((i/32:Nat):Int)*32))=((i-32*(i/32):Nat):Int):=by
   rw[iY (x:=((i/32:Nat):Int)*32) (by omega) (by omega),iY (by omega) (by omega)];omega
  rw[e2];refine ago 0 (S:=S.drop (32*(i/32))) (i:=i-32*(i/32)) (by rw[hY];omega) E (R.new N (λ b o hS=>by rw[hS.1];exact G)) G (by omega) ?_;intro w' Q;have:(S.drop (32*(i/32)))[i-32*(i/32)]'(by rw[hY];omega)=S[i]:=by
   rw[List.getElem_drop];congr 1;omega
  rw[this];exact hK w' Q
theorem S7{w:ak}{bv ov:ay}{S:List Wd}{off i:Nat}{B:Wd}(X:pM w bv ov S off B)(hi:i<S.length)(hS:S.length<=100000){po:OA}{lo co:Nat}(qX:ov=aa po lo co):
  au ag 174 #[aV #[cW bv,ah af 2,ah af (off:Int),aa po lo co,ah af (S.length:Int)],ah aL (i:Int)] w λ r w'=>r=aZ #[aC (bs (S[i])),aA]/\aS w w':=by
 subst qX;obtain⟨p,cc,rfl,hcc⟩:=aX.ex X.eD;have hb:=X.eD;have agp:0<B.length:=by
  obtain⟨rest,hr⟩:=X.sym;have:=CB hr (by rw[aY,pJ];omega);rw[aY,pJ] at this;omega
 have I:∀x,aN (aa p B.length cc)=some x->x<w.heap.size:=by
  intro x hx;cases hp:p with
  |none=>rw[hp] at hx;cases hx
  |some a=>
   rw[hp] at hx;cases hx;exact HW hb agp hp
 apply acg;unfold Qc;dsimp only[a_];have oy:=Ob.new w [cW (aa p B.length cc),ah af 2,ah af (off:Int),aa po lo co,ah af (S.length:Int)] 338;have k1:=bA w (.cells ⟨[cW (aa p B.length cc),ah af 2,ah af (off:Int),aa po lo co,ah af (S.length:Int)]⟩ 338);generalize w.alloc (.cells ⟨[cW (aa p B.length cc),ah af 2,ah af (off:Int),aa po lo co,ah af (S.length:Int)]⟩ 338)=E at oy k1;have Z:=k1.trans (cu E);have c:=oy.aH (cu E);have U:∀{w'},Ob w' ⟨w.heap.size,0,none⟩ [cW (aa p B.length cc),ah af 2,ah af (off:Int),aa po lo co,ah af (S.length:Int)]->at_ w' ⟨w.heap.size,0,none⟩ (cW (aa p B.length cc)):=λ h=>by simpa using h.at 0 rfl
 refine⟨_,U c,_,U c, ?_⟩;show(_:Prop)/\_;have N:∀{w'},aS w w'->pM w' (aa p B.length cc) (aa po lo co) S off B:=λ W=>⟨Sl.aH X.eD W,X.len,X.sym,Sl.aH X.gF W⟩
 have G:∀{w'} {q:ay},aN q=aN (aa p B.length cc)->(∀w',cz w' (aa p B.length cc) B->cz w' q ((B.drop 0).take (B.length-0)))->aS w w'->cz w' q B:=λ H y W=>by
  have:=y _ (Sl.aH hb W);rwa[T2,nJ,fY] at this
 have hzero:(ah af 0)=ah af ((0:Nat):Int):=rfl;refine⟨?_, ?_⟩
 ·refine kU ⟨_,rfl,U c, ?_, ?_⟩
  ·refine mi (lo:=0) (hi:=B.length) (Sl.aH hb Z) (by omega) (by omega) (λ q H y=> ?_);obtain⟨pq,cq,rfl,_⟩:=aX.ex (G H y Z);refine⟨_,_,_,rfl,U c, ?_⟩;have od:=Ob.new E.drew [aa none 0 0,aA] 182;have k4:=bA E.drew (.cells ⟨[aa none 0 0,aA]⟩ 182);refine⟨U (c.aH k4), ?_⟩;unfold aK;refine dB (m:=2) od (Fr.refl _ _) 0 (by simp) (by omega) (aa pq B.length cq) trivial (λ w5 Q J=> ?_);refine dB Q J 1 (by simp) (by omega) aA trivial (λ w6 R K=> ?_);have k46:aS E.drew w6:=Fr.new k4 K (by rintro b o ⟨rfl,_⟩;exact bB _);have u:=Z.trans k46;exact Ja (c.aH k46) (N u) ⟨by simpa using R,G H y u,λ e=>by have h1:E.heap.size<w.heap.size:=I _ (H▸e);have:=k1.size;omega,X.len⟩ hi hS u (by have:=k1.size;exact this) (λ w' W=>⟨rfl,W⟩)
  ·have od:=Ob.new E.drew [aa none 0 0,aA] 182;have k4:=bA E.drew (.cells ⟨[aa none 0 0,aA]⟩ 182);refine⟨U (c.aH k4), ?_⟩;refine mi (lo:=0) (hi:=B.length) (Sl.aH hb (Z.trans k4)) (by omega) (by omega) (λ q H y=> ?_);obtain⟨pq,cq,rfl,_⟩:=aX.ex (G H y Z);refine⟨_,_,_,rfl,U (c.aH k4), ?_⟩;unfold aK;refine dB (m:=2) od (Fr.refl _ _) 0 (by simp) (by omega) (aa pq B.length cq) trivial (λ w5 Q J=> ?_);refine dB Q J 1 (by simp) (by omega) aA trivial (λ w6 R K=> ?_);have k46:aS E.drew w6:=Fr.new k4 K (by rintro b o ⟨rfl,_⟩;exact bB _);have u:=Z.trans k46;exact Ja (c.aH k46) (N u) ⟨by simpa using R,G H y u,λ e=>by have h1:E.heap.size<w.heap.size:=I _ (H▸e);have:=k1.size;omega,X.len⟩ hi hS u (by have:=k1.size;exact this) (λ w' W=>⟨rfl,W⟩)
 ·have od:=Ob.new E.drew [aa none 0 0,aA] 182;have k4:=bA E.drew (.cells ⟨[aa none 0 0,aA]⟩ 182);refine⟨U (c.aH k4),U (c.aH k4), ?_⟩;refine kU ⟨_,rfl,U (c.aH k4), ?_⟩;refine mi (lo:=0) (hi:=B.length) (Sl.aH hb (Z.trans k4)) (by omega) (by omega) (λ q H y=> ?_);obtain⟨pq,cq,rfl,_⟩:=aX.ex (G H y Z);refine⟨_,_,_,rfl,U (c.aH k4), ?_⟩;unfold aK;refine dB (m:=2) od (Fr.refl _ _) 0 (by simp) (by omega) (aa pq B.length cq) trivial (λ w5 Q J=> ?_);refine dB Q J 1 (by simp) (by omega) aA trivial (λ w6 R K=> ?_);have k46:aS E.drew w6:=Fr.new k4 K (by rintro b o ⟨rfl,_⟩;exact bB _);have u:=Z.trans k46;exact Ja (c.aH k46) (N u) ⟨by simpa using R,G H y u,λ e=>by have h1:E.heap.size<w.heap.size:=I _ (H▸e);have:=k1.size;omega,X.len⟩ hi hS u (by have:=k1.size;exact this) (λ w' W=>⟨rfl,W⟩)
section
variable{c:WC}[RF c]{tag:Nat->Nat}{g:WV}{w0:ak}{Z:Nat->Prop}{w w':ak}{W:kd}{s:cF}
theorem WI.S8{N:fz}{args:Array ay}{l':Wd}(h:WI c tag g w0 Z w W s)(E:au ag N args w λ _ w'=>fe w (W.add 12) g.v1 w' l'):
  au ag N args w λ _ w'=>∃tag' v',WI c tag' {g with v1:=v'} w0 Z w' W {s with b1:=l'}/\(∀b,b<w.heap.size->tag' b=tag b)/\Fr (λ b _=>tag b≠0) w w':=by
 refine aF E ?_;rintro _ w' ⟨v',y,u,x⟩;have hd:fL w' c.d c.t s.dig:=h.D.fr u (λ o r=>by
  rcases r with⟨q,_⟩|q
  ·rw[cT] at q;have:=h.tD;rw[q,h.tW] at this;cases this
  ·have:=(h.dS _ q).2;rw[h.tD] at this;cases this) (λ r=>by
  rcases r with⟨q,_⟩|q
  ·rw[cT] at q;have:=h.tT;rw[q,h.tW] at this;cases this
  ·have:=(h.dS _ q).2;rw[h.tT] at this;cases this)
 refine⟨_,v',h.sS y hd (u.mono (λ b o _ r=> .inl r)) x,pN,u.mono (λ b o _ r=> ?_)⟩;rcases r with⟨q,_⟩|q
 ·rw[cT] at q;rw[q,h.tW];decide
 ·rw[(h.dS _ q).2];decide
theorem agq(w:ak):(bw 26 4 #[(0,ah aG 104),(1,ah aG 97),(2,ah aG 115),(3,ah aG 104)]).run ag w= .ok (aa (some ⟨w.heap.size,0,none⟩) 4 4) (w.alloc (.cells ⟨cD [104,97,115,104]⟩ 5)):=by kernel_rfl
theorem agr(A x y:Wd)(h:x.length=y.length):over (A++x) A.length y=A++y:=by
 unfold over;rw[E2,<-List.drop_drop,iz,<-h,List.drop_length,iA]
theorem ags{H:Wd}{S:List Wd}(h:C1 c w0 Z w W s)(hH:H.length=5)(U:s.t0=5)(hF:s.F=H++([97,108,101,110,98,108,101,110]++S.flatMap b8))(hn:s.nsym=S.length)(I:S.length<=100000)(hl:s.F.length<=1073700000)(mq:s.sym=none)(CH:s.ir=[]):
  au ag 179 #[an (some W)] w λ r w'=>r=aA/\∃b1,C1 c w0 Z w' W {s with F:=H++dh (cY S),b1:=b1,sym:=some S,ir:=H++dh (cY S)}:=by
 have lT:s.F.length=13+eV S:=by rw[hF];unfold eV;simp[hH];omega
 have jN:(cY S).length=4+eV S:=by unfold cY eV;rw[aY,cH]
 apply aaS;unfold OY;have hd:=h.drew;refine⟨_,hd.eM,_,hd.pos,_,hd.dP 4 rfl, ?_⟩;have e1:aq aj (aq aj ((s.F.length:Int)-(s.t0:Int))-4)=((cY S).length:Int):=by
  rw[lT,U,dV (x:=((13+eV S:Nat):Int)-((5:Nat):Int)) (by omega) (by omega),dV (by omega) (by omega)];omega
 dsimp only;rw[e1];refine aT (by rw[decide_eq_false_iff_not];omega) ?_;rw[bk (by omega) (by omega)];refine aF (hd.dQ (λ v he=>iZ he)) ?_;intro _ w1 h1;refine aF (h1.dQ (λ v he=>oo (n:=(cY S).length) he (by omega) (by simp))) ?_;intro _ w2 Q;dsimp only at Q;have uZ:=Q.drew;refine⟨_,uZ.eI 0 rfl, ?_⟩;refine aF (uZ.dQ (λ v he=>oo (n:=s.nsym) he (by omega) (by simp[cH]))) ?_;intro _ w3 h3;dsimp only at h3;have oB:=h3.drew;refine⟨_,oB.dP 4 rfl, ?_⟩;obtain⟨apg,g3,q3⟩:=oB;refine aF (om q3.B1) ?_;rintro _ _ ⟨rfl,rfl⟩;obtain⟨p3,c3,S9,uM⟩:=q3.B1.2.2.1.ex;refine⟨p3,_,c3,S9,q3.dP 4 rfl, ?_⟩;have agt:cz w3.drew (aa p3 ([]++be 4 (cY S).length++be 4 s.nsym).length c3) ([]++be 4 (cY S).length++be 4 s.nsym):=by have:=q3.B1.2.2.1.cV;rw[S9] at this;exact this
 have h8:([]++be 4 (cY S).length++be 4 s.nsym).length=8:=by simp[cH]
 refine aF (q3.IF (k:=s.t0) agt (by rw[h8];show _<=s.F.length;omega) (by rw[h8];omega) (by show s.ir.length<=_;rw[CH];simp)) ?_;rintro _ w4 ⟨rfl,q4,_⟩;dsimp only at q4;refine⟨_,rfl,_,λ w=>cE _ w,_,rfl,aT rfl ?_⟩;have eF1:over s.F s.t0 ([]++be 4 (cY S).length++be 4 s.nsym)=H++(be 4 (cY S).length++cY S):=by
  unfold over;rw[h8,hF,U,hn];have e:(H++([97,108,101,110,98,108,101,110]++S.flatMap b8)).take 5=H:=by rw[<-hH,E2]
  have e2:(H++([97,108,101,110,98,108,101,110]++S.flatMap b8)).drop (5+8)=S.flatMap b8:=by
   rw[<-List.drop_drop,<-hH,iz];rfl
  rw[e,e2];unfold cY;simp
 rw[eF1] at q4;generalize Jb:H++(be 4 (cY S).length++cY S)=Fa at q4;have agv:Fa.length=13+eV S:=by rw[<-Jb,aY,aY,cH,hH,jN];omega
 have h4:C1 c w0 Z w4 W _:=⟨_,_,q4⟩;refine⟨_,h4.eM,_,h4.pos, ?_⟩;refine h4.y5 (agq w4) rfl (by show Fa.length+4<=_;omega) (λ E h5=> ?_);dsimp only at h5;refine⟨_,λ w=>cE _ w,_,rfl,aT rfl ?_⟩;refine⟨_,h5.eM, ?_⟩;refine aF sQ ?_;rintro _ E ⟨rfl,rfl⟩;refine⟨_,rfl,_,λ w=>cE _ w,_,rfl,aT rfl ?_⟩;refine⟨_,h5.eM, ?_⟩;obtain⟨agw,g5,q5⟩:=h5;have Jc:=q5.F;dsimp only at Jc;have aph:(Fa++[104,97,115,104]).length=17+eV S:=by rw[aY,agv];simp;omega
 rcases Jc.2.1.2 with⟨_,hz⟩|⟨b,cap,cur,e,R,api,S_,_⟩
 ·omega
 have agx:au ag 232 #[an (some c.f)] E λ r w'=>r=aZ #[an (some ⟨E.heap.size,0,none⟩),aA]/\w'=E.alloc (.cells ⟨[aa (some ⟨b,0,none⟩) (Fa++[104,97,115,104]).length cap]⟩ 405):=by
  apply O1;unfold v232;have:=Jc.v;rw[R] at this;exact⟨_,_,_,this,rfl,rfl⟩
 refine aF agx ?_;rintro _ w6 ⟨rfl,uF⟩;have k6:aS E w6:=by rw[uF];exact bA _ _
 have Ta:Ob w6 ⟨E.heap.size,0,none⟩ [aa (some ⟨b,0,none⟩) (Fa++[104,97,115,104]).length cap]:=by rw[uF];exact Ob.new E _ 405
 have hz6:E.heap.size<w6.heap.size:=Ta.lt (by simp);have q6:=q5.aH k6;refine⟨_,_,rfl,_,rfl,_,rfl,_,λ w=>cE _ w,_,rfl,aT rfl ?_⟩;refine⟨⟨trivial,by have:=q6.C.can 2 (by simp[gO]);rwa[add_add _ _ _ q6.sp] at this⟩, ?_⟩;have q7:=q6.St (sy:=g5.sy) (sf:=some ⟨E.heap.size,0,none⟩) (k:=2) (v:=an (some ⟨E.heap.size,0,none⟩)) mq (by omega) rfl;have lM:=Fr.set w6 (W.add 36) (an (some ⟨E.heap.size,0,none⟩));have hWz:W.block≠E.heap.size:=λ e=>by have:=q5.kt;omega
 have Tb:=Ta.fr lM (λ o _ _ I=>hWz (by have:=I.1;rw[cT] at this;exact this.symm));have Tc:w6.heap.size<=(w6.setCell (W.add 36) (an (some ⟨E.heap.size,0,none⟩))).heap.size:=lM.size;rw[show 34+2=36 from rfl] at q7;generalize (w6.setCell (W.add 36) (an (some ⟨E.heap.size,0,none⟩)))=w7 at q7 Tb Tc;have zk:=q7.aH (cu w7);have Td:=Tb.aH (cu w7);have agA:at_ w7.drew (W.add 36) (an (some ⟨E.heap.size,0,none⟩)):=zk.eI 2 rfl;refine⟨_,agA,_,zk.dP 4 rfl, ?_⟩;have Te:∀{w:ak},Ob w ⟨E.heap.size,0,none⟩ [aa (some ⟨b,0,none⟩) (Fa++[104,97,115,104]).length cap]->au ag 233 #[an (some ⟨E.heap.size,0,none⟩)] w λ r w'=>r=aa (some ⟨b,0,none⟩) (Fa++[104,97,115,104]).length cap/\w'=w:=by
  intro w ho;apply O2;unfold v233;exact⟨_,_,_,by simpa using ho.at 0 rfl,rfl,rfl⟩
 refine aF (Te Td) ?_;rintro _ w8 ⟨rfl,rfl⟩;refine⟨_,_,_,rfl,zk.dP 4 rfl, ?_⟩;have hbF:cz w7.drew (aa (some ⟨b,0,none⟩) (Fa++[104,97,115,104]).length cap) (Fa++[104,97,115,104]):=by have:=zk.F.eD;dsimp only at this;rwa[R] at this
 have et4:aq aj ((s.t0:Int)+4)=((9:Nat):Int):=by rw[U,dV (by omega) (by omega)];rfl
 dsimp only;rw[et4];refine⟨_,λ w=>gV (e:=5) (by kernel_rfl) (z:=1) (by kernel_rfl) _ _ cap 9 Fa.length (by omega) (by omega) _ _ (.inr ⟨_,rfl⟩) (.inr ⟨_,rfl⟩) w,_,_,_,rfl, ?_⟩;have De:=qJ hbF 9 Fa.length (by omega) (by omega);have Rl:((Fa++[104,97,115,104]).drop 9).take (Fa.length-9)=cY S:=by
  have Db:Fa.drop 9=cY S:=by
   rw[<-Jb,<-dx];have:(H++be 4 (cY S).length).length=9:=by rw[aY,cH,hH]
   rw[<-this,iz]
  rw[List.drop_append_of_le_length (by omega),Db,List.take_append_of_le_length (by omega),lD (by omega)]
 rw[Rl] at De;refine aF (sq (w:=w7.drew)) ?_;rintro _ w9 ⟨t9,rfl,apj,apk,agD,k9⟩;have q9:=zk.aH k9;refine⟨_,rfl,q9.dP 4 rfl, ?_⟩;refine aF (Q' agD (Sl.aH De k9) (by omega)) ?_;rintro _ w9 ⟨rfl,rfl⟩;refine⟨_,rfl,q9.dP 4 rfl, ?_⟩;have oz9:=Td.aH k9;have sB:=uz (cY S) (c:=0) (by omega);have Tf:agw E.heap.size=0:=q5.top _ (bB _);have Tg:E.heap.size<w9.heap.size:=dR hz6 (eX Tc (eX (cu w7).size k9.size));refine aF (q9.S8 (iZ q9.B1)) ?_;rintro _ jg ⟨agF,vx,Jd,agG,Th⟩;dsimp only at Jd;have Ti:agF E.heap.size=0:=by rw[agG _ Tg];exact Tf
 have agH:=oz9.fr Th (λ o _ _ I=>I Tf);have agI:=dR Tg Th.size;refine aF (Jd.S8 (yn Jd.B1 sB (by simp))) ?_;rintro _ gA ⟨q,vy,J,agJ,agK⟩;dsimp only at J;have agL:q E.heap.size=0:=by rw[agJ _ agI];exact Ti
 have agM:=agH.fr agK (λ o _ _ I=>I Ti);refine aF (om J.B1) ?_;rintro vy gA ⟨rfl,rfl⟩;obtain⟨pb,cb,lS,hcb⟩:=J.B1.2.2.1.ex;refine⟨pb,_,cb,lS, ?_⟩;have IL:cz gA (aa pb ([]++be 4 (cI 0 (cY S))).length cb) ([]++be 4 (cI 0 (cY S))):=by have:=J.B1.2.2.1.cV;dsimp only at this lS;rw[lS] at this;exact this
 have Df:([]++be 4 (cI 0 (cY S))).length=4:=by simp[cH]
 refine aF (J.IF (k:=Fa.length) IL (by rw[Df];show _<=(Fa++[104,97,115,104]).length;omega) (by rw[Df];omega) (by show s.ir.length<=_;rw[CH];simp)) ?_;rintro _ gn ⟨rfl,nu,Je⟩;dsimp only at nu Je;rw[R] at Je;have tb:q b=5:=(J.fg b (by dsimp only;rw[R];rfl)).2;have agN:=agM.fr Je (λ o _ _ I=>by
  have h1:b=E.heap.size:=iW I.1;rw[h1,agL] at tb;cases tb)
 refine⟨_,rfl,_,λ w=>cE _ w,_,rfl,aT rfl ?_⟩;have Tj:over (Fa++[104,97,115,104]) Fa.length ([]++be 4 (cI 0 (cY S)))=H++dh (cY S):=by
  rw[agr _ _ _ (by rw[Df];rfl),<-Jb];unfold dh;simp
 rw[Tj] at nu;have u:=nu.aH (cu gn);have agO:=agN.aH (cu gn);refine⟨_,u.eI 2 rfl,_,u.dP 4 rfl, ?_⟩;refine aF (Te agO) ?_;rintro _ nt ⟨rfl,rfl⟩;refine⟨_,_,_,rfl,u.dP 4 rfl, ?_⟩;have Tk:(H++dh (cY S)).length=(Fa++[104,97,115,104]).length:=by rw[<-Tj,Iz (by rw[Df];omega)]
 have jU:cz gn.drew (aa (some ⟨b,0,none⟩) (H++dh (cY S)).length cap) (H++dh (cY S)):=by
  have:=u.F.eD;dsimp only at this;rw[R] at this;rw[Tk];exact this
 rw[<-Tk,U,bk (x:=((5:Nat):Int)) (by omega) (by omega)];have agP:(H++dh (cY S)).drop 5=dh (cY S)++[]:=by rw[<-hH,iz,iA]
 refine aF (S1 (off:=5) jU (by omega) agP I) ?_;rintro _ oz ⟨y,ov,rfl,hy,oy,lV,qX,yT⟩;have nr:=u.aH yT;refine⟨_,_,rfl,by have:=nr.dP 4 rfl;rwa[show((5:Nat):Int)=(s.t0:Int) by rw[U]], ?_⟩;refine⟨_,rfl,_,rfl,⟨trivial,by have:=nr.C.can 1 (by simp[gO]);rwa[add_add _ _ _ nr.sp] at this⟩, ?_⟩;have K:=nr.St (sy:=some y) (sf:=some ⟨E.heap.size,0,none⟩) (k:=1) (v:=an (some y)) mq (by omega) rfl;have N:=Fr.set oz (W.add 35) (an (some y));have hyW:y.block≠W.block:=λ e=>by have:=u.kt;omega
 have Jf:=oy.fr N (λ o _ _ I=>hyW (by have:=I.1;rw[cT] at this;exact this));have tW:=nr.tW;have agR:b≠W.block:=λ e=>by rw[e,J.tW] at tb;cases tb
 have Tl:pM (oz.setCell (W.add 35) (an (some y))) (aa (some ⟨b,0,none⟩) (H++dh (cY S)).length cap) ov S 5 (H++dh (cY S)):=
  ⟨aX.away lV.eD N (λ x G o I=>by cases G;exact agR (by have:=I.1;rw[cT] at this;exact this)),lV.len,lV.sym,aX.away lV.gF N (λ x G o I=>by
   have h1:=(qX x G).1;have Q:=I.1;rw[cT] at Q;have:=u.kt;omega)⟩
 rw[show 34+1=35 from rfl] at K;have ty:q y.block=0:=u.top _ hy;have Jg:y.block<(oz.setCell (W.add 35) (an (some y))).heap.size:=Jf.lt (by simp);have Tm:=N.size;generalize (oz.setCell (W.add 35) (an (some y)))=X at K Jf Tl Jg Tm;refine⟨_,λ w=>cE _ w,_,rfl,aT rfl ⟨rfl,[]++be 4 (cI 0 (cY S)), ?_⟩⟩
 let tag':Nat->Nat:=λ x=>if q x≠0 then q x else if(x=y.block\/aN ov=some x)/\x<X.heap.size then 16 else 0
 have t1:∀x,q x≠0->tag' x=q x:=λ x G=>by show(if q x≠0 then _ else _)=_;rw[if_pos G]
 have t2:∀x,q x=0->(x=y.block\/aN ov=some x)->x<X.heap.size->tag' x=16:=λ x G h1 Q=>by
  show(if q x≠0 then _ else _)=_;rw[if_neg (by simp[G]),if_pos ⟨h1,Q⟩]
 have Tn:∀x,gn.drew.heap.size<=x->¬Z x:=λ x G hz=>by have:=u.eL x hz;have:=u.kp.size;omega
 dsimp only at K;have To:WI c tag' {g5 with v1:=vy,sy:=some y,sf:=some ⟨E.heap.size,0,none⟩} w0 Z X W {s with F:=H++dh (cY S),b1:=[]++be 4 (cI 0 (cY S)),sym:=some S,ir:=H++dh (cY S)}:=by
  refine K.afi (S':=S) (B:=H++dh (cY S)) (λ x _ G=>t1 x G) (λ x G hz=> ?_) (λ x G=> ?_) ?_ (bB _)
  ·by_cases h0:q x≠0
   ·exact K.own x h0 hz
   ·have h1:(x=y.block\/aN ov=some x)/\x<X.heap.size:=by
     by_cases Q:(x=y.block\/aN ov=some x)/\x<X.heap.size
     ·exact Q
     ·exfalso;apply G;show(if q x≠0 then _ else _)=_;rw[if_neg h0,if_neg Q]
    rcases h1.1 with Q|Q
    ·exact Tn x (by rw[Q];exact hy) hz
    ·exact Tn x (qX x Q).1 hz
  ·have h0:q x=0:=K.top x G;show(if q x≠0 then _ else _)=_;rw[if_neg (by simp[h0]),if_neg (by omega)]
  ·refine⟨y,b,_,cap,ov,rfl,⟨_,rfl⟩,Jf,Tl,t2 _ ty (.inl rfl) Jg,Jg, ?_, ?_, ?_⟩
   ·intro x G;have uQ:x<X.heap.size:=dR (qX x G).2 Tm;exact⟨uQ,t2 x (u.top x (qX x G).1) (.inr G) uQ⟩
   ·have:=(K.fg b (by dsimp only;rw[R];rfl)).1;exact this
   ·rw[t1 b (by rw[tb];decide)];exact tb
 rw[U] at To;exact⟨tag',_,To⟩
end
end Go.Proofs
namespace Go.Proofs
open Go Go.V
theorem d139(p:ay)(w:ak):CallsD ag 139 #[p] .returning w λ e u w'=>e= .returned .nilIface/\u= .returning/\w'=w:=by
 refine callsD_of_wpS Tryz.func139 (c:=bd Tryz.f139) (by kernel_rfl) λ q cs x=> ?_
 have h:Tryz.f139.ntmps=3:=by kernel_rfl
 have r:Tryz.f139.results=#[.tmp 2]:=by kernel_rfl
 unfold bd
 conv=>arg 2;unfold Tryz.f139
 dsimp only[Option.getD_some];apply wpS_seq;apply wpS_region;simp[wpOpsS,go_sem,h,Exit.thenS];apply wpS_seq;apply wpS_region;simp[wpOpsS,go_sem,h,Exit.thenS];refine wpS_of_wp (wp_ret ?_);cases q;simp_all[bodyPostS,results]
theorem d242(p:kd)(w:ak)(h:w.cell? p=some (.pointer none)):CallsD ag 242 #[.pointer (some p)] .returning w λ e u w'=>e= .returned (.tuple #[])/\u= .returning/\w'=w:=by
 refine callsD_of_wpS Tryz.func242 (c:=bd Tryz.f242) (by kernel_rfl) λ q cs y=> ?_
 have r:Tryz.f242.ntmps=5:=by kernel_rfl
 have x:Tryz.f242.results=#[]:=by kernel_rfl
 unfold bd
 conv=>arg 2;unfold Tryz.f242
 dsimp only[Option.getD_some];apply wpS_seq;apply wpS_region;simp[wpOpsS,go_sem,r,h,Exit.thenS];refine wpS_cond (t:=false) (by simp[Act.eval,Array.replicate]) ?_;simp only[Bool.false_eq_true,if_false];refine wpS_of_wp (wp_skip ?_);cases q;simp_all[bodyPostS,results]
theorem d87(p:kd)(w:ak)(b:Bool)(h:w.cell? p=some (.bool b))(E:w.frozen? p=false):CallsD ag 87 #[.pointer (some p)] .returning w λ e u w'=>e= .returned (.tuple #[])/\u= .returning/\w'=w.setCell p (.bool true):=by
 refine callsD_of_wpS Tryz.func87 (c:=bd Tryz.f87) (by kernel_rfl) λ q cs y=> ?_
 have x:Tryz.f87.ntmps=3:=by kernel_rfl
 have G:Tryz.f87.results=#[]:=by kernel_rfl
 unfold bd
 conv=>arg 2;unfold Tryz.f87
 dsimp only[Option.getD_some];apply wpS_region;have r:∀w,(binOp BinOp.eql 20 aA aA).run ag w= .ok (.bool true) w:=λ w=>by kernel_rfl
 simp[wpOpsS,go_sem,recoverD,y,x,h,E,r,Exit.thenS];cases q;simp_all[bodyPostS,results]
theorem Jh{p:ay}{w:ak}{N:ak->Prop}(h:N w):gx ag (.func 139) #[p] #[] w N:=
 ⟨139,#[p],by kernel_rfl,(d139 p w).mono (by rintro e u w' ⟨rfl,rfl,rfl⟩;exact⟨⟨_,rfl⟩,rfl,h⟩)⟩
theorem agS{p:kd}{w:ak}{N:ak->Prop}(c:at_ w p (.pointer none))(h:N w):gx ag (.func 242) #[] #[.pointer (some p)] w N:=
 ⟨242,#[.pointer (some p)],by kernel_rfl,(d242 p w c).mono (by rintro e u w' ⟨rfl,rfl,rfl⟩;exact⟨⟨_,rfl⟩,rfl,h⟩)⟩
theorem agT{p:kd}{w:ak}{b:Bool}{N:ak->Prop}(c:at_ w p (.bool b))(q:can w p)(h:N (w.setCell p (.bool true))):gx ag (.func 87) #[] #[.pointer (some p)] w N:=
 ⟨87,#[.pointer (some p)],by kernel_rfl,(d87 p w b c q.2).mono (by rintro e u w' ⟨rfl,rfl,rfl⟩;exact⟨⟨_,rfl⟩,rfl,h⟩)⟩
end Go.Proofs
namespace Go.Proofs
open Go Go.V
attribute [local irreducible]cI be
theorem Ji{w:ak}{h q a b:ay}{ty:cK}{K:Nat->ak->Prop}(R:gj a)(U:gj b)(X:∀w',Ob w' ⟨w.heap.size,0,none⟩ [a,b]->aS w w'->w.heap.size<w'.heap.size->K w.heap.size w'):
  a_ w (.cells #[h,q] ty) λ r N=>wr N (aw ⟨r,0,none⟩ 0) a λ J=>wr J (aw ⟨r,0,none⟩ 1) b λ w4=>K r w4:=by
 have G:=Ob.new w [h,q] ty;have x:=bA w (.cells ⟨[h,q]⟩ ty);have y:w.heap.size<(w.alloc (.cells ⟨[h,q]⟩ ty)).heap.size:=G.lt (by simp);dsimp only[a_];change wr (w.alloc (.cells ⟨[h,q]⟩ ty)) _ _ _;generalize w.alloc (.cells ⟨[h,q]⟩ ty)=w1 at G x y;refine dB (m:=2) G (Fr.refl _ _) 0 (by simp) (by omega) _ R (λ N H E=> ?_);refine dB H E 1 (by simp) (by omega) _ U (λ J I u=> ?_);refine X J (by simpa using I) (Fr.new x u (λ b o Q=>by rw[Q.1];exact bB _)) (dR y u.size)
section
variable{c:WC}{tag:Nat->Nat}{g:WV}{w0:ak}{Z:Nat->Prop}{w w' w1:ak}{W:kd}{s:cF}{t1:Nat->Nat}
def T5(k:Nat):Prop:=k=1\/k=2\/k=4\/k=5\/k=10
def WJ(c:WC)(w1:ak)(t1:Nat->Nat)(w0:ak)(Z:Nat->Prop)(w:ak)(W:kd)(s:cF):Prop:=
 ∃tag g,WI c tag g w0 Z w W s/\(∀b,b<w1.heap.size->tag b=t1 b)/\Fr (λ b _=>T5 (t1 b)) w1 w
theorem WI.j(h:WI c tag g w0 Z w W s):WJ c w tag w0 Z w W s:=⟨tag,g,h,λ _ _=>rfl,Fr.refl _ _⟩
theorem WJ.inv(h:WJ c w1 t1 w0 Z w W s):C1 c w0 Z w W s:=by
 obtain⟨tag,g,q,_⟩:=h;exact⟨tag,g,q⟩
theorem WJ.fr(h:WJ c w1 t1 w0 Z w W s):Fr (λ b _=>T5 (t1 b)) w1 w:=by
 obtain⟨_,_,_,_,q⟩:=h;exact q
theorem WJ.aH(h:WJ c w1 t1 w0 Z w W s)(r:aS w w'):WJ c w1 t1 w0 Z w' W s:=by
 obtain⟨tag,g,q,x,u⟩:=h;exact⟨tag,g,q.aH r,x,u.aH r⟩
theorem WJ.drew(h:WJ c w1 t1 w0 Z w W s):WJ c w1 t1 w0 Z w.drew W s:=h.aH (cu w)
theorem WJ.dQ{N:fz}{args:Array ay}{l':Wd}(h:WJ c w1 t1 w0 Z w W s)(H:∀v,dA w (W.add 12) v s.b1->au ag N args w λ _ w'=>fe w (W.add 12) v w' l'):
  au ag N args w λ _ w'=>WJ c w1 t1 w0 Z w' W {s with b1:=l'}:=by
 obtain⟨tag,g,h,E,x⟩:=h;refine aF (H g.v1 h.B1) ?_;rintro _ w' ⟨v',G,y,u⟩;have hd:fL w' c.d c.t s.dig:=h.D.fr y (λ o r=>by
  rcases r with⟨q,_⟩|q
  ·rw[cT] at q;have:=h.tD;rw[q,h.tW] at this;cases this
  ·have:=(h.dS _ q).2;rw[h.tD] at this;cases this) (λ r=>by
  rcases r with⟨q,_⟩|q
  ·rw[cT] at q;have:=h.tT;rw[q,h.tW] at this;cases this
  ·have:=(h.dS _ q).2;rw[h.tT] at this;cases this)
 refine⟨_,_,h.sS G hd (y.mono (λ b o _ r=> .inl r)) u,λ b u=>by rw[pN b (dR u x.size)];exact E b u,x.step y (λ b o r u=> ?_)⟩;rw[<-E b u];rcases r with⟨q,_⟩|q
 ·rw[cT] at q;rw[q,h.tW];exact .inl rfl
 ·rw[(h.dS _ q).2];exact .inr (.inl rfl)
theorem WJ.pQ(h:WJ c w1 t1 w0 Z w W s):au ag 190 #[an (some (W.add 12)),qQ c] w λ _ w'=>WJ c w1 t1 w0 Z w' W {s with dig:=s.dig++s.b1}:=by
 obtain⟨tag,g,h,u,q⟩:=h;refine aF (HU h.B1 h.D) ?_;rintro _ w' ⟨hd,r⟩;exact⟨_,_,h.dig hd r,u,q.step r (λ b o x y=>by rw[<-u b y,x.1,h.tD];exact .inr (.inr (.inr (.inr rfl))))⟩
theorem WJ.ld [RF c]{K:ay->ak->Prop}(h:WJ c w1 t1 w0 Z w W s)(hm:s.F.length+s.b1.length<=1073741824)(hk:∀w',WJ c w1 t1 w0 Z w' W {s with F:=s.F++s.b1}->K aA w'):
  au ag 86 #[an (some (W.add 12))] w λ r U=>az (ax r) λ sP sL sC=>aP ag (bw 299 1 #[(0,aa sP sL sC)]) U λ r w3=>az (ax r) λ G E y=>
   au ag 127 #[an (some W),aa G E y] w3 λ r w4=>aM (ax r) λ v=>K v w4:=by
 obtain⟨tag,g,h,R,u⟩:=h;refine aF (om h.B1) ?_;rintro _ w ⟨rfl,rfl⟩;obtain⟨p,cc,Q,hc⟩:=h.B1.2.2.1.ex;refine⟨p,_,cc,Q, ?_⟩;refine⟨_,_,yW _ _ _ w,_,_,_,rfl, ?_⟩;have q:=bA w (.cells ⟨[aa p s.b1.length cc]⟩ 26);have N:cz w (aa p s.b1.length cc) s.b1:=by rw[<-Q];exact h.B1.2.2.1.cV
 have I:=yX N (away:=λ b=>tag b≠4/\tag b≠5) ⟨by rw[h.top _ (bB _)];decide,by rw[h.top _ (bB _)];decide⟩ (λ x I=>by rw[(h.dS x (by rw[Q];exact I)).2];exact⟨by decide,by decide⟩);have h':=h.aH q;generalize (w.alloc (.cells ⟨[aa p s.b1.length cc]⟩ 26))=U at h' q I;refine aF (h'.CY I (by simpa using hm) (by simp)) ?_;rintro _ w' ⟨rfl,v',h',hf⟩;have e:[s.b1].flatten=s.b1:=by simp
 rw[e] at h';refine⟨_,rfl,hk w' ⟨_,_,h',λ b H=> ?_,(u.aH q).step hf (λ b o X H=> ?_)⟩⟩
 ·rw[pN b (dR H (u.aH q).size)];exact R b H
 ·rw[<-R b H];rcases X with⟨J,_⟩|⟨J,_⟩
  ·rw[J,h.tF];exact .inr (.inr (.inl rfl))
  ·rw[(h.fg b J).2];exact .inr (.inr (.inr (.inl rfl)))
theorem WI.loc{S:Nat->Nat->Prop}(h:WI c tag g w0 Z w W s)(r:Fr S w w')(E:∀b o,S b o->tag b=0/\¬Z b):WI c tag g w0 Z w' W s:=by
 have u:fP tag W (λ k=>k=0) 0 0 (0) S:=by
  intro b o h;exact .inr ⟨(E b o h).1,λ _=>dO _⟩
 have q:∀b,b<w.heap.size->tag b=tag b:=λ _ _=>rfl
 have y:=r.size;exact⟨h.eL,h.kp.step r (λ b o y _=>(E b o y).2),h.own,λ b G=>h.top b (eX y G),h.sp,by rw[q _ h.kt];exact h.tW,h.pA r u (by decide) (.inr (by omega)),h.nk r u (by decide) (by decide) (.inl (by omega)),h.dS.step y q,h.nq r u (by decide) (by decide) (.inl (by omega)),h.eT.step y q,h.pC r u (by decide) (.inl (by omega)),h.pF r u (by decide) (by decide),by rw[q _ h.F.lt];exact h.tF,h.fg.step y q,h.pP r u (by decide) (by decide),by rw[q _ h.P.lt];exact h.tP,h.fV.step y q,h.pO r u (by decide) (by decide),by rw[q _ h.O.lt];exact h.tO,h.fh.step y q,h.pD r u (by decide) (by decide),by rw[q _ (h.D.1.lt (by simp))];exact h.tD,by rw[q _ (iH h.D.2.1)];exact h.tT,h.kY r u (by decide),by rw[q _ h.M1.fT];exact h.f_,h.kZ r u (by decide),by rw[q _ h.M2.fT];exact h.fO,h.pL r u (by decide) (by decide) q,k_ h.S ⟨rfl,rfl⟩ ⟨rfl,rfl⟩ h.tW r u (by decide) (λ x=>by cases x) q,h.fW,h.gz,h.gP,h.E1 r u q (by decide) (by decide)⟩
theorem WJ.nz(h:WJ c w1 t1 w0 Z w W s){b:Nat}(u:w.heap.size<=b):¬Z b:=by
 obtain⟨_,_,q,_⟩:=h;intro r;have:=q.eL b r;have:=q.kp.size;omega
theorem WJ.again{S:Nat->Nat->Prop}(h:WJ c w1 t1 w0 Z w W s)(G:Fr S w w')(E:∀b o,S b o->b<w1.heap.size/\t1 b=0/\¬Z b):
  ∃t2,WJ c w' t2 w0 Z w' W s/\(∀b,b<w1.heap.size->t2 b=t1 b)/\(∀b,w.heap.size<=b->t2 b=0):=by
 obtain⟨tag,g,q,r,H⟩:=h;refine⟨tag,(q.loc G (λ b o I=> ?_)).j,r,q.top⟩;obtain⟨u,x,y⟩:=E b o I;exact⟨by rw[r b u];exact x,y⟩
theorem WJ.back{E:ak}{t2:Nat->Nat}(h:WJ c E t2 w0 Z w W s)(x:Fr (λ b _=>T5 (t1 b)) w1 E)(y:∀b,b<w1.heap.size->t2 b=t1 b):WJ c w1 t1 w0 Z w W s:=by
 obtain⟨tag,g,q,u,G⟩:=h;refine⟨tag,g,q,λ b r=>by rw[u b (dR r x.size)];exact y b r,x.step G (λ b o H r=> ?_)⟩;rw[<-y b r];exact H
instance{v:Option ay}[h:RF c]:RF {c with ll:=v}:=⟨h.no⟩
instance{v:Option ay}[h:RL c]:RL {c with lf:=v}:=⟨h.no⟩
instance{v:Option ay}[h:RO c]:RO {c with lf:=v}:=⟨h.no⟩
instance{v:Option ay}[h:RO c]:RO {c with ll:=v}:=⟨h.no⟩
instance{v:Nat->Prop}[h:RL c]:RL {c with Y:=v}:=⟨h.no⟩
instance{v:Nat->Prop}[h:RF c]:RF {c with Y:=v}:=⟨h.no⟩
theorem C1.agU(h:C1 c w0 Z w W s):∃tag g,WI {c with ll:=some g.kN} tag g w0 Z w W s:=by
 obtain⟨tag,g,q⟩:=h;exact⟨tag,g,q.eL,q.kp,q.own,q.top,q.sp,q.tW,q.A,q.B1,q.dS,q.B2,q.eT,q.C,q.F,q.tF,q.fg,q.P,q.tP,q.fV,q.O,q.tO,q.fh,q.D,q.tD,q.tT,q.M1,q.f_,q.M2,q.fO,q.L,q.S,q.fW,q.gz,by rintro _ ⟨rfl⟩;rfl,q.ys⟩
theorem C1.agV [RL c]{v:Option ay}(h:C1 {c with ll:=v} w0 Z w W s):C1 c w0 Z w W s:=by
 obtain⟨tag,g,q⟩:=h;exact⟨tag,g,q.eL,q.kp,q.own,q.top,q.sp,q.tW,q.A,q.B1,q.dS,q.B2,q.eT,q.C,q.F,q.tF,q.fg,q.P,q.tP,q.fV,q.O,q.tO,q.fh,q.D,q.tD,q.tT,q.M1,q.f_,q.M2,q.fO,q.L,q.S,q.fW,q.gz,λ v r=>(by rw[RL.no] at r;cases r),q.ys⟩
theorem C1.Jj(h:C1 c w0 Z w W s):∃tag g,WI {c with lf:=some g.fv} tag g w0 Z w W s:=by
 obtain⟨tag,g,q⟩:=h;exact⟨tag,g,q.eL,q.kp,q.own,q.top,q.sp,q.tW,q.A,q.B1,q.dS,q.B2,q.eT,q.C,q.F,q.tF,q.fg,q.P,q.tP,q.fV,q.O,q.tO,q.fh,q.D,q.tD,q.tT,q.M1,q.f_,q.M2,q.fO,q.L,q.S,q.fW,by rintro _ ⟨rfl⟩;rfl,q.gP,q.ys⟩
theorem C1.Jk [RF c]{v:Option ay}(h:C1 {c with lf:=v} w0 Z w W s):C1 c w0 Z w W s:=by
 obtain⟨tag,g,q⟩:=h;exact⟨tag,g,q.eL,q.kp,q.own,q.top,q.sp,q.tW,q.A,q.B1,q.dS,q.B2,q.eT,q.C,q.F,q.tF,q.fg,q.P,q.tP,q.fV,q.O,q.tO,q.fh,q.D,q.tD,q.tT,q.M1,q.f_,q.M2,q.fO,q.L,q.S,q.fW,λ v r=>(by rw[RF.no] at r;cases r),q.gP,q.ys⟩
end
section
variable{c:WC}{tag:Nat->Nat}{g:WV}{w0:ak}{Z:Nat->Prop}{w w' w1:ak}{W:kd}{s:cF}{t1:Nat->Nat}
def lk(x:Wd×Nat):Wd:=bm 1++(b8 x.1++bm x.2)
theorem agW(x:Wd×Nat)(u:x.1.length<=1000)(y:x.2<18446744073709551616):(lk x).length<=1030:=by
 have h:=fw 10 1 (by omega) (by omega);have q:=fw 10 x.1.length (by omega) (by omega);have r:=fw 10 x.2 (by omega) (by omega);unfold lk b8;simp only[aY];omega
theorem Tp:∀(l:List (Wd×Nat)),(∀x∈l,x.1.length<=1000/\x.2<18446744073709551616)->(l.flatMap lk).length<=1030*l.length:=by
 intro l;induction l with
 |nil=>intro _;simp
 |cons a l r=>
  intro h;have:=r (λ x q=>h x (by simp[q]));have:=agW a (h a (by simp)).1 (h a (by simp)).2;rw[fG,aY,dH];omega
theorem agX [RF c][RL c](h:C1 c w0 Z w W s)(hF:s.F.length<=536870912)(hn:s.li.length<=1000)(uW:∀x∈s.li,x.1.length<=1000/\x.2<18446744073709551616):
  au ag 183 #[an (some W)] w λ r w'=>r=aA/\∃X b1 dig,X.length<=100+1030*s.li.length/\C1 c w0 Z w' W {s with F:=s.F++X,b1:=b1,dig:=dig}:=by
 have mq:s.ir.length<=s.F.length:=by
  obtain⟨_,_,q⟩:=h;exact q.fW
 have H:∀k,((s.li.take k).flatMap lk).length<=1030*1000:=λ k=>by
  have:=Tp (s.li.take k) (λ x y=>uW x (List.mem_of_mem_take y));have h2:(s.li.take k).length<=1000:=by rw[fS];omega
  omega
 generalize hA:s.F=A at*;apply abe;unfold v183;refine⟨_,h.eM,_,by have:=h.pos;rwa[hA] at this, ?_⟩;refine h.y5 (IE w) rfl (by show s.F.length+4<=_;rw[hA];omega) (λ w1 h1=> ?_);rw[hA] at h1;refine⟨_,λ w=>cE _ w,_,rfl,aT rfl ?_⟩;refine⟨_,h1.eI 10 rfl,h1.reset (λ w2 h2=> ?_)⟩;dsimp only at h2;refine aF (h2.dQ (λ v G=>iZ G)) ?_;intro _ w3 h3;dsimp only at h3;have oB:=h3.drew;obtain⟨tag,g,q3⟩:=oB.agU;obtain⟨u,iS,sW,K⟩:=q3.L.ex
 replace iS:u.length=s.li.length:=iS
 replace K:∀i (h1:i<u.length) (h2:i<s.li.length),u[i].2=(s.li[i]).2/\dK w3.drew (aa u[i].1.1 u[i].1.2.1 u[i].1.2.2) [(s.li[i]).1]/\TG w3.drew tag (aa u[i].1.1 u[i].1.2.1 u[i].1.2.2) 15:=K
 obtain⟨pl,cl,Dg,jW⟩:=sW.ex;rw[iS] at Dg;have I:∀{w:ak} {s':cF},C1 {c with ll:=some g.kN} w0 Z w W s'->at_ w (W.add 39) (aa pl s.li.length cl):=by
  rintro w s'⟨tag',g',q⟩;have:=q.eI 5 rfl;rwa[q.gP _ rfl,Dg] at this
 have j3:=q3.j;refine⟨_,_,_,I j3.inv, ?_⟩;refine aF (j3.dQ (λ v G=>oo (n:=s.li.length) G (by omega) (by simp))) ?_;intro _ w4 j4;dsimp only at j4;refine⟨by simpa using I j4.inv, ?_⟩;have Tq:=j4.drew;refine⟨_,Tq.inv.eI 10 rfl, ?_⟩;refine aF Tq.pQ ?_;intro _ w5 j5;dsimp only at j5;refine j5.ld (by show(A++[97,108,101,110]).length+([]++be 4 s.li.length).length<=_;simp[cH];omega) (λ w6 j6=> ?_);dsimp only at j6;refine⟨_,λ w=>cE _ w,_,rfl,aT rfl ?_⟩;refine⟨_,_,_,I j6.inv, ?_⟩;have e6:A++[97,108,101,110]++([]++be 4 s.li.length)=A++([97,108,101,110]++(be 4 s.li.length++(s.li.take 0).flatMap lk)):=by simp
 rw[e6] at j6;have agY:Sl sR 2 w3.drew (aa pl s.li.length cl) u:=by
  have:=sW.cV;rw[Dg] at this;exact this
 have jN:∀x,aN (aa pl s.li.length cl)=some x->x<w3.drew.heap.size/\tag x=14:=λ x y=>q3.L.tg x (by rw[Dg];exact y)
 refine abd (λ W' sp p' L' C' R U w'=>W=W'/\sp=(A.length:Int)/\pl=p'/\L'=s.li.length/\cl=C'/\R=(s.li.length:Int)/\∃k:Nat,U=(k:Int)/\k<=s.li.length/\∃b1 dig,WJ {c with ll:=some g.kN} w3.drew tag w0 Z w' W {s with F:=A++([97,108,101,110]++(be 4 s.li.length++(s.li.take k).flatMap lk)),b1:=b1,dig:=dig}) (λ _ _ _ _ _ R U _=>(R-U).toNat) ?_ ?_
 ·exact⟨rfl,rfl,rfl,rfl,rfl,rfl,0,rfl,by omega,_,_,j6⟩
 ·rintro _ _ _ _ _ _ _ w7 ⟨rfl,rfl,rfl,rfl,rfl,rfl,k,rfl,hk,b1,dig,j7⟩;unfold GJ;refine bn (λ fj=> ?_) (λ fj=> ?_)
  ·have gT:k<s.li.length:=by simp at fj;omega
   have Sj:k<u.length:=by omega
   have agZ:Sl sR 2 w7 (aa pl s.li.length cl) u:=aX.away agY j7.fr (λ x y o E=>by rw[(jN x y).2] at E;simp[T5] at E);refine Sl.ix (z:=2) (λ _=>rfl) (by omega) agZ (by omega) (by omega) (λ a hs ha=> ?_);obtain⟨lN,mj,J⟩:=K k Sj gT;have lj:=ha 0 _ rfl;have Dh:=ha 1 _ rfl;simp only[fH,add_zero] at lj Dh;generalize u[k]=rk at lj Dh lN mj J;obtain⟨⟨kp,kl,kc⟩,off⟩:=rk;dsimp only at lj Dh lN mj J;have qN:kl=1:=by
    obtain⟨_,_,e,_⟩:=aX.ex mj;injection e
   subst qN;subst lN;have y:=uW (s.li[k]) (by simp);refine⟨_,_,_,lj,_,Dh, ?_⟩;refine Ji trivial trivial (λ w8 o8 k8 Tr=> ?_);obtain⟨t2,j8,i_,Di⟩:=j7.again k8 (λ _ _ x=>x.elim);have H6:t2 w7.heap.size=0:=Di _ (bB _);have SY:dK w8 (aa kp 1 kc) [(s.li[k]).1]:=aX.aH (aX.away mj j7.fr (λ x y o E=>by rw[(J x y).2] at E;simp[T5] at E)) k8;have yF:∀x,aN (aa kp 1 kc)=some x->t2 x=15:=λ x y=>by rw[i_ x (J x y).1];exact(J x y).2
   have ho:∀{w:ak} {s':cF},WJ {c with ll:=some g.kN} w8 t2 w0 Z w W s'->Ob w ⟨w7.heap.size,0,none⟩ [aa kp 1 kc,ah aj ((s.li[k]).2:Int)]:=
    λ j=>o8.fr j.fr (λ o _ _ E=>by rw[H6] at E;simp[T5] at E)
   refine aF (j8.dQ (λ v G=>iZ G)) ?_;intro _ w9 j9;dsimp only at j9;have Ts:=j9.drew;refine⟨_,_,_,by simpa using(ho Ts).at 0 rfl, ?_⟩;refine aF (Ts.dQ (λ v G=>oj (n:=1) G (by omega) (by simp))) ?_;intro _ jg Dj;dsimp only at Dj;refine⟨by simpa using(ho Dj).at 0 rfl, ?_⟩;refine⟨_,_,_,by simpa using(ho Dj).at 0 rfl, ?_⟩;have yL:(bm 1).length<=10:=fw 10 1 (by omega) (by omega);have hux:(bm (s.li[k]).1.length).length<=10:=fw 10 _ (by omega) (by omega);have hF7:(A++([97,108,101,110]++(be 4 s.li.length++(s.li.take k).flatMap lk))).length<=540000000:=by
    have:=H k;simp only[aY,cH,dH,List.length_nil];omega
   generalize sX:A++([97,108,101,110]++(be 4 s.li.length++(s.li.take k).flatMap lk))=Fk at*;refine abc (λ W' sp e' p' L' C' R U ku kl' kc' t85 t86 w'=>W=W'/\sp=(A.length:Int)/\e'=⟨w7.heap.size,0,none⟩/\pl=p'/\L'=s.li.length/\cl=C'/\R=(s.li.length:Int)/\U=(k:Int)/\kp=ku/\kl'=1/\kc=kc'/\t85=1/\∃i:Nat,t86=(i:Int)/\i<=1/\WJ {c with ll:=some g.kN} w8 t2 w0 Z w' W {s with F:=Fk,b1:=bm 1++([(s.li[k]).1].take i).flatMap b8,dig:=dig}) (λ _ _ _ _ _ _ _ _ _ _ _ t85 t86 _=>(t85-t86).toNat) ?_ ?_
   ·refine⟨rfl,rfl,rfl,rfl,rfl,rfl,rfl,rfl,rfl,rfl,rfl,rfl,0,rfl,by omega, ?_⟩;have e:[]++bm 1=bm 1++([(s.li[k]).1].take 0).flatMap b8:=by simp
    rw[<-e];exact Dj
   ·rintro _ _ _ _ _ _ _ _ _ _ _ _ _ gA ⟨rfl,rfl,rfl,rfl,rfl,rfl,rfl,rfl,rfl,rfl,rfl,rfl,i,rfl,hi,Jl⟩;unfold GH;refine bn (λ kL=> ?_) (λ kL=> ?_)
    ·have sY:i=0:=by simp at kL;omega
     subst sY;have ag2:dK gA (aa kp 1 kc) [(s.li[k]).1]:=aX.away SY Jl.fr (λ x y o E=>by rw[yF x y] at E;simp[T5] at E);refine Sl.ix (z:=1) (λ _=>rfl) (by omega) ag2 (by omega) (by simp) (λ b yv hb=> ?_);have jE:=hb 0 _ rfl;simp only[add_zero] at jE;refine⟨_,jE, ?_⟩;refine aF (Jl.dQ (λ v G=>ux G (by simp[fB];omega))) ?_;intro _ gn Q;dsimp only at Q;refine⟨⟨rfl,rfl,rfl,rfl,rfl,rfl,rfl,rfl,rfl,rfl,rfl,rfl,1,by decide,by omega, ?_⟩,by decide⟩;have e:bm 1++([(s.li[k]).1].take 0).flatMap b8++b8 (bs [(s.li[k]).1][(0:Int).toNat]).data.toList=bm 1++([(s.li[k]).1].take 1).flatMap b8:=by simp[bs]
     rw[<-e];exact Q
    ·have sY:i=1:=by simp at kL;omega
     subst sY;have N:=Jl.drew;have e:bm 1++([(s.li[k]).1].take 1).flatMap b8=bm 1++b8 (s.li[k]).1:=by simp
     rw[e] at N;refine⟨_,(ho N).at 1 rfl, ?_⟩;refine aF (N.dQ (λ v G=>mf (n:=(s.li[k]).2) G y.2 (by simp[b8];omega))) ?_;intro _ gn Q;dsimp only at Q;have Tt:=Q.drew;refine⟨_,Tt.inv.eI 10 rfl, ?_⟩;refine aF Tt.pQ ?_;intro _ nt Tv;dsimp only at Tv;have uS:(bm (s.li[k]).2).length<=10:=fw 10 _ (by omega) (by omega);refine Tv.ld (by show Fk.length+(bm 1++b8 (s.li[k]).1++bm (s.li[k]).2).length<=_;simp[b8];omega) (λ oz Jm=> ?_);dsimp only at Jm;refine⟨_,λ w=>cE _ w,_,rfl,aT rfl ?_⟩;rw[show aq af ((k:Int)+1)=((k+1:Nat):Int) by rw[bk (by omega) (by omega)];omega];have e2:Fk++(bm 1++b8 (s.li[k]).1++bm (s.li[k]).2)=A++([97,108,101,110]++(be 4 s.li.length++(s.li.take (k+1)).flatMap lk)):=by
      rw[<-sX,<-l7 gT,jK];simp[lk]
     rw[e2] at Jm;have jb:=Jm.back (j7.aH k8).fr (λ b hb=>i_ b (dR hb (bB _)));exact⟨⟨rfl,rfl,rfl,rfl,rfl,rfl,k+1,rfl,by omega,_,_,jb⟩,by omega⟩
  ·have gT:k=s.li.length:=by simp at fj;omega
   have h7:C1 c w0 Z w7 W _:=j7.inv.agV;have hB:=H k;have e3:=Sz (k:=A.length) (A:=A) (B:=be 4 s.li.length++(s.li.take k).flatMap lk) h7 rfl rfl (by show(A++([97,108,101,110]++(be 4 s.li.length++(s.li.take k).flatMap lk))).length<=_;simp only[aY,cH,dH,List.length_nil];omega) mq;refine aF e3 ?_;rintro _ w8 ⟨rfl,Tw,h8⟩;dsimp only at h8;refine⟨_,rfl,_,λ w=>cE _ w,_,rfl,aT rfl ?_⟩;refine⟨rfl,be 4 (be 4 s.li.length++(s.li.take k).flatMap lk).length++((be 4 s.li.length++(s.li.take k).flatMap lk)++be 4 (cI 0 dig)),Tw,dig, ?_,h8⟩;have:=Tp (s.li.take k) (λ x y=>uW x (List.mem_of_mem_take y));have h2:(s.li.take k).length<=s.li.length:=by rw[fS];omega
   simp only[aY,cH];omega
end
theorem Jn{w:ak}{a:kd}{v:ay}{l:Wd}(h:Fw w a v l):au ag 232 #[an (some a)] w λ r w'=>∃p cc,r=aZ #[an (some ⟨w.heap.size,0,none⟩),aA]/\v=aa p l.length cc/\Ob w' ⟨w.heap.size,0,none⟩ [aa p l.length cc]/\aS w w'/\w.heap.size<w'.heap.size:=by
 obtain⟨p,cc,x,y⟩:=h.sl;apply O1;unfold v232;have q:=h.v;rw[x] at q;have u:=Ob.new w [aa p l.length cc] 405;exact⟨_,_,_,q,p,cc,rfl,x,u,bA _ _,u.lt (by simp)⟩
theorem u7{w:ak}{a:kd}{p:OA}{n cc:Nat}(h:Ob w a [aa p n cc]):au ag 233 #[an (some a)] w λ r w'=>r=aa p n cc/\w'=w:=by
 apply O2;unfold v233;exact⟨_,_,_,by simpa using h.at 0 rfl,rfl,rfl⟩
theorem u9{w:ak}{x:ay}{m:Wd}(h:cz w x m):∃p cc,x=aa p m.length cc/\au ag 209 #[x] w λ r w'=>r=aC (bs m)/\w'=w:=by
 obtain⟨p,cc,rfl,q⟩:=aX.ex h;refine⟨p,cc,rfl, ?_⟩;apply acp;unfold Qh;exact⟨_,_,mU h,_,rfl,rfl,rfl⟩
section
variable{c:WC}{tag:Nat->Nat}{g:WV}{w0:ak}{Z:Nat->Prop}{w w' w1:ak}{W:kd}{s:cF}{t1:Nat->Nat}{D d:kd}{fv:ay}{l:Wd}
def TI(c:WC)(w0:ak)(Z:Nat->Prop)(W D d:kd)(fv:ay)(t1:Nat->Nat)(v:ay)(w:ak)(s:cF)(l:Wd):Prop:=
 WJ c w t1 w0 Z w W s/\dT w d v l/\Ob w D [fv]/\t1 d.block=0/\t1 D.block=0/\D.block≠d.block/\¬Z d.block/\¬Z D.block/\∀x,aN v=some x->x<w.heap.size/\t1 x=9
def TJ(c:WC)(w0:ak)(Z:Nat->Prop)(W D d:kd)(fv:ay)(w:ak)(s:cF)(l:Wd):Prop:=
 ∃t1 v,TI c w0 Z W D d fv t1 v w s l
theorem TI.step{s':cF}{v:ay}(h:TI c w0 Z W D d fv t1 v w s l)(Q:WJ c w t1 w0 Z w' W s'):TJ c w0 Z W D d fv w' s' l:=by
 obtain⟨j,hd,N,J,K,R,U,y,u⟩:=h;have H:=Q.fr;obtain⟨t2,jb,r,_⟩:=Q.again (aS.refl w') (λ _ _ x=>x.elim);have G:d.block<w.heap.size:=hd.1.lt (by simp);have E:D.block<w.heap.size:=N.lt (by simp);refine⟨t2,v,jb,hd.fr H (λ o q=>by rw[J] at q;simp[T5] at q) (λ b X o q=>by rw[(u b X).2] at q;simp[T5] at q),N.fr H (λ o _ _ q=>by rw[K] at q;simp[T5] at q),by rw[r _ G];exact J,by rw[r _ E];exact K,R,U,y,λ x I=>⟨dR (u x I).1 H.size,by rw[r _ (u x I).1];exact(u x I).2⟩⟩
theorem TI.dec{l':Wd}{v:ay}(h:TI c w0 Z W D d fv t1 v w s l)(G:gE w d v w' l'):TJ c w0 Z W D d fv w' s l':=by
 obtain⟨j,hd,Q,J,R,K,N,u,U⟩:=h;obtain⟨v',H,I,X⟩:=G;have r:d.block<w.heap.size:=hd.1.lt (by simp);have y:D.block<w.heap.size:=Q.lt (by simp);obtain⟨t2,jb,q,_⟩:=j.again I (λ b o E=>by rw[E.1];exact⟨r,J,N⟩);refine⟨t2,v',jb,H,Q.fr I (λ o _ _ E=>K E.1),by rw[q _ r];exact J,by rw[q _ y];exact R,K,N,u,λ x hx=> ?_⟩;have:=U x (by rw[<-X];exact hx);exact⟨dR this.1 I.size,by rw[q _ this.1];exact this.2⟩
theorem TJ.inv(h:TJ c w0 Z W D d fv w s l):C1 c w0 Z w W s:=by
 obtain⟨t1,v,j,_⟩:=h;exact j.inv
theorem TJ.aH(h:TJ c w0 Z W D d fv w s l)(q:aS w w'):TJ c w0 Z W D d fv w' s l:=by
 obtain⟨t1,v,h⟩:=h;exact h.step (h.1.aH q)
theorem TJ.drew(h:TJ c w0 Z W D d fv w s l):TJ c w0 Z W D d fv w.drew s l:=h.aH (cu w)
theorem TJ.dQ{N:fz}{args:Array ay}{l':Wd}(h:TJ c w0 Z W D d fv w s l)(q:∀v,dA w (W.add 12) v s.b1->au ag N args w λ _ w'=>fe w (W.add 12) v w' l'):
  au ag N args w λ _ w'=>TJ c w0 Z W D d fv w' {s with b1:=l'} l:=by
 obtain⟨t1,v,h⟩:=h;refine aF (h.1.dQ q) ?_;intro _ w' j;exact h.step j
theorem TJ.pQ(h:TJ c w0 Z W D d fv w s l):au ag 190 #[an (some (W.add 12)),qQ c] w λ _ w'=>TJ c w0 Z W D d fv w' {s with dig:=s.dig++s.b1} l:=by
 obtain⟨t1,v,h⟩:=h;refine aF h.1.pQ ?_;intro _ w' j;exact h.step j
theorem TJ.ld [RF c]{K:ay->ak->Prop}(h:TJ c w0 Z W D d fv w s l)(E:s.F.length+s.b1.length<=1073741824)(y:∀w',TJ c w0 Z W D d fv w' {s with F:=s.F++s.b1} l->K aA w'):
  au ag 86 #[an (some (W.add 12))] w λ r J=>az (ax r) λ I H G=>aP ag (bw 299 1 #[(0,aa I H G)]) J λ r N=>az (ax r) λ x u q=>
   au ag 127 #[an (some W),aa x u q] N λ r Q=>aM (ax r) λ v=>K v Q:=by
 obtain⟨t1,v,h⟩:=h;exact h.1.ld E (λ w' j=>y w' (h.step j))
theorem TJ.jh{N:fz}{args:Array ay}{l':Wd}{Q:ay->ak->Prop}(h:TJ c w0 Z W D d fv w s l)(q:∀v,dT w d v l->au ag N args w λ r w'=>Q r w'/\gE w d v w' l'):
  au ag N args w λ r w'=>Q r w'/\TJ c w0 Z W D d fv w' s l':=by
 obtain⟨t1,v,h⟩:=h;refine aF (q v h.2.1) ?_;rintro r w' ⟨u,hd⟩;exact⟨u,h.dec hd⟩
theorem TJ.fU(h:TJ c w0 Z W D d fv w s l):au ag 105 #[an (some d)] w λ r w'=>r=aA/\w'=w:=by
 obtain⟨t1,v,h⟩:=h;exact Go.Proofs.fU h.2.1
theorem WJ.base(j:WJ c w t1 w0 Z w W s):C1 c w (λ b=>b<w.heap.size/\t1 b=0) w W s/\∀H G,C1 c w (λ b=>b<w.heap.size/\t1 b=0) H W G->C1 c w0 Z H W G:=by
 obtain⟨tag,g,q,J,_⟩:=j;have u:∀b,Z b->b<w.heap.size/\t1 b=0:=λ b r=>by
  have I:b<w.heap.size:=dR (q.eL b r) q.kp.size;refine⟨I, ?_⟩;rw[<-J b I];exact qq (λ h=>q.own b h r)
 refine⟨⟨tag,g,λ b r=>r.1,Fr.refl _ _,λ b r u=>r (by rw[J b u.1];exact u.2),q.top,q.sp,q.tW,q.A,q.B1,q.dS,q.B2,q.eT,q.C,q.F,q.tF,q.fg,q.P,q.tP,q.fV,q.O,q.tO,q.fh,q.D,q.tD,q.tT,q.M1,q.f_,q.M2,q.fO,q.L,q.S,q.fW,q.gz,q.gP,⟨λ b r=>⟨(q.ys.1 b r).1,dR (q.ys.1 b r).2 q.kp.size⟩,Fr.refl _ _⟩⟩, ?_⟩;rintro H G ⟨x,K,p⟩;exact⟨x,K,q.eL,q.kp.step p.kp (λ b o E _ r=>E (u b r)),λ b r y=>p.own b r (u b y),p.top,p.sp,p.tW,p.A,p.B1,p.dS,p.B2,p.eT,p.C,p.F,p.tF,p.fg,p.P,p.tP,p.fV,p.O,p.tO,p.fh,p.D,p.tD,p.tT,p.M1,p.f_,p.M2,p.fO,p.L,p.S,p.fW,p.gz,p.gP,λ b r=>⟨(p.ys.1 b r).1,(q.ys.1 b r).2⟩,q.ys.2.step p.ys.2 (λ b o E _=>E)⟩
end
section
variable{c:WC}{tag:Nat->Nat}{g:WV}{w0:ak}{Z:Nat->Prop}{w w' w1:ak}{W:kd}{s:cF}{t1:Nat->Nat}{D d:kd}{fv:ay}{l:Wd}
def fm(k:Nat)(t:Wd×Wd×Nat):Wd×Wd×Nat:=(t.1,t.2.1,t.2.2+k)
theorem Tx(t:Wd×Wd×Nat)(x:t.1.length<=1000)(y:t.2.1.length<=1000)(E:t.2.2<4611686018427387904):(cX t).length<=2040:=by
 have h:=fw 10 2 (by omega) (by omega);have q:=fw 10 t.1.length (by omega) (by omega);have r:=fw 10 t.2.1.length (by omega) (by omega);have u:=fw 10 t.2.2 (by omega) (by omega);unfold cX b8;simp only[aY];omega
theorem Jo(k:Nat):∀(l:List (Wd×Wd×Nat)),(∀t∈l,t.1.length<=1000/\t.2.1.length<=1000/\t.2.2+k<4611686018427387904)->((l.map (fm k)).flatMap cX).length<=2040*l.length:=by
 intro l;induction l with
 |nil=>intro _;simp
 |cons a l u=>
  intro h;have:=u (λ x r=>h x (by simp[r]));have q:=h a (by simp);have:=Tx (fm k a) q.1 q.2.1 q.2.2;rw[hW,fG,aY,dH];omega
theorem ag3 [RF c]{K:ay->ak->Prop}{x:kd->kd->Int->Int->kd->kd->Int->ak->Prop}{t:Wd×Wd×Nat}{k sp:Nat}{rest:Wd}{m:Int}(h:TJ c w0 Z W D d fv w s (cX t++rest))(h1:t.1.length<=1000)(h2:t.2.1.length<=1000)(h3:t.2.2+k<4611686018427387904)(hF:s.F.length<=1073000000)
  (hk:∀w' b1,TJ c w0 Z W D d fv w' {s with F:=s.F++cX (fm k t),dig:=s.dig++cX (fm k t),b1:=b1} rest->x D W (sp:Int) (k:Int) D d (aq aj (m-1)) w'):
  BH K x D W (sp:Int) (k:Int) D d m w:=by
 unfold BH;have e1:(bm 2).length<=10:=fw 10 2 (by omega) (by omega);have e2:(bm t.1.length).length<=10:=fw 10 t.1.length (by omega) (by omega);have e3:(bm t.2.1.length).length<=10:=fw 10 t.2.1.length (by omega) (by omega);have e4:(bm (t.2.2+k)).length<=10:=fw 10 (t.2.2+k) (by omega) (by omega);refine aF (h.dQ (λ v u=>iZ u)) ?_;intro _ w1 y;have et:cX t++rest=bm 2++(b8 t.1++(b8 t.2.1++(bm t.2.2++rest))):=by simp[cX]
 rw[et] at y;refine aF (y.drew.jh (Q:=λ r _=>r=ah af ((2:Nat):Int)) (λ v hd=>kI iO hd (by omega))) ?_;rintro _ w2 ⟨rfl,J⟩;refine⟨_,rfl, ?_⟩;refine aF (J.dQ (λ v u=>oj (n:=2) u (by omega) (by simp))) ?_;intro _ w3 H;dsimp only at H;refine aF (H.drew.jh (Q:=λ r w=>cz w r t.1) (λ v hd=>aF (jD iO hd) (λ r w q=>⟨q.1,q.2.2⟩))) ?_;rintro r w4 ⟨R,h4⟩;obtain⟨p,cc,rfl,k4⟩:=u9 R;refine⟨_,_,_,rfl, ?_⟩;refine aF k4 ?_;rintro _ _ ⟨rfl,rfl⟩;refine⟨_,rfl, ?_⟩;refine aF (h4.dQ (λ v u=>ux u (by simp[fB];omega))) ?_;intro _ w5 X;dsimp only at X;refine aF (X.drew.jh (Q:=λ r w=>cz w r t.2.1) (λ v hd=>aF (jD iO hd) (λ r w q=>⟨q.1,q.2.2⟩))) ?_;rintro r w6 ⟨R,h6⟩;obtain⟨p,cc,rfl,k6⟩:=u9 R;refine⟨_,_,_,rfl, ?_⟩;refine aF k6 ?_;rintro _ _ ⟨rfl,rfl⟩;refine⟨_,rfl, ?_⟩;refine aF (h6.dQ (λ v u=>ux u (by simp[fB,bs,b8];omega))) ?_;intro _ w7 h7;dsimp only at h7;refine aF (h7.drew.jh (Q:=λ r _=>r=ah aj (t.2.2:Int)) (λ v hd=>mh iO hd (by omega))) ?_;rintro _ w8 ⟨rfl,h8⟩;refine⟨_,rfl, ?_⟩;dsimp only;rw[show aq aj ((t.2.2:Int)+(k:Int))=((t.2.2+k:Nat):Int) by rw[dV (by omega) (by omega)];omega];refine aF (h8.dQ (λ v u=>mf u (by omega) (by simp[fB,bs,b8];omega))) ?_;intro _ w9 N;dsimp only at N;have eb:[]++bm 2++b8 (bs t.1).data.toList++b8 (bs t.2.1).data.toList++bm (t.2.2+k)=cX (fm k t):=by simp[cX,fm,bs]
 rw[eb] at N;have hl:=Tx (fm k t) h1 h2 h3;have I:=N.drew;refine⟨_,I.inv.eI 10 rfl, ?_⟩;refine aF I.pQ ?_;intro _ jg E;dsimp only at E;refine E.ld (by show s.F.length+(cX (fm k t)).length<=_;omega) (λ U G=> ?_);dsimp only at G;refine⟨_,λ w=>cE _ w,_,rfl,aT rfl ?_⟩;exact hk U _ G
theorem ag4 [RF c]{K:ay->ak->Prop}{A B:Wd}{fa:kd}(h:TJ c w0 Z W D d (an (some fa)) w s [])(hO:s.eR=true)(hF:s.F=A++([97,108,101,110]++B))(hd:s.dig=B)(hl:s.F.length<=1073700000)(hs:s.ir.length<=A.length)
  (hK:∀w' b1,C1 c w0 Z w' W {s with F:=A++dh B,eR:=false,b1:=b1}->K aA w'):
  xz K D W (A.length:Int) D d w:=by
 unfold xz;refine aF h.fU ?_;rintro _ w ⟨rfl,rfl⟩;refine⟨_,rfl,_,λ w=>cE _ w,_,rfl,aT rfl ?_⟩;obtain⟨t1,v,j,zl,I,h1,h2,h3,h4,h5,h6⟩:=h;refine⟨_,by simpa using I.at 0 rfl, ?_⟩;refine aF Sp ?_;rintro _ w ⟨rfl,rfl⟩;refine⟨_,rfl,_,λ w=>cE _ w,_,rfl,aT rfl ?_⟩;have x:D.block<w.heap.size:=I.lt (by simp);refine⟨⟨trivial,by simpa using I.can 0 (by simp)⟩, ?_⟩;have G:Ob (w.setCell D (an none)) D [an none]:=by simpa using I.set 0 (by simp) (an none)
 have U:=Fr.set w D (an none);obtain⟨t2,j2,i_,_⟩:=j.again U (λ b o R=>by rw[R.1];exact⟨x,h2,h5⟩);have y:D.block<(w.setCell D (an none)).heap.size:=G.lt (by simp);have Q:t2 D.block=0:=by rw[i_ _ x];exact h2
 generalize (w.setCell D (an none))=u at*;obtain⟨J,r⟩:=j2.base;have H:∀{w:ak} {Z:Nat->Prop} {w0:ak},C1 c w0 Z w W s->at_ w (W.add 2) (an (some c.o)):=λ q=>by
  have:=q.dP 2 rfl;rwa[if_pos hO] at this
 refine⟨_,H J, ?_⟩;refine aF IA ?_;rintro _ u ⟨rfl,rfl⟩;refine⟨_,rfl,_,λ w=>cE _ w,_,rfl,aT rfl ?_⟩;refine⟨_,H J, ?_⟩;refine aF Sq ?_;rintro _ u ⟨rfl,rfl⟩;refine⟨_,rfl,_,λ w=>cE _ w,_,rfl,aT rfl ?_⟩;have E:V.can u (W.add 2):=by
  obtain⟨_,_,q⟩:=J;exact q.A.can 2 (by simp[gm])
 refine⟨⟨trivial,E⟩, ?_⟩;have p3:C1 c u (λ b=>b<u.heap.size/\t2 b=0) (u.setCell (W.add 2) (an none)) W {s with eR:=false}:=by
  obtain⟨tag,g,q⟩:=J;exact⟨tag,g,q.lR (hP:=s.fN) (hO:=false) (cnt:=s.cnt) (t0:=s.t0) (t1:=s.t1) (t2:=s.t2) (t3:=s.t3) (t4:=s.t4) (t5:=s.t5) (stage:=s.stage) (pst:=s.pst) (k:=2) (v:=an none) (by omega) rfl⟩
 generalize (u.setCell (W.add 2) (an none))=w3 at p3;refine aF (Sz (A:=A) (B:=B) p3 hF rfl hl hs) ?_;rintro _ w4 ⟨rfl,b1,N⟩;dsimp only at N;refine⟨_,rfl,_,λ w=>cE _ w,_,rfl,aT rfl ?_⟩;have X:Ob w4 D [an none]:=by
  obtain⟨_,_,q⟩:=N;exact G.fr q.kp (λ o _ _ R=>R ⟨y,Q⟩)
 refine agS (by simpa using X.at 0 rfl) (hK _ b1 ?_);rw[show(be 4 B.length++(B++be 4 (cI 0 s.dig)))=dh B by rw[hd];rfl] at N;exact r _ _ N
theorem lW{w:ak}{q a:ay}{ty:cK}{K:Nat->ak->Prop}(N:gj a)(Q:∀w',Ob w' ⟨w.heap.size,0,none⟩ [a]->aS w w'->w.heap.size<w'.heap.size->K w.heap.size w'):
  a_ w (.cells #[q] ty) λ r H=>wr H ⟨r,0,none⟩ a λ I=>K r I:=by
 have E:=Ob.new w [q] ty;have x:=bA w (.cells ⟨[q]⟩ ty);have y:w.heap.size<(w.alloc (.cells ⟨[q]⟩ ty)).heap.size:=E.lt (by simp);dsimp only[a_];change wr (w.alloc (.cells ⟨[q]⟩ ty)) _ _ _;generalize w.alloc (.cells ⟨[q]⟩ ty)=w1 at E x y;have h:=dB (K:=λ I=>K w.heap.size I) (m:=1) E (Fr.refl _ _) 0 (by simp) (by omega) a N (λ H G u=>Q H (by simpa using G) (Fr.new x u (λ b o J=>by rw[J.1];exact bB _)) (dR y u.size));rwa[add_zero] at h
theorem pS{w w1:ak}{r:Nat}{H I a b:ay}{K:ak->Prop}(R:Ob w1 ⟨r,0,none⟩ [H,I])(x:aS w w1)(U:w.heap.size<=r)(J:gj a)(N:gj b)(Q:∀w',Ob w' ⟨r,0,none⟩ [a,b]->aS w w'->Fr (λ b _=>b=r) w1 w'->K w'):
  wr w1 (aw ⟨r,0,none⟩ 0) a λ G=>wr G (aw ⟨r,0,none⟩ 1) b λ X=>K X:=by
 refine dB (m:=2) R (Fr.refl _ _) 0 (by simp) (by omega) _ J (λ w2 y u=> ?_);refine dB y u 1 (by simp) (by omega) _ N (λ G E h=> ?_);exact Q G (by simpa using E) (Fr.new x h (λ b o q=>by rw[q.1];exact U)) (h.mono (λ b o _ q=>q.1))
theorem pT{w:ak}{p:OA}{c n:Nat}{l:List UInt8}(h:cz w (aa p l.length c) l)(G:n=l.length):
  au ag 234 #[cW (aa p l.length c),ah af (n:Int)] w λ r w'=>∃q u,r=aV #[aa q l.length u,aA]/\cz w' (aa q l.length u) l/\aN (aa q l.length u)=aN (aa p l.length c)/\aS w w':=by
 subst G;refine aF (adJ h (bB _)) ?_;rintro _ w' ⟨v,rfl,x,y,E⟩;rw[fY] at x;obtain⟨q,u,rfl,_⟩:=aX.ex x;exact⟨q,u,rfl,x,y,E⟩
theorem ag6 [RF c]{T:List (Wd×Wd×Nat)}(h:C1 c w0 Z w W s)(hO:s.eR=true)(hT:s.O=T.flatMap cX)(hc:s.cnt=T.length)(hl:T.length<=10000)(Dk:∀t∈T,t.1.length<=1000/\t.2.1.length<=1000/\t.2.2+s.pst<4611686018427387904)(hF:s.F.length<=536870912):
  au ag 184 #[an (some W)] w λ r w'=>r=aA/\∃b1 dig,C1 c w0 Z w' W {s with F:=s.F++dh (eP (T.map (fm s.pst))),eR:=false,b1:=b1,dig:=dig}:=by
 have mq:s.ir.length<=s.F.length:=by
  obtain⟨_,_,q⟩:=h;exact q.fW
 have ag7:∀k,(((T.take k).map (fm s.pst)).flatMap cX).length<=2040*10000:=λ k=>by
  have:=Jo s.pst (T.take k) (λ x J=>Dk x (List.mem_of_mem_take J));have h2:(T.take k).length<=10000:=by rw[fS];omega
  omega
 have y6:s.O.length<=1073741824:=by
  obtain⟨_,_,q⟩:=h;exact q.O.2.2.2
 have zm:∀{w:ak} {s':cF},C1 c w0 Z w W s'->s'.eR=true->at_ w (W.add 2) (an (some c.o)):=λ q hO=>by
  have:=q.dP 2 rfl;rwa[if_pos hO] at this
 generalize hA:s.F=A at*;apply abl;unfold Pa;refine⟨_,zm h hO, ?_⟩;refine aF sQ ?_;rintro _ w ⟨rfl,rfl⟩;refine⟨_,rfl,_,λ w=>cE _ w,_,rfl,aT rfl ?_⟩;refine⟨_,h.eM,_,by have:=h.pos;rwa[hA] at this, ?_⟩;refine h.y5 (IE w) rfl (by show s.F.length+4<=_;rw[hA];omega) (λ w1 h1=> ?_);rw[hA] at h1;refine⟨_,λ w=>cE _ w,_,rfl,aT rfl ?_⟩;refine⟨_,h1.dP 11 rfl, ?_⟩;refine aF (h1.dQ (λ v he=>iZ he)) ?_;intro _ w2 h2;dsimp only at h2;refine⟨_,h2.eI 10 rfl,h2.reset (λ w3 h3=> ?_)⟩;dsimp only at h3;have oB:=h3.drew;refine⟨_,oB.dP 3 rfl, ?_⟩;dsimp only;rw[bk (by omega) (by omega)];refine aF (oB.dQ (λ v he=>oo (n:=s.cnt) he (by omega) (by simp))) ?_;intro _ w4 h4;dsimp only at h4;refine⟨by simpa using h4.dP 3 rfl, ?_⟩;have Ty:=h4.drew;refine⟨_,Ty.eI 10 rfl, ?_⟩;refine aF Ty.pQ ?_;intro _ w5 h5;dsimp only at h5;refine h5.ld (by show(A++[97,108,101,110]).length+([]++be 4 s.cnt).length<=_;simp[cH];omega) (λ w6 h6=> ?_);dsimp only at h6;refine⟨_,λ w=>cE _ w,_,rfl,aT rfl ?_⟩;have e6:A++[97,108,101,110]++([]++be 4 s.cnt)=A++([97,108,101,110]++(be 4 T.length++((T.take 0).map (fm s.pst)).flatMap cX)):=by simp[hc]
 have e6':([]:Wd)++([]++be 4 s.cnt)=be 4 T.length++((T.take 0).map (fm s.pst)).flatMap cX:=by simp[hc]
 rw[e6,e6'] at h6;refine⟨_,zm h6 hO, ?_⟩;obtain⟨tag,g,K⟩:=h6;refine aF (Jn K.O) ?_;rintro _ I ⟨op,oc,rfl,E,zn,k7,Jp⟩
 replace E:g.ov=aa op s.O.length oc:=E
 replace zn:Ob I ⟨w6.heap.size,0,none⟩ [aa op s.O.length oc]:=zn
 refine⟨_,_,rfl,_,rfl,_,rfl, ?_⟩;refine lW trivial (λ w8 o8 k8 Tr=> ?_);refine⟨_,λ w=>cE _ w,_,rfl,aT rfl ?_⟩;have G:=(k7.trans k8).trans (cu w8);have q8:=K.aH G;have Jq:=o8.aH (cu w8);have Tz:=zn.aH (k8.trans (cu w8));have s8:w8.drew.heap.size=w8.heap.size:=rfl;generalize w8.drew=y at*;generalize Dl:({s with F:=A++([97,108,101,110]++(be 4 T.length++((T.take 0).map (fm s.pst)).flatMap cX)),b1:=[]++be 4 s.cnt,dig:=be 4 T.length++((T.take 0).map (fm s.pst)).flatMap cX}:cF)=S0 at K q8;have u_:S0.eR=true:=by rw[<-Dl];exact hO
 have TC:S0.O=s.O:=by rw[<-Dl]
 have oA:∀{w:ak},aS y w->at_ w (W.add 2) (an (some c.o)):=λ k=>by
  have:=(q8.aH k).dP 2 rfl;rwa[if_pos u_] at this
 have oP:∀{w:ak},aS y w->at_ w (c.o.add 1) (ah aj (s.O.length:Int)):=λ k=>by
  have:=(q8.aH k).O.pos;rwa[TC] at this
 have oC:∀{w:ak},aS y w->at_ w (W.add 3) (ah aj (T.length:Int)):=λ k=>by
  have:=(q8.aH k).dP 3 rfl;rw[<-hc];rw[<-Dl] at this;exact this
 have R:cz y (aa op s.O.length oc) s.O:=by
  have:=q8.O.eD;rwa[E,TC] at this
 have ag9:∀{w:ak} {d:kd} {v:ay},aS y w->dT w d v s.O->y.heap.size<=d.block->aN v=aN (aa op s.O.length oc)->TJ c w0 Z W ⟨I.heap.size,0,none⟩ d (an (some ⟨w6.heap.size,0,none⟩)) w S0 s.O:=by
  intro w d v k hd Jr Q;have TD:=G.size;have TF:w6.heap.size<=I.heap.size:=k7.size;have hDl:I.heap.size<y.heap.size:=by rw[s8];exact Tr
  refine⟨tag,v,(K.aH (G.trans k)).j,hd,Jq.aH k,K.top _ (eX TD Jr),K.top _ TF, ?_, ?_, ?_, ?_⟩
  ·show I.heap.size≠d.block;omega
  ·exact K.j.nz (eX TD Jr)
  ·exact K.j.nz TF
  ·intro x J;rw[Q,<-E] at J;have:=K.fh x J;exact⟨dR this.1 (G.trans k).size,this.2⟩
 have ag_:∀{w:ak} {d:kd},TJ c w0 Z W ⟨I.heap.size,0,none⟩ d (an (some ⟨w6.heap.size,0,none⟩)) w S0 s.O->
   ud (λ r w'=>r=aA/\∃b1 dig,C1 c w0 Z w' W {s with F:=A++dh (eP (T.map (fm s.pst))),eR:=false,b1:=b1,dig:=dig}) ⟨I.heap.size,0,none⟩ W (A.length:Int) (s.pst:Int) ⟨I.heap.size,0,none⟩ d (T.length:Int) w:=by
  intro w d hJ;refine abk (λ D' W' sp adj f' d' N w'=>D'=⟨I.heap.size,0,none⟩/\W'=W/\sp=(A.length:Int)/\adj=(s.pst:Int)/\f'=⟨I.heap.size,0,none⟩/\d'=d/\∃k:Nat,N=((T.length-k:Nat):Int)/\k<=T.length/\∃b1,TJ c w0 Z W ⟨I.heap.size,0,none⟩ d (an (some ⟨w6.heap.size,0,none⟩)) w' {s with F:=A++([97,108,101,110]++(be 4 T.length++((T.take k).map (fm s.pst)).flatMap cX)),b1:=b1,dig:=be 4 T.length++((T.take k).map (fm s.pst)).flatMap cX} ((T.drop k).flatMap cX)) (λ _ _ _ _ _ _ N _=>N.toNat) ?_ ?_
  ·refine⟨rfl,rfl,rfl,rfl,rfl,rfl,0,by simp,by omega,[]++be 4 s.cnt, ?_⟩;rw[Dl,T2,<-hT];exact hJ
  ·rintro _ _ _ _ _ _ _ w2 ⟨rfl,rfl,rfl,rfl,rfl,rfl,k,rfl,hk,b1,h2⟩;unfold GM;have lT:∀k,(A++([97,108,101,110]++(be 4 T.length++((T.take k).map (fm s.pst)).flatMap cX))).length<=600000000:=λ k=>by
    have:=ag7 k;simp only[aY,cH,dH,List.length_nil];omega
   refine aF h2.fU ?_;rintro _ w2 ⟨rfl,rfl⟩;refine⟨_,rfl,_,λ w=>pK _ w,_,rfl,cJ rfl ?_⟩;refine bn (λ fj=> ?_) (λ fj=> ?_)
   ·have gT:k<T.length:=by simp at fj;omega
    have hd:(T.drop k).flatMap cX=cX (T[k])++(T.drop (k+1)).flatMap cX:=by
     rw[gS gT,fG]
    rw[hd] at h2;have ht:=Dk (T[k]) (by simp);refine ag3 h2 ht.1 ht.2.1 ht.2.2 (by show(A++([97,108,101,110]++(be 4 T.length++((T.take k).map (fm s.pst)).flatMap cX))).length<=_;have:=lT k;omega) (λ w3 b3 h3=> ?_);dsimp only at h3;have e1:be 4 T.length++((T.take k).map (fm s.pst)).flatMap cX++cX (fm s.pst (T[k]))=be 4 T.length++((T.take (k+1)).map (fm s.pst)).flatMap cX:=by
     rw[<-l7 gT,iE,jK];simp
    rw[dx A,dx [97,108,101,110],e1] at h3;rw[dV (by omega) (by omega)];exact⟨⟨rfl,rfl,rfl,rfl,rfl,rfl,k+1,by omega,by omega,_,h3⟩,by omega⟩
   ·have gT:k=T.length:=by simp at fj;omega
    subst gT;rw[List.drop_length,fY] at h2;have:=lT T.length;rw[fY] at this;have e:be 4 T.length++(T.map (fm s.pst)).flatMap cX=eP (T.map (fm s.pst)):=by simp[eP]
    refine ag4 (A:=A) (B:=be 4 T.length++(T.map (fm s.pst)).flatMap cX) h2 hO rfl rfl (by show(A++([97,108,101,110]++(be 4 T.length++(T.map (fm s.pst)).flatMap cX))).length<=_;omega) mq (λ w' b1 h=> ?_);dsimp only at h;rw[e] at h;exact⟨rfl,b1,_,h⟩
 have k9:=aS.refl y;have U:∀{w:ak} {d:Nat} {q:OA} {qc:Nat},aS y w->y.heap.size<=d->Ob w ⟨d,0,none⟩ [aa q s.O.length qc,aA]->cz w (aa q s.O.length qc) s.O->aN (aa q s.O.length qc)=aN (aa op s.O.length oc)->
   aD aj (at_ w (W.add 3)) λ n=>ud (λ r w'=>r=aA/\∃b1 dig,C1 c w0 Z w' W {s with F:=A++dh (eP (T.map (fm s.pst))),eR:=false,b1:=b1,dig:=dig}) ⟨I.heap.size,0,none⟩ W (A.length:Int) (s.pst:Int) ⟨I.heap.size,0,none⟩ ⟨d,0,none⟩ n w:=by
  intro w d q qc k hd X Q jN;refine⟨_,oC k,ag_ (ag9 k ⟨X,Q, ?_,by omega⟩ hd jN)⟩;intro e;have J:aN g.ov=some d:=by rw[E,<-jN];exact e
  have:=(K.fh d J).1;have:=G.size;omega
 refine⟨_,by simpa using Jq.at 0 rfl,_,oA k9,_,oP k9, ?_, ?_⟩
 ·refine aF (u7 Tz) ?_;rintro _ y ⟨rfl,rfl⟩;refine⟨_,_,_,rfl,by simpa using oP k9,by simpa using oA k9, ?_, ?_⟩
  ·rw[bk (by omega) (by omega)];refine aF (pT R rfl) ?_;rintro _ H ⟨q,qc,rfl,hq,Q,dj⟩;refine⟨_,_,_,_,rfl,by simpa using oP dj,by simpa using oA dj, ?_⟩;have X:=Ob.new H [aa none 0 0,aA] 182;have u:=dj.trans (bA H (.cells ⟨[aa none 0 0,aA]⟩ 182));refine⟨by simpa using oP u,by simpa using oA u, ?_⟩;refine pS X (bA H (.cells ⟨[aa none 0 0,aA]⟩ 182)) (bB _) trivial trivial (λ gA u' u _=> ?_);exact U (dj.trans u) dj.size u' (Sl.aH hq u) Q
  ·have X:=Ob.new y [aa none 0 0,aA] 182;have dj:=bA y (.cells ⟨[aa none 0 0,aA]⟩ 182);have arV:y.heap.size<(y.alloc (.cells ⟨[aa none 0 0,aA]⟩ 182)).heap.size:=X.lt (by simp);dsimp only[a_];change aK (y.alloc (.cells ⟨[aa none 0 0,aA]⟩ 182)) _ _ _ _;generalize (y.alloc (.cells ⟨[aa none 0 0,aA]⟩ 182))=H at X dj arV;refine⟨by simpa using oP dj,by simpa using oA dj, ?_⟩;rw[bk (by omega) (by omega)];refine aF (pT (Sl.aH R dj) rfl) ?_;rintro _ gA ⟨q,qc,rfl,hq,Q,u⟩;refine⟨_,_,_,_,rfl,by simpa using oP (dj.trans u),by simpa using oA (dj.trans u), ?_⟩;refine pS (w:=y) (X.aH u) (dj.trans u) (bB _) trivial trivial (λ gn pU iK f12=> ?_);refine U iK (bB _) pU (aX.away hq f12 (λ x J o e=> ?_)) Q;rw[Q,<-E] at J;have:=(K.fh x J).1;have:=G.size;omega
 ·have X:=Ob.new y [aa none 0 0,aA] 182;have dj:=bA y (.cells ⟨[aa none 0 0,aA]⟩ 182);have arV:y.heap.size<(y.alloc (.cells ⟨[aa none 0 0,aA]⟩ 182)).heap.size:=X.lt (by simp);dsimp only[a_];change aK (y.alloc (.cells ⟨[aa none 0 0,aA]⟩ 182)) _ _ _ _;generalize (y.alloc (.cells ⟨[aa none 0 0,aA]⟩ 182))=H at X dj arV;refine⟨by simpa using oP dj,by simpa using oA dj,by simpa using(Jq.aH dj).at 0 rfl, ?_⟩;refine aF (u7 (Tz.aH dj)) ?_;rintro _ H ⟨rfl,rfl⟩;refine⟨_,_,_,rfl,by simpa using oP dj,by simpa using oA dj, ?_⟩;rw[bk (by omega) (by omega)];refine aF (pT (Sl.aH R dj) rfl) ?_;rintro _ gA ⟨q,qc,rfl,hq,Q,u⟩;refine⟨_,_,_,_,rfl,by simpa using oP (dj.trans u),by simpa using oA (dj.trans u), ?_⟩;refine pS (w:=y) (X.aH u) (dj.trans u) (bB _) trivial trivial (λ gn pU iK f12=> ?_);refine U iK (bB _) pU (aX.away hq f12 (λ x J o e=> ?_)) Q;rw[Q,<-E] at J;have:=(K.fh x J).1;have:=G.size;omega
end
section
variable{c:WC}{tag:Nat->Nat}{g:WV}{w0:ak}{Z:Nat->Prop}{w w' w1:ak}{W:kd}{s:cF}{t1:Nat->Nat}{D d:kd}{fv:ay}{l:Wd}
def Js(w:ak)(tag:Nat->Nat)(b:Nat):Prop:=b<w.heap.size/\(tag b=8\/tag b=9)
def Jt(w:ak)(tag:Nat->Nat)(b:Nat):Prop:=b<w.heap.size/\tag b=0
theorem WI.aha(q:WI c tag g w0 Z w W s):C1 {c with Y:=Js w tag} w (Jt w tag) w W s:=
 ⟨tag,g,λ b h=>h.1,Fr.refl _ _,λ b h r=>h r.2,q.top,q.sp,q.tW,q.A,q.B1,q.dS,q.B2,q.eT,q.C,q.F,q.tF,q.fg,q.P,q.tP,q.fV,q.O,q.tO,q.fh,q.D,q.tD,q.tT,q.M1,q.f_,q.M2,q.fO,q.L,q.S,q.fW,q.gz,q.gP,λ b h=>⟨h.2,h.1⟩,Fr.refl _ _⟩
theorem C1.held(h:C1 c w0 Z w W s):Fr (λ b _=>¬(Z b\/c.Y b)) w0 w:=by
 obtain⟨_,_,q⟩:=h;refine⟨q.kp.os,q.kp.tape,q.kp.output,q.kp.size,λ b o r x=> ?_⟩;by_cases u:Z b
 ·exact q.kp.cell b o r (λ h=>h u)
 ·have:c.Y b:=by
   have:=Classical.not_not.1 x;exact this.resolve_left u
  exact q.ys.2.cell b o r (λ h=>h this)
def WL(c:WC)(w0:ak)(Z Zc:Nat->Prop)(w:ak)(W:kd)(s:cF):Prop:=C1 c w Zc w W s/\(∀b,Z b->Zc b)/\(∀b,Z b->b<w0.heap.size)/\Fr (λ b _=>¬Z b) w0 w
variable{Zc:Nat->Prop}
theorem WI.wl(q:WI c tag g w0 Z w W s):WL {c with Y:=Js w tag} w0 Z (Jt w tag) w W s:=by
 refine⟨q.aha,λ b r=>⟨dR (q.eL b r) q.kp.size, ?_⟩,q.eL,q.kp⟩;exact qq (λ h=>q.own b h r)
theorem C1.ey(h:C1 c w0 Z w W s):C1 c w Z w W s:=by
 obtain⟨tag,g,q⟩:=h;exact⟨tag,g,λ b r=>dR (q.eL b r) q.kp.size,Fr.refl _ _,q.own,q.top,q.sp,q.tW,q.A,q.B1,q.dS,q.B2,q.eT,q.C,q.F,q.tF,q.fg,q.P,q.tP,q.fV,q.O,q.tO,q.fh,q.D,q.tD,q.tT,q.M1,q.f_,q.M2,q.fO,q.L,q.S,q.fW,q.gz,q.gP,λ b r=>⟨(q.ys.1 b r).1,dR (q.ys.1 b r).2 q.kp.size⟩,Fr.refl _ _⟩
theorem WL.step{s':cF}(h:WL c w0 Z Zc w W s)(h':C1 c w Zc w' W s'):WL c w0 Z Zc w' W s'/\Fr (λ b _=>¬(Zc b\/c.Y b)) w w':=
 ⟨⟨h'.ey,h.2.1,h.2.2.1,h.2.2.2.step h'.held (λ b o q _ r=>q (.inl (h.2.1 b r)))⟩,h'.held⟩
theorem WL.loc{S:Nat->Nat->Prop}(h:WL c w0 Z Zc w W s)(E:Fr S w w')(I:∀b o,S b o->Zc b/\¬Z b):WL c w0 Z (λ b=>Zc b\/(w.heap.size<=b/\b<w'.heap.size)) w' W s:=by
 obtain⟨⟨tag,g,q⟩,J,K,N⟩:=h;refine⟨⟨tag,g, ?_⟩,λ b u=> .inl (J b u),K,N.step E (λ b o G _=>(I b o G).2)⟩;have H:∀b,Zc b->tag b=0:=λ b u=>qq (λ h=>q.own b h u)
 have r:WI c tag g w (λ b=>False) w' W s:=by
  have p:WI c tag g w (λ b=>False) w W s:=⟨λ b u=>u.elim,Fr.refl _ _,λ b _ y=>y,q.top,q.sp,q.tW,q.A,q.B1,q.dS,q.B2,q.eT,q.C,q.F,q.tF,q.fg,q.P,q.tP,q.fV,q.O,q.tO,q.fh,q.D,q.tD,q.tT,q.M1,q.f_,q.M2,q.fO,q.L,q.S,q.fW,q.gz,q.gP,q.ys⟩;exact p.loc E (λ b o G=>⟨H b (I b o G).1,λ x=>x⟩)
 exact⟨λ b u=>by
   rcases u with u|u
   ·exact dR (q.eL b u) E.size
   ·exact u.2,Fr.refl _ _,λ b u y=>by
   rcases y with y|y
   ·exact q.own b u y
   ·exact u (q.top b y.1),r.top,r.sp,r.tW,r.A,r.B1,r.dS,r.B2,r.eT,r.C,r.F,r.tF,r.fg,r.P,r.tP,r.fV,r.O,r.tO,r.fh,r.D,r.tD,r.tT,r.M1,r.f_,r.M2,r.fO,r.L,r.S,r.fW,r.gz,r.gP,λ b u=>⟨(r.ys.1 b u).1,dR (r.ys.1 b u).2 E.size⟩,Fr.refl _ _⟩
theorem WL.inv [RO c]{Y:Nat->Prop}(h:WL {c with Y:=Y} w0 Z Zc w W s):C1 c w0 Z w W s:=by
 obtain⟨⟨tag,g,p⟩,x,y,u⟩:=h;exact⟨tag,g,y,u,λ b q r=>p.own b q (x b r),p.top,p.sp,p.tW,p.A,p.B1,p.dS,p.B2,p.eT,p.C,p.F,p.tF,p.fg,p.P,p.tP,p.fV,p.O,p.tO,p.fh,p.D,p.tD,p.tT,p.M1,p.f_,p.M2,p.fO,p.L,p.S,p.fW,p.gz,p.gP,λ b q=>(RO.no b q).elim,u.mono (λ b o _ _=>RO.no b)⟩
theorem va(w:ak)(z:Nat)(e:cK):Own (w.alloc (.cells #[] e)) z (aa (some ⟨w.heap.size,0,none⟩) 0 0) 0 []:=
 ⟨by simp, .inr ⟨w.heap.size,0,#[],e,rfl,by unfold World.alloc;simp,bB _,by decide,by simp,by simp⟩⟩
theorem Own.cut{w:ak}{z n c:Nat}{p:OA}{vs:List ay}(h:Own w z (aa p n c) n vs):Own w z (aa p 0 c) 0 []:=by
 refine⟨by simp, ?_⟩;rcases h.2 with⟨q,r⟩|⟨g,cap,cur,u,q,r,E,x,y,G⟩
 ·simp only[Value.slice.injEq] at q;obtain⟨rfl,_,rfl⟩:=q;exact .inl ⟨rfl,rfl⟩
 ·simp only[Value.slice.injEq] at q;obtain⟨rfl,_,rfl⟩:=q;exact .inr ⟨g,c,cur,u,rfl,r,dO _,x,y,by simp⟩
theorem ahb{P:bU}{t e:cK}{z:Nat}(h:P.underlying t=some (.slice e))(q:(P.info? e).map (·.size)=some z)(p:OA)(l c:Nat)(w:ak):(dw t (aa p l c) none (some (.int .i64 0)) none).run P w= .ok (aa p 0 c) w:=by
 have:=gV (P:=P) (t:=t) (e:=e) h (z:=z) q p l c 0 0 (bB _) (dO _) none (some (ah af 0)) (.inl ⟨rfl,rfl⟩) (.inr ⟨_,rfl⟩) w;rw[this];have r:C4 p 0 c z=p:=by
  unfold C4;split
  ·rfl
  ·cases p<;>simp
 rw[r];rfl
theorem ahc{w:ak}{p q:OA}{n m a b:Nat}{x y:Wd}(h:cz w (aa p n a) x)(u:cz w (aa q m b) y):au ag 238 #[aa p n a,aa q m b] w λ r w'=>r=aQ (decide (x=y))/\w'=w:=by
 obtain⟨_,_,E,_⟩:=aX.ex h;obtain⟨_,_,G,_⟩:=aX.ex u;cases E;cases G;apply acF;unfold Qo;refine⟨_,_,mU h,_,rfl,_,_,mU u,_,rfl, ?_,rfl⟩;rw[eG,eG];show aQ _=_;congr 1;rw[Bool.eq_iff_iff];simp
theorem TH:mS ag 216 9 152 .string:=⟨by kernel_rfl,by kernel_rfl⟩
theorem sZ:oe .string dM:=⟨λ a=>trivial,λ a b h=>by
 unfold dM at h;injection h with h;have:=congrArg ByteArray.toList h;rwa[eG,eG] at this⟩
theorem zo:gW ag 203 152 eU 1 4 [ah aL 0]:=
 ⟨⟨by kernel_rfl,by kernel_rfl,rfl,by decide⟩,λ _=>rfl,λ x u h=>by simp[eU] at h;subst h;rfl⟩
theorem Dm(n:Nat)(w:ak):(bw 203 1 #[(0,ah aL (n:Int))]).run ag w= .ok (aa (some ⟨w.heap.size,0,none⟩) 1 1) (w.alloc (.cells ⟨[ah aL (n:Int)]⟩ 152)):=by kernel_rfl
theorem TL(w:ak):(bw 203 0 #[]).run ag w= .ok (aa (some ⟨w.heap.size,0,none⟩) 0 0) (w.alloc (.cells #[] 152)):=by kernel_rfl
theorem Ju(w:ak):(bw 26 0 #[]).run ag w= .ok (aa (some ⟨w.heap.size,0,none⟩) 0 0) (w.alloc (.cells #[] 5)):=by kernel_rfl
theorem zp{w:ak}{r:Nat}{m:Wd->Option Nat}{k:Wd}{n:Nat}(h:dY dM dZ w r m)(q:m k=some n):(dJ 216 (.map (some r)) (aC (bs k)) true).run ag w= .ok (aZ #[ah aL (n:Int),aQ true]) w:=by
 have:=(pg TH sZ (z:=ah aL 0) (λ w=>by kernel_rfl) h k).1;rw[q] at this;exact this
end
section
variable{c:WC}{w0:ak}{Z Y:Nat->Prop}{w w':ak}{W d:kd}{s s':cF}{l:Wd}{vl:ay}{bD:List Nat}
abbrev qY(Y:Nat->Prop)(w w':ak):Prop:=Fr (λ b _=>¬Y b) w w'
def Rd(Y:Nat->Prop)(w:ak)(x:ay)(m:Wd):Prop:=cz w x m/\(m=[]\/∀b,aN x=some b->Y b)
theorem Rd.fr{x:ay}{m:Wd}(h:Rd Y w x m)(r:qY Y w w'):Rd Y w' x m:=by
 refine⟨?_,h.2⟩;rcases h.2 with rfl|y
 ·obtain⟨p,cc,rfl,_⟩:=aX.ex h.1;exact aX.nil _ _ _ _
 ·exact aX.away h.1 r (λ g u o q=>q (y g u))
structure PI(c:WC)(w0:ak)(Z Y:Nat->Prop)(W d:kd)(h:Nat->Prop)(v:ay)(w:ak)(s:cF)(l:Wd)(vl:ay)(bD:List Nat):Prop where
 wl:WL {c with Y:=Y} w0 Z h w W s
 dz:h d.block
 dn:¬Z d.block
 dy:¬Y d.block
 dec:dT w d v l
 vy:∀x,aN v=some x->Y x
 own:cP eU 1 w vl bD
 vz:∀x,aN vl=some x->h x/\¬Z x/\x≠d.block/\¬Y x
def PJ(c:WC)(w0:ak)(Z Y:Nat->Prop)(W d:kd)(w:ak)(s:cF)(l:Wd)(vl:ay)(bD:List Nat):Prop:=∃h v,PI c w0 Z Y W d h v w s l vl bD
theorem PI.step{r:Nat->Prop}{v:ay}(h:PI c w0 Z Y W d r v w s l vl bD)(h':C1 {c with Y:=Y} w r w' W s'):PJ c w0 Z Y W d w' s' l vl bD/\qY Y w w':=by
 obtain⟨y,u⟩:=h.wl.step h';refine⟨⟨r,v,y,h.dz,h.dn,h.dy,h.dec.fr u (λ o q=>q (.inl h.dz)) (λ b x o q=>q (.inr (h.vy b x))),h.vy,h.own.fr u (λ b x o q=>q (.inl (h.vz b x).1)),h.vz⟩,u.mono (λ b o _ q E=>q (.inr E))⟩
theorem PJ.aH(h:PJ c w0 Z Y W d w s l vl bD)(q:aS w w'):PJ c w0 Z Y W d w' s l vl bD:=by
 obtain⟨r,v,h⟩:=h;exact(h.step (h.wl.1.aH q)).1
theorem PJ.drew(h:PJ c w0 Z Y W d w s l vl bD):PJ c w0 Z Y W d w.drew s l vl bD:=h.aH (cu w)
theorem PJ.fU(h:PJ c w0 Z Y W d w s l vl bD):au ag 105 #[an (some d)] w λ r w'=>r=aA/\w'=w:=by
 obtain⟨q,v,h⟩:=h;exact Go.Proofs.fU h.dec
theorem PJ.jh{N:fz}{args:Array ay}{l':Wd}{Q:ay->ak->Prop}(h:PJ c w0 Z Y W d w s l vl bD)(I:∀v,(∀x,aN v=some x->Y x)->dT w d v l->au ag N args w λ r w'=>Q r w'/\gE w d v w' l'):
  au ag N args w λ r w'=>Q r w'/\PJ c w0 Z Y W d w' s l' vl bD/\qY Y w w':=by
 obtain⟨U,v,h⟩:=h;refine aF (I v h.vy h.dec) ?_;rintro r w' ⟨J,v',hd,y,u⟩;have K:=h.wl.loc y (λ b o q=>by rw[q.1];exact⟨h.dz,h.dn⟩);refine⟨J,⟨_,v',K, .inl h.dz,h.dn,h.dy,hd,λ x E=>h.vy x (by rw[<-u];exact E),h.own.fr y (λ b u o q=>(h.vz b u).2.2.1 q.1),λ x E=> ?_⟩,y.mono (λ b o _ q R=>h.dy (by rw[<-q.1];exact R))⟩;obtain⟨G,H⟩:=h.vz x E;exact⟨.inl G,H⟩
theorem PJ.jD{m rest:Wd}(h:PJ c w0 Z Y W d w s (b8 m++rest) vl bD):au ag 110 #[an (some d)] w λ r w'=>Rd Y w' r m/\PJ c w0 Z Y W d w' s rest vl bD/\qY Y w w':=by
 refine h.jh (Q:=λ r w'=>Rd Y w' r m) (λ v E hd=>aF (Go.Proofs.jD iO hd) ?_);rintro r w' ⟨q,u,x⟩;exact⟨⟨q, .inr (λ b y=>E b (by rw[<-u];exact y))⟩,x⟩
theorem PJ.push{K:OA->Nat->Nat->ak->Prop}{n:Nat}(h:PJ c w0 Z Y W d w s l vl bD)(hl:bD.length<=100000)(hk:∀p cc w',PJ c w0 Z Y W d w' s l (aa p (bD.length+1) cc) (bD++[n])->qY Y w w'->K p (bD.length+1) cc w'):
  aP ag (bw 203 1 #[(0,ah aL (n:Int))]) w λ r w1=>az (ax r) λ sP sL sC=>aP ag (cM #[203,203] 203 #[vl,aa sP sL sC]) w1 λ r2 w2=>az (ax r2) λ p n c=>K p n c w2:=by
 obtain⟨Zc,v,h⟩:=h;refine HL zo (Dm n w) h.own (by omega) (by omega) (λ p cc w' R J y=> ?_);have Jr:d.block<w.heap.size:=h.dec.1.lt (by simp);have I:∀b,w.heap.size<=b->¬Z b:=λ b y hz=>by
  have:=h.wl.2.2.1 b hz;have:=h.wl.2.2.2.size;omega
 have H:∀b,w.heap.size<=b->¬Y b:=λ b y N=>by
  obtain⟨⟨_,_,q⟩,_⟩:=h.wl;have:=(q.ys.1 b N).2;omega
 have hw:=h.wl.loc J (λ b o u=>⟨(h.vz b u.1).1,(h.vz b u.1).2.1⟩);refine hk p cc w' ⟨_,v,hw, .inl h.dz,h.dn,h.dy,h.dec.fr J (λ o u=>(h.vz _ u.1).2.2.1 rfl) (λ b y o u=>(h.vz b u.1).2.2.2 (h.vy b y)),h.vy,R,λ x G=> ?_⟩ (J.mono (λ b o _ u N=>(h.vz b u.1).2.2.2 N));rcases y with y|⟨g,Q,E⟩
 ·rw[y] at G;obtain⟨U,X⟩:=h.vz x G;exact⟨.inl U,X⟩
 ·rw[Q] at G;cases G;refine⟨.inr ⟨E, ?_⟩,I _ E,by omega,H _ E⟩;exact R.lt Q
theorem PJ.cut{p:OA}{n cc:Nat}(h:PJ c w0 Z Y W d w s l (aa p n cc) bD):PJ c w0 Z Y W d w s l (aa p 0 cc) []:=by
 obtain⟨r,v,h⟩:=h;have q:=h.own;obtain⟨_,_,e,_⟩:=q.ex;have u:Own w 1 (aa p 0 cc) 0 []:=by
  cases e;exact Own.cut q
 refine⟨r,v,h.wl,h.dz,h.dn,h.dy,h.dec,h.vy,u,λ x y=>h.vz x ?_⟩;rw[<-y];cases p<;>rfl
theorem PJ.sl(h:PJ c w0 Z Y W d w s l vl bD):∃p cc,vl=aa p bD.length cc/\bD.length<=cc:=by
 obtain⟨q,v,h⟩:=h;exact h.own.ex
theorem PJ.IV [RF c][RL c]{name:Wd}(h:PJ c w0 Z Y W d w s l vl bD)(H:∀n∈bD,n<4294967296)(E:bD.length<=1000)(q:s.li.length<=1000)(u:s.F.length<=1070000000):
  au ag 239 #[an (some W),aC (bs name),vl] w λ r w'=>r=aA/\∃X p b1 dig,X.length<=100+4*bD.length/\p<=1073741824/\PJ c w0 Z Y W d w' {s with F:=s.F++X,li:=s.li++[(name,p)],b1:=b1,dig:=dig} l vl bD/\qY Y w w':=by
 obtain⟨J,v,h⟩:=h;refine aF (Go.Proofs.IV (name:=name) h.wl.1 h.own.cV (λ y I=>(h.vz y I).1) H E q u) ?_;rintro _ w' ⟨rfl,X,p,b1,dig,x,G,h'⟩;exact⟨rfl,X,p,b1,dig,x,G,h.step h'⟩
theorem PJ.inv [RO c](h:PJ c w0 Z Y W d w s l vl bD):C1 c w0 Z w W s:=by
 obtain⟨q,v,h⟩:=h;exact h.wl.inv
theorem PJ.map(h:PJ c w0 Z Y W d w s l vl bD):at_ w (W.add 38) (.map (some c.r1))/\dY dM dZ w c.r1 s.m1:=by
 obtain⟨r,v,h⟩:=h;obtain⟨⟨_,_,q⟩,_⟩:=h.wl;exact⟨q.eI 4 rfl,q.M1⟩
end
section
variable{c:WC}{tag:Nat->Nat}{g:WV}{w0:ak}{Z Y:Nat->Prop}{w w':ak}{W d:kd}{s s':cF}{l:Wd}{vl:ay}{bD:List Nat}
def LG(A:Wd)(s s':cF)(k:Nat):Prop:=
 ∃X li b1 dig,s'={s with F:=A++X,li:=li,b1:=b1,dig:=dig}/\X.length<=5000*k/\li.length<=k/\∀x∈li,x.1.length<=1000/\x.2<18446744073709551616
theorem LG.m1{A:Wd}{k:Nat}(h:LG A s s' k):s'.m1=s.m1:=by
 obtain⟨X,li,b1,dig,rfl,_⟩:=h;rfl
theorem TM{K:ay->ak->Prop}{q:OA->kd->kd->Int->OA->Nat->Nat->OA->Nat->Nat->ak->Prop}{r:OA}{cnt:Int}{U I up:OA}{R Q H G N J n:Nat}{u:Wd}
  (h:PJ c w0 Z Y W d w s l (aa U R Q) bD)(hu:Rd Y w (aa up N J) u)(hm:s.m1 u=some n)(hl:bD.length<=1000)
  (hk:∀p cc w',PJ c w0 Z Y W d w' s l (aa p (bD.length+1) cc) (bD++[n])->qY Y w w'->q r W d cnt I H G p (bD.length+1) cc w'):
  sa K q r W d cnt U R Q I H G up N J w:=by
 unfold sa;have hd:=h.drew;have y:=hu.fr (Fr.mono (cu w) (λ _ _ _ x=>x.elim));obtain⟨E,hM⟩:=hd.map;obtain⟨_,_,e,_⟩:=aX.ex y.1;cases e;refine⟨_,E,_,mU y.1,_,rfl,_,zp hM hm,_,_,rfl,_,rfl,_,rfl,aT rfl ?_⟩;exact hd.push (by omega) (λ p cc w' X h2=>hk p cc w' X ((Fr.mono (cu w) (λ _ _ _ x=>x.elim)).step h2 (λ _ _ x _=>x)))
theorem LG.add{A:Wd}{k p:Nat}{X name b1 dig:Wd}(h:LG A s s' k)(J:X.length<=5000)(K:p<=1073741824)(E:name.length<=1000):LG A s {s' with F:=s'.F++X,li:=s'.li++[(name,p)],b1:=b1,dig:=dig} (k+1):=by
 obtain⟨u,li,G,r,rfl,H,I,y⟩:=h;refine⟨u++X,li++[(name,p)],b1,dig,by simp,by rw[aY];omega,by simp;omega,λ x q=> ?_⟩;rcases mG.1 q with q|q
 ·exact y x q
 ·simp at q;subst q;exact⟨E,by show p<_;omega⟩
theorem LG.up{A:Wd}{k r:Nat}(h:LG A s s' k)(H:k<=r):LG A s s' r:=by
 obtain⟨u,li,x,q,rfl,E,G,y⟩:=h;exact⟨u,li,x,q,rfl,by omega,by omega,y⟩
theorem TN [RF c][RL c]{A:Wd}{k:Nat}{G:OA}{E y:Nat}{cur:Wd}(h:PJ c w0 Z Y W d w s' l vl bD)(J:Rd Y w (aa G E y) cur)(u:cur.length<=1000)(N:LG A s s' k)(hk:k<=1000)(hA:A.length<=536870912)(hv:∀n∈bD,n<4294967296)(hl:bD.length<=1000){K:ay->ak->Prop}
  (R:∀w' q,PJ c w0 Z Y W d w' q l vl bD->qY Y w w'->LG A s q (k+1)->K aA w'):
  aP ag (dq 26 9 (aa G E y)) w λ r w2=>bg (ax r) λ x=>au ag 239 #[an (some W),aC x,vl] w2 λ r w3=>aM (ax r) λ v=>K v w3:=by
 obtain⟨_,_,e,_⟩:=aX.ex J.1;cases e;refine⟨_,_,mU J.1,_,rfl, ?_⟩;have I:s'.li.length<=1000/\s'.F.length<=1070000000:=by
  obtain⟨Q,li,b0,H,rfl,h1,h2,h3⟩:=N;refine⟨by show li.length<=_;omega, ?_⟩;show(A++Q).length<=_;rw[aY];omega
 refine aF (h.IV (name:=cur) hv hl I.1 I.2) ?_;rintro _ w' ⟨rfl,X,p,b1,dig,hX,hp,h',U⟩;exact⟨_,rfl,R w' _ h' U (N.add (by omega) hp u)⟩
theorem ahd [RF c][RL c][RO c]{K:ay->ak->Prop}{T:List (Wd×Wd×Nat)}{A:Wd}{u cp vp:OA}{cL cC vL vC:Nat}
  (h:PJ c w0 Z Y W d w s' (T.flatMap cX) (aa vp vL vC) [])(hc:Rd Y w (aa cp cL cC) [])(N:LG A s s' 0)(hT:∀t∈T,t.1.length<=1000/\t.2.2<9223372036854775808/\(t.1≠[]->∃n,s.m1 t.2.1=some n/\n<4294967296))(oD:T.length<=999)(hA:A.length<=536870912)
  (hK:∀w' s',C1 c w0 Z w' W s'->LG A s s' (T.length+1)->K aA w'):
  ub K u W d (T.length:Int) cp cL cC vp vL vC w:=by
 refine aa' (λ x W' d' q X U R ve vL' Jy w'=>u=x/\W=W'/\d=d'/\∃k:Nat,q=((T.length-k:Nat):Int)/\k<=T.length/\∃s' bD cur,PJ c w0 Z Y W d w' s' ((T.drop k).flatMap cX) (aa ve vL' Jy) bD/\Rd Y w' (aa X U R) cur/\cur.length<=1000/\LG A s s' k/\bD.length<=k/\∀n∈bD,n<4294967296) (λ _ _ _ q _ _ _ _ _ _ _=>q.toNat) ?_ ?_
 ·exact⟨rfl,rfl,rfl,0,by simp,by omega,s',[],[],by simpa using h,hc,by simp,N,by simp,by simp⟩
 ·rintro _ _ _ _ cp cL cC vp vL vC w ⟨rfl,rfl,rfl,k,rfl,hk,s',bD,cur,h,hc,jW,N,TO,hv⟩;have hvL:vL=bD.length:=by
   obtain⟨_,_,e,_⟩:=h.sl;injection e
  subst hvL;have qT:k=T.length->xx K u W d cp cL cC vp bD.length vC w:=by
   intro gT;unfold xx;refine aF h.fU ?_;rintro _ w ⟨rfl,rfl⟩;refine⟨_,rfl,_,λ w=>cE _ w,_,rfl,aT rfl ?_⟩;refine bn (λ y=> ?_) (λ y=> ?_)
   ·refine TN h hc jW N (by omega) hA hv (by omega) (λ w' J h' hf G=> ?_);refine⟨_,λ w=>cE _ w,_,rfl,aT rfl ?_⟩;exact Jh (hK w' J h'.inv (by rw[<-gT];exact G))
   ·exact Jh (hK w s' h.inv (N.up (by omega)))
  unfold GG;refine aF h.fU ?_;rintro _ w ⟨rfl,rfl⟩;refine⟨_,rfl,_,λ w=>pK _ w,_,rfl,cJ rfl ?_⟩;refine bn (λ y=> ?_) (λ y=> ?_)
  ·have gT:k<T.length:=by simp at y;omega
   unfold GD;have hd:(T.drop k).flatMap cX=bm 2++(b8 (T[k]).1++(b8 (T[k]).2.1++(bm (T[k]).2.2++(T.drop (k+1)).flatMap cX))):=by
    rw[gS gT,fG];simp[cX]
   rw[hd] at h;have ht:=hT (T[k]) (by simp);generalize T[k]=t at h ht;refine aF (h.jh (Q:=λ r _=>r=ah af ((2:Nat):Int)) (λ v _ hd=>kI iO hd (by omega))) ?_;rintro _ w1 ⟨rfl,h1,f1⟩;refine⟨_,rfl, ?_⟩;refine aF h1.jD ?_;rintro nm w2 ⟨Di,h2,f2⟩;obtain⟨np,nC,rfl,_⟩:=aX.ex Di.1;refine⟨_,_,_,rfl, ?_⟩;refine aF h2.jD ?_;rintro um w3 ⟨TP,h3,f3⟩;obtain⟨up,uC,rfl,_⟩:=aX.ex TP.1;refine⟨_,_,_,rfl, ?_⟩;refine aF (h3.jh (Q:=λ r _=>r=ah aj (t.2.2:Int)) (λ v _ hd=>mh iO hd (by omega))) ?_;rintro _ w4 ⟨rfl,h4,f4⟩;refine⟨_,rfl, ?_⟩;have I:=(Di.fr f3).fr f4;have TQ:=TP.fr f4;have E:=(((hc.fr f1).fr f2).fr f3).fr f4;have IJ:aq aj (((T.length-k:Nat):Int)-1)=((T.length-(k+1):Nat):Int):=by
    rw[dV (by omega) (by omega)];omega
   rw[IJ];refine bn (λ kL=> ?_) (λ kL=> ?_)
   ·exact⟨⟨rfl,rfl,rfl,k+1,rfl,by omega,s',bD,cur,h4,E,jW,N.up (by omega),by omega,hv⟩,by omega⟩
   ·have eY:t.1≠[]:=by
     intro e;rw[e] at kL;simp at kL
    obtain⟨n,TR,hn⟩:=ht.2.2 eY;obtain⟨_,_,e1,_⟩:=aX.ex I.1;obtain⟨_,_,e2,_⟩:=aX.ex E.1;have ahf:cL=cur.length:=by injection e2
    subst ahf;refine aF (ahc I.1 E.1) ?_;rintro _ w4 ⟨rfl,rfl⟩;refine⟨_,rfl, ?_⟩;have Am:sa K (λ x W' d' q X U R ve vL' Jy w'=>(u=x/\W=W'/\d=d'/\∃k:Nat,q=((T.length-k:Nat):Int)/\k<=T.length/\∃s' bD cur,PJ c w0 Z Y W d w' s' ((T.drop k).flatMap cX) (aa ve vL' Jy) bD/\Rd Y w' (aa X U R) cur/\cur.length<=1000/\LG A s s' k/\bD.length<=k/\∀n∈bD,n<4294967296)/\q.toNat<((T.length-k:Nat):Int).toNat) u W d ((T.length-(k+1):Nat):Int) vp bD.length vC np t.1.length nC up t.2.1.length uC w4:=by
     refine TM (s:=s') h4 TQ (by rw[N.m1];exact TR) (by omega) (λ p cc w' h5 f5=> ?_);refine⟨⟨rfl,rfl,rfl,k+1,rfl,by omega,s',bD++[n],t.1,h5,I.fr f5,ht.1,N.up (by omega),by simp;omega,λ m H=> ?_⟩,by omega⟩;rcases mG.1 H with H|H
     ·exact hv m H
     ·simp at H;subst H;exact hn
    refine bn (λ uM=> ?_) (λ uM=>Am);refine bn (λ hc5=> ?_) (λ hc5=>Am);unfold GC;refine TN h4 E jW N (by omega) hA hv (by omega) (λ w' J h' hf G=> ?_);refine⟨_,λ w=>cE _ w,_,rfl,aT rfl ?_⟩;refine⟨_,λ w=>ahb (e:=152) (by kernel_rfl) (z:=1) (by kernel_rfl) _ _ _ w,_,_,_,rfl, ?_⟩;refine TM (s:=J) h'.cut (TQ.fr hf) (by rw[G.m1];exact TR) (by simp) (λ p cc w' h5 f5=> ?_);refine⟨⟨rfl,rfl,rfl,k+1,rfl,by omega,J,[n],t.1,h5,(I.fr hf).fr f5,ht.1,G,by simp,λ m H=> ?_⟩,by omega⟩;simp at H;subst H;exact hn
  ·exact qT (by simp at y;omega)
theorem ahh [RF c][RL c][RO c]{T:List (Wd×Wd×Nat)}(h:C1 c w0 Z w W s)(hO:s.eR=true)(hTO:s.O=T.flatMap cX)(TU:s.cnt=T.length)(uW:s.li=[])(hT:∀t∈T,t.1.length<=1000/\t.2.2<9223372036854775808/\(t.1≠[]->∃n,s.m1 t.2.1=some n/\n<4294967296))(oD:T.length<=999)(hF:s.F.length<=536870912):
  au ag 181 #[an (some W)] w λ r w'=>r=aA/\∃s',C1 c w0 Z w' W s'/\LG s.F s s' (T.length+1):=by
 have y6:s.O.length<=1073741824:=by
  obtain⟨_,_,q⟩:=h;exact q.O.2.2.2
 have zm:∀{w:ak},C1 c w0 Z w W s->at_ w (W.add 2) (an (some c.o)):=λ q=>by
  have:=q.dP 2 rfl;rwa[if_pos hO] at this
 have hg0:LG s.F s s 0:=⟨[],[],s.b1,s.dig,by rw[iA,<-uW],by simp,by simp,by simp⟩;apply aba;unfold O5;refine⟨_,zm h, ?_⟩;refine aF sQ ?_;rintro _ w ⟨rfl,rfl⟩;refine⟨_,rfl,_,λ w=>cE _ w,_,rfl,aT rfl ?_⟩;refine⟨_,zm h, ?_⟩;obtain⟨tag,g,q⟩:=h;refine aF (Jn q.O) ?_;rintro _ w7 ⟨op,oc,rfl,X,zn,k7,Jp⟩;refine⟨_,_,rfl,_,rfl,_,rfl, ?_⟩;refine⟨_,λ w=>cE _ w,_,rfl,aT rfl ?_⟩;have oj:=k7.trans (cu w7);have R:=q.aH oj;have TV:=zn.aH (cu w7);generalize w7.drew=y at*;have oA:∀{w:ak},aS y w->at_ w (W.add 2) (an (some c.o)):=λ k=>by
  have:=(R.aH k).dP 2 rfl;rwa[if_pos hO] at this
 have oP:∀{w:ak},aS y w->at_ w (c.o.add 1) (ah aj (s.O.length:Int)):=λ k=>(R.aH k).O.pos
 have oC:∀{w:ak},aS y w->at_ w (W.add 3) (ah aj (T.length:Int)):=λ k=>by
  have:=(R.aH k).dP 3 rfl;rwa[TU] at this
 have J:cz y (aa op s.O.length oc) s.O:=by
  have:=R.O.eD;rwa[X] at this
 have K:∀{w:ak} {d:Nat} {q:OA} {U:Nat} {jX:OA},aS y w->y.heap.size<=d->Ob w ⟨d,0,none⟩ [aa q s.O.length U,aA]->cz w (aa q s.O.length U) s.O->aN (aa q s.O.length U)=aN (aa op s.O.length oc)->
   aD aj (at_ w (W.add 3)) λ n=>aP ag (bw 26 0 #[]) w λ r vf=>az (ax r) λ sP sL sC=>aP ag (bw 203 0 #[]) vf λ r zq=>az (ax r) λ sP7 sL7 sC7=>
    ub (λ r w'=>r=aA/\∃s',C1 c w0 Z w' W s'/\LG s.F s s' (T.length+1)) jX W ⟨d,0,none⟩ n sP sL sC sP7 sL7 sC7 zq:=by
  intro w d qp U jX k hd I H jN;refine⟨_,oC k,_,_,Ju w,_,_,_,rfl, ?_⟩;have k1:=bA w (.cells #[] 5);refine⟨_,_,TL _,_,_,_,rfl, ?_⟩;have k2:=k1.trans (bA (w.alloc (.cells #[] 5)) (.cells #[] 152));have sW:=va (w.alloc (.cells #[] 5)) 1 152;have I1:w.heap.size<(w.alloc (.cells #[] 5)).heap.size:=by simp
  have Jz:(w.alloc (.cells #[] 5)).heap.size<((w.alloc (.cells #[] 5)).alloc (.cells #[] 152)).heap.size:=by simp
  generalize ((w.alloc (.cells #[] 5)).alloc (.cells #[] 152))=w2 at*;generalize (w.alloc (.cells #[] 5)).heap.size=n1 at*;have kw:aS y w2:=k.trans k2;have qe:=R.aH kw;have Jr:d<w.heap.size:=I.lt (by simp);have lJ:=oj.size;have hkz:=k.size;have TW:∀b,y.heap.size<=b->¬Z b:=λ b H hz=>by
   have:=R.eL b hz;have:=R.kp.size;omega
  have qW:∀b,y.heap.size<=b->tag b=0:=λ b H=>R.top b H
  have TX:∀x,aN (aa qp s.O.length U)=some x->x<y.heap.size/\tag x=9:=λ x N=>by
   have:=R.fh x;rw[X,<-jN] at this;exact this N
  have eY:aN (aa qp s.O.length U)≠some d:=λ e=>by
   have:=(TX d e).1;omega
  refine ahd (c:=c) (w0:=w0) (Z:=Z) (Y:=Js w2 tag) (A:=s.F) (s:=s) (s':=s) ⟨Jt w2 tag,aa qp s.O.length U,qe.wl,⟨by show d<_;omega,qW d hd⟩,TW d hd, ?_, ?_, ?_,sW, ?_⟩ ?_ hg0 hT oD hF (λ w' s' E h2=>⟨rfl,s',E,h2⟩)
  ·rintro⟨_,E⟩;rw[qW d hd] at E;rcases E with E|E<;>cases E
  ·rw[<-hTO];exact⟨I.aH k2,Sl.aH H k2,eY,y6⟩
  ·intro x N;have:=TX x N;exact⟨by omega, .inr this.2⟩
  ·intro x N;cases N;have JA:y.heap.size<=n1:=by omega
   refine⟨⟨Jz,qW n1 JA⟩,TW n1 JA,by show n1≠d;omega, ?_⟩;rintro⟨_,E⟩;change tag n1=8\/tag n1=9 at E;rw[qW n1 JA] at E;rcases E with E|E<;>cases E
  ·exact⟨aX.nil _ _ _ _, .inl rfl⟩
 have k9:=aS.refl y;refine⟨_,oA k9,_,oP k9, ?_, ?_⟩
 ·refine aF (u7 TV) ?_;rintro _ y ⟨rfl,rfl⟩;refine⟨_,_,_,rfl,by simpa using oP k9,by simpa using oA k9, ?_, ?_⟩
  ·rw[bk (by omega) (by omega)];refine aF (pT J rfl) ?_;rintro _ G ⟨q,U,rfl,hq,H,dj⟩;refine⟨_,_,_,_,rfl,by simpa using oP dj,by simpa using oA dj, ?_⟩;have I:=Ob.new G [aa none 0 0,aA] 182;have u:=dj.trans (bA G (.cells ⟨[aa none 0 0,aA]⟩ 182));refine⟨by simpa using oP u,by simpa using oA u, ?_⟩;refine pS I (bA G (.cells ⟨[aa none 0 0,aA]⟩ 182)) (bB _) trivial trivial (λ gA u' u _=> ?_);exact K (dj.trans u) dj.size u' (Sl.aH hq u) H
  ·have I:=Ob.new y [aa none 0 0,aA] 182;have dj:=bA y (.cells ⟨[aa none 0 0,aA]⟩ 182);have Q:y.heap.size<(y.alloc (.cells ⟨[aa none 0 0,aA]⟩ 182)).heap.size:=I.lt (by simp);dsimp only[a_];change aK (y.alloc (.cells ⟨[aa none 0 0,aA]⟩ 182)) _ _ _ _;generalize (y.alloc (.cells ⟨[aa none 0 0,aA]⟩ 182))=G at I dj Q;refine⟨by simpa using oP dj,by simpa using oA dj, ?_⟩;rw[bk (by omega) (by omega)];refine aF (pT (Sl.aH J dj) rfl) ?_;rintro _ gA ⟨q,U,rfl,hq,H,u⟩;refine⟨_,_,_,_,rfl,by simpa using oP (dj.trans u),by simpa using oA (dj.trans u), ?_⟩;refine pS (w:=y) (I.aH u) (dj.trans u) (bB _) trivial trivial (λ gn pU iK f12=> ?_);refine K iK (bB _) pU (aX.away hq f12 (λ x N o e=> ?_)) H;rw[H,<-X] at N;have:=(R.fh x N).1;omega
 ·have I:=Ob.new y [aa none 0 0,aA] 182;have dj:=bA y (.cells ⟨[aa none 0 0,aA]⟩ 182);have Q:y.heap.size<(y.alloc (.cells ⟨[aa none 0 0,aA]⟩ 182)).heap.size:=I.lt (by simp);dsimp only[a_];change aK (y.alloc (.cells ⟨[aa none 0 0,aA]⟩ 182)) _ _ _ _;generalize (y.alloc (.cells ⟨[aa none 0 0,aA]⟩ 182))=G at I dj Q;refine⟨by simpa using oP dj,by simpa using oA dj, ?_⟩;refine aF (u7 (TV.aH dj)) ?_;rintro _ G ⟨rfl,rfl⟩;refine⟨_,_,_,rfl,by simpa using oP dj,by simpa using oA dj, ?_⟩;rw[bk (by omega) (by omega)];refine aF (pT (Sl.aH J dj) rfl) ?_;rintro _ gA ⟨q,U,rfl,hq,H,u⟩;refine⟨_,_,_,_,rfl,by simpa using oP (dj.trans u),by simpa using oA (dj.trans u), ?_⟩;refine pS (w:=y) (I.aH u) (dj.trans u) (bB _) trivial trivial (λ gn pU iK f12=> ?_);refine K iK (bB _) pU (aX.away hq f12 (λ x N o e=> ?_)) H;rw[H,<-X] at N;have:=(R.fh x N).1;omega
end
section
variable{c:WC}[RF c][RL c][RO c]{tag:Nat->Nat}{g:WV}{w0:ak}{Z Y:Nat->Prop}{w w':ak}{W d:kd}{s s':cF}{l:Wd}
def eZ:Wd:=be 4 3131758336++[2]
theorem qZ:eZ.length=5:=by unfold eZ;rw[aY,cH];rfl
def ic(S:List Wd):Wd->Option Nat:=λ x=>if x∈S then some (S.idxOf x) else none
theorem ahn(S:List Wd)(x:Wd)(r:x∉S):cU (ic S) x S.length=ic (S++[x]):=by
 funext y;unfold cU ic;by_cases h:y=x
 ·subst h;rw[if_pos rfl,if_pos (by simp),List.idxOf_append,if_neg r];simp
 ·rw[if_neg h];by_cases q:y∈S
  ·rw[if_pos q,if_pos (by simp[q]),List.idxOf_append,if_pos q]
  ·rw[if_neg q,if_neg (by simp[q,h])]
def jt(b1 dig:Wd):cF:=
 {F:=eZ,P:=[],O:=[],fN:=true,eR:=true,cnt:=0,t0:=0,t1:=0,t2:=0,t3:=0,t4:=0,t5:=0,stage:=0,pst:=0,b1:=b1,b2:=[],nsym:=0,last:=[],m1:=ic [],m2:=λ _=>none,li:=[],ls:=[],lref:=0,lcref:=0,dig:=dig,sym:=none,ir:=[]}
def kv(S:List Wd)(b1 dig:Wd):cF:=
 {jt b1 dig with F:=eZ++([97,108,101,110,98,108,101,110]++S.flatMap b8),t0:=5,stage:=1,nsym:=S.length,last:=S.getLast?.getD [],m1:=ic S}
def eB(S:List Wd):Wd:=eZ++dh (cY S)
def Dn(S:List Wd)(b1 dig:Wd):cF:=
 {kv S b1 dig with F:=eB S,t1:=(eB S).length,stage:=2,sym:=some S,ir:=eB S}
theorem C1.lR(h:C1 c w0 Z w W s){hP hO:Bool}{cnt t0 t1 t2 t3 t4 t5 stage pst k:Nat}{v:ay}(u:k<12)
  (r:gm c {s with fN:=hP,eR:=hO,cnt:=cnt,t0:=t0,t1:=t1,t2:=t2,t3:=t3,t4:=t4,t5:=t5,stage:=stage,pst:=pst}=(gm c s).set k v):
  C1 c w0 Z (w.setCell (W.add k) v) W {s with fN:=hP,eR:=hO,cnt:=cnt,t0:=t0,t1:=t1,t2:=t2,t3:=t3,t4:=t4,t5:=t5,stage:=stage,pst:=pst}:=by
 obtain⟨tag,g,q⟩:=h;exact⟨tag,g,q.lR u r⟩
theorem C1.s7(h:C1 c w0 Z w W s)(k:Nat)(r:k<12):V.can w (W.add k):=by
 obtain⟨_,_,q⟩:=h;exact q.A.can k (by simpa[gm] using r)
theorem C1.sp(h:C1 c w0 Z w W s):W.spot=none:=by
 obtain⟨_,_,q⟩:=h;exact q.sp
theorem TY{n:Nat}(h:C1 c w0 Z w W s)(q:s.stage=n):au ag 125 #[an (some W),ah aG (n:Int)] w λ r w'=>r=aA/\w'=w:=by
 apply tX;unfold r6;refine⟨_,h.dP 10 rfl, ?_⟩;rw[q];exact cJ (by simp) ⟨rfl,rfl⟩
theorem JB{K:ay->ak->Prop}{n:Nat}(h:C1 c w0 Z w W s)(q:∀w',C1 c w0 Z w' W {s with stage:=n}->K aA w'):r5 K W (n:Int) w:=by
 unfold r5;exact⟨⟨trivial,h.s7 10 (by omega)⟩,q _ (h.lR (hP:=s.fN) (hO:=s.eR) (cnt:=s.cnt) (t0:=s.t0) (t1:=s.t1) (t2:=s.t2) (t3:=s.t3) (t4:=s.t4) (t5:=s.t5) (stage:=n) (pst:=s.pst) (k:=10) (v:=ah aG (n:Int)) (by omega) rfl)⟩
theorem aho{K:ay->ak->Prop}{b1 dig:Wd}(h:C1 c w0 Z w W (jt b1 dig))(u:∀w',C1 c w0 Z w' W (kv [] b1 dig)->K aA w'):pe K W 1 w:=by
 unfold pe;refine⟨_,h.dP 10 rfl, ?_⟩;refine aT (by show decide (((0:Nat):Int)>1)=false;decide) ?_;refine cJ (by decide) ?_;refine⟨_,h.eM,_,h.pos,⟨trivial,h.s7 4 (by omega)⟩, ?_⟩;have q:=h.lR (hP:=true) (hO:=true) (cnt:=0) (t0:=5) (t1:=0) (t2:=0) (t3:=0) (t4:=0) (t5:=0) (stage:=0) (pst:=0) (k:=4) (v:=ah aj ((jt b1 dig).F.length:Int)) (by omega) (by
  show _=(gm c (jt b1 dig)).set 4 (ah aj (eZ.length:Int));rw[qZ];rfl)
 dsimp only;generalize (w.setCell (W.add 4) (ah aj ((jt b1 dig).F.length:Int)))=x at q;refine aF (afq q (by show eZ.length<=_;rw[qZ];omega)) ?_;rintro _ y ⟨rfl,r⟩;refine⟨_,rfl,_,λ w=>cE _ w,_,rfl,aT rfl ?_⟩;exact JB (n:=1) r (λ w' h'=>u w' h')
theorem ash{K:ay->ak->Prop}{S:List Wd}{b1 dig:Wd}(h:C1 c w0 Z w W (kv S b1 dig))(y:S.length<=100000)(E:(S.flatMap b8).length<=1073000000)(x:∀w' b1,C1 c w0 Z w' W (Dn S b1 dig)->K aA w'):pe K W 2 w:=by
 unfold pe;refine⟨_,h.dP 10 rfl, ?_⟩;refine aT (by show decide (((1:Nat):Int)>2)=false;decide) ?_;refine aT (by decide) ?_;refine cJ (by decide) ?_;refine aF (ags (H:=eZ) (S:=S) h qZ rfl rfl rfl y (by show(eZ++([97,108,101,110,98,108,101,110]++S.flatMap b8)).length<=_;rw[aY,aY,qZ];show 5+(8+_)<=_;omega) rfl rfl) ?_;rintro _ G ⟨rfl,r,q⟩;refine⟨_,rfl,_,λ w=>cE _ w,_,rfl,aT rfl ?_⟩;refine⟨_,q.eM,_,q.pos, ?_⟩;rw[add_add _ _ _ q.sp];refine⟨⟨trivial,q.s7 5 (by omega)⟩, ?_⟩;have u:=q.lR (hP:=true) (hO:=true) (cnt:=0) (t0:=5) (t1:=(eB S).length) (t2:=0) (t3:=0) (t4:=0) (t5:=0) (stage:=1) (pst:=0) (k:=5) (v:=ah aj ((eB S).length:Int)) (by omega) rfl;exact JB (n:=2) u (λ w' h'=>x w' r h')
theorem T3{b1 dig:Wd}(h:C1 c w0 Z w W (jt b1 dig)):au ag 125 #[an (some W),ah aG 1] w λ r w'=>r=aA/\C1 c w0 Z w' W (kv [] b1 dig):=by
 apply tX;unfold r6;refine⟨_,h.dP 10 rfl,aT (by show(((0:Nat):Int)==1)=false;decide) ⟨_,h.dP 10 rfl,aT (by show decide (((0:Nat):Int)<_)=false;decide) ?_⟩⟩;exact aho h (λ w' h'=>⟨rfl,h'⟩)
theorem ahp{S:List Wd}{b1 dig:Wd}(h:C1 c w0 Z w W (kv S b1 dig))(q:S.length<=100000)(u:(S.flatMap b8).length<=1073000000):au ag 125 #[an (some W),ah aG 2] w λ r w'=>r=aA/\∃b1,C1 c w0 Z w' W (Dn S b1 dig):=by
 apply tX;unfold r6;refine⟨_,h.dP 10 rfl,aT (by show(((1:Nat):Int)==2)=false;decide) ⟨_,h.dP 10 rfl,aT (by show decide (((1:Nat):Int)<_)=false;decide) ?_⟩⟩;exact ash h q u (λ w' b1 h'=>⟨rfl,b1,h'⟩)
theorem ahq{b1 dig:Wd}(h:C1 c w0 Z w W (jt b1 dig)):au ag 125 #[an (some W),ah aG 2] w λ r w'=>r=aA/\∃b1,C1 c w0 Z w' W (Dn [] b1 dig):=by
 apply tX;unfold r6;refine⟨_,h.dP 10 rfl,aT (by show(((0:Nat):Int)==2)=false;decide) ⟨_,h.dP 10 rfl,cJ (by show decide (((0:Nat):Int)<_)=true;decide) ?_⟩⟩;refine aF (T3 h) ?_;rintro _ u ⟨rfl,q⟩;refine⟨_,rfl,_,λ w=>cE _ w,_,rfl,aT rfl ?_⟩;exact ash q (by simp) (by simp) (λ w' b1 h'=>⟨rfl,b1,h'⟩)
theorem C1.kO(h:C1 c w0 Z w W s){nsym lref lcref k:Nat}{last ls:Wd}{v:ay}(u:k<13)
  (r:∀g,gO c g {s with nsym:=nsym,last:=last,ls:=ls,lref:=lref,lcref:=lcref}=(gO c g s).set k v):
  C1 c w0 Z (w.setCell (W.add (34+k)) v) W {s with nsym:=nsym,last:=last,ls:=ls,lref:=lref,lcref:=lcref}:=by
 obtain⟨tag,g,q⟩:=h;exact⟨tag,g,q.kO u (r g)⟩
theorem C1.zr(h:C1 c w0 Z w W s)(k:Nat)(r:k<13):V.can w (W.add (34+k)):=by
 obtain⟨_,g,q⟩:=h;have:=q.C.can k (by simpa[gO] using r);rwa[add_add _ _ _ q.sp] at this
theorem C1.ahr{K:ak->Prop}{x:Wd}{n:Nat}(h:C1 c w0 Z w W s)(y:∀w',C1 c w0 Z w' W {s with m1:=cU s.m1 x n}->K w'):
  aP ag (do fF 216 (.map (some c.r1)) (aC (bs x)) (ah aL (n:Int));pure dU) w λ _ w'=>K w':=by
 obtain⟨tag,g,q⟩:=h;obtain⟨w',G,E,u⟩:=sn TH sZ q.M1 x n;refine⟨dU,w', ?_,y w' ⟨_,_,q.uR E u⟩⟩;have r:(fF 216 (.map (some c.r1)) (aC (bs x)) (ah aL (n:Int))).run ag w= .ok () w':=G;simp[go_sem,r,iV]
theorem T4{K:ay->ak->Prop}{S:List Wd}{x b1 dig:Wd}(h:C1 c w0 Z w W (kv S b1 dig))(X:x∉S)(hS:S.length<=100000)(uQ:x.length<=1000)(hl:(S.flatMap b8).length<=536870912)(U:∀w' b1,C1 c w0 Z w' W (kv (S++[x]) b1 dig)->K aA w'):xk K W (bs x) w:=by
 unfold xk;refine⟨⟨trivial,h.zr 3 (by omega)⟩, ?_⟩;have u:=h.kO (nsym:=S.length) (last:=x) (ls:=[]) (lref:=0) (lcref:=0) (k:=3) (v:=aC (bs x)) (by omega) (λ g=>rfl);rw[show 34+3=37 from rfl] at u;generalize (w.setCell (W.add 37) (aC (bs x)))=w1 at u;have q:=u.drew;refine⟨_,q.eI 4 rfl,_,q.eI 0 rfl, ?_⟩;dsimp only;rw[iY (by omega) (by omega)];refine q.ahr (n:=S.length) (λ w2 r=> ?_);dsimp only at r;refine⟨_,r.eI 0 rfl, ?_⟩;dsimp only;rw[show aq af ((S.length:Int)+1)=((S.length+1:Nat):Int) by rw[bk (by omega) (by omega)];omega];refine⟨⟨trivial,r.zr 0 (by omega)⟩, ?_⟩;have y:=r.kO (nsym:=S.length+1) (last:=x) (ls:=[]) (lref:=0) (lcref:=0) (k:=0) (v:=ah af ((S.length+1:Nat):Int)) (by omega) (λ g=>rfl);rw[show 34+0=34 from rfl] at y;generalize (w2.setCell (W.add 34) (ah af ((S.length+1:Nat):Int)))=w3 at y;refine aF (y.dQ (λ v E=>iZ E)) ?_;intro _ w4 G;dsimp only at G;refine aF (G.dQ (λ v E=>ux (s:=bs x) E (by simp[fB];omega))) ?_;intro _ w5 H;dsimp only at H;have hu:(bm x.length).length<=10:=fw 10 _ (by omega) (by omega);refine H.ld (by show(eZ++([97,108,101,110,98,108,101,110]++S.flatMap b8)).length+([]++b8 (bs x).data.toList).length<=_;rw[aY,aY,qZ];show 5+(8+_)+_<=_;simp only[oS,b8,aY,bs];omega) (λ w6 I=> ?_);dsimp only at I;refine U w6 ([]++b8 (bs x).data.toList) ?_;have J:ic (S++[x])=cU (ic S) x S.length:=(ahn S x X).symm;have N:(S++[x]).getLast?.getD []=x:=by simp
 have Q:(S++[x]).length=S.length+1:=by simp
 have R:eZ++([97,108,101,110,98,108,101,110]++(S++[x]).flatMap b8)=(eZ++([97,108,101,110,98,108,101,110]++S.flatMap b8))++([]++b8 (bs x).data.toList):=by simp[bs]
 unfold kv;rw[J,N,Q,R];exact I
theorem k61{S:List Wd}{x b1 dig:Wd}(h:C1 c w0 Z w W (kv S b1 dig))(I:WS (S++[x]))(N:S.length<=100000)(H:x.length<=1000)(E:(S.flatMap b8).length<=536870912):
  au ag 61 #[an (some W),aC (bs x)] w λ r w'=>r=aA/\∃b1,C1 c w0 Z w' W (kv (S++[x]) b1 dig):=by
 have G:x∉S:=by
  intro G;have:=(List.pairwise_append.1 I).2.2 x G x (by simp);exact CS this rfl
 apply OQ;unfold Gi;refine aF (TY (n:=1) h rfl) ?_;rintro _ w ⟨rfl,rfl⟩;refine⟨_,rfl,_,λ w=>cE _ w,_,rfl,aT rfl ?_⟩;refine⟨_,h.eI 0 rfl, ?_⟩;have q:=T4 (K:=λ r w'=>r=aA/\∃b1,C1 c w0 Z w' W (kv (S++[x]) b1 dig)) h G N H E (λ w' b1 h'=>⟨rfl,b1,h'⟩);refine bn (λ Q=> ?_) (λ _=>q);refine⟨_,h.eI 3 rfl, ?_⟩;refine aT ?_ q;have y:S≠[]:=by
  rintro rfl;simp[kv] at Q
 have E:(S.getLast?.getD [])∈S:=by
  rw[List.getLast?_eq_some_getLast y];exact List.getLast_mem y
 have u:=(List.pairwise_append.1 I).2.2 _ E x (by simp);show(ds (bs x).toList (bs (S.getLast?.getD [])).toList||((bs x).toList==(bs (S.getLast?.getD [])).toList))=false;rw[eG,eG];rw[Bool.or_eq_false_iff];constructor
 ·cases J:ds x (S.getLast?.getD []) with
  |false=>rfl
  |true=>exact absurd rfl (CS (uO J u))
 ·rw[beq_eq_false_iff_ne];exact λ e=>CS u e.symm
theorem aht{x b1 dig:Wd}(h:C1 c w0 Z w W (jt b1 dig))(q:x.length<=1000):
  au ag 61 #[an (some W),aC (bs x)] w λ r w'=>r=aA/\∃b1,C1 c w0 Z w' W (kv [x] b1 dig):=by
 apply OQ;unfold Gi;refine aF (T3 h) ?_;rintro _ y ⟨rfl,u⟩;refine⟨_,rfl,_,λ w=>cE _ w,_,rfl,aT rfl ?_⟩;refine⟨_,u.eI 0 rfl,aT rfl ?_⟩;exact T4 (S:=[]) u (by simp) (by simp) q (by simp) (λ w' b1 h'=>⟨rfl,b1,h'⟩)
end
section
variable{c:WC}[RO c]{tag:Nat->Nat}{g:WV}{w0:ak}{Z Y Zc:Nat->Prop}{w w':ak}{W d cw:kd}{s s':cF}{l:Wd}
theorem C1.Dp(h:C1 c w0 Z w W s):WL c w0 Z Z w W s:=by
 refine⟨h.ey,λ _ x=>x, ?_, ?_⟩<;>obtain⟨_,_,q⟩:=h
 ·exact q.eL
 ·exact q.kp
theorem WL.pV(h:WL c w0 Z Zc w W s):C1 c w0 Z w W s:=by
 obtain⟨⟨tag,g,p⟩,x,y,u⟩:=h;exact⟨tag,g,y,u,λ b q r=>p.own b q (x b r),p.top,p.sp,p.tW,p.A,p.B1,p.dS,p.B2,p.eT,p.C,p.F,p.tF,p.fg,p.P,p.tP,p.fV,p.O,p.tO,p.fh,p.D,p.tD,p.tT,p.M1,p.f_,p.M2,p.fO,p.L,p.S,p.fW,p.gz,p.gP,λ b q=>(RO.no b q).elim,u.mono (λ b o _ _=>RO.no b)⟩
theorem WL.eL(h:WL c w0 Z Zc w W s):∀b,Zc b->b<w.heap.size:=by
 obtain⟨⟨tag,g,p⟩,_⟩:=h;exact p.eL
end
section
variable{c:WC}[RO c]{tag:Nat->Nat}{g:WV}{w0:ak}{Z Y Zc:Nat->Prop}{w w':ak}{W d cw:kd}{s s':cF}{l:Wd}
theorem Dq:mS ag 218 9 43 .string:=⟨by kernel_rfl,by kernel_rfl⟩
def q_(m:Wd->Option Nat)(n:Wd):Wd->Option Nat:=cU m n ((m n).getD 0+1)
theorem JC{w:ak}{r:Nat}{m:Wd->Option Nat}{k:Wd}(h:dY dM mo w r m):(dJ 218 (.map (some r)) (aC (bs k)) false).run ag w= .ok (ah aj (((m k).getD 0:Nat):Int)) w:=by
 have:=(pg Dq sZ (z:=ah aj 0) (λ w=>by kernel_rfl) h k).2;rw[show(ah aj (((m k).getD 0:Nat):Int):ay)=((m k).map mo).getD (ah aj 0) by cases m k<;>rfl];exact this
theorem C1.ahu{K:ak->Prop}{x:Wd}{n:Nat}(h:C1 c w0 Z w W s)(y:∀w',C1 c w0 Z w' W {s with m2:=cU s.m2 x n}->K w'):
  aP ag (do fF 218 (.map (some c.r2)) (aC (bs x)) (ah aj (n:Int));pure dU) w λ _ w'=>K w':=by
 obtain⟨tag,g,q⟩:=h;obtain⟨w',G,E,u⟩:=sn Dq sZ q.M2 x n;refine⟨dU,w', ?_,y w' ⟨_,_,q.sT E u⟩⟩;have r:(fF 218 (.map (some c.r2)) (aC (bs x)) (ah aj (n:Int))).run ag w= .ok () w':=G;simp[go_sem,r,iV]
theorem C1.uR(h:C1 c w0 Z w W s):dY dM dZ w c.r1 s.m1:=by
 obtain⟨_,_,q⟩:=h;exact q.M1
theorem C1.sT(h:C1 c w0 Z w W s):dY dM mo w c.r2 s.m2:=by
 obtain⟨_,_,q⟩:=h;exact q.M2
theorem ahv{n v:Wd}{i j:Nat}(h:C1 c w0 Z w W s)(ho:Ob w0 cw [an (some W)])(hZ:Z cw.block)(hi:s.m1 n=some i)(hj:s.m1 v=some j)(U:i<4294967296)(X:j<4294967296)(hb:s.b2.length<=1073000000)(hm:(s.m2 n).getD 0<4294967296):
  au ag 133 #[aV #[aC (bs n),aC (bs v)],an (some cw)] w λ r w'=>r=aA/\C1 c w0 Z w' W {s with m2:=q_ s.m2 n,b2:=s.b2++(bm i++bm j)}:=by
 have hui:(bm i).length<=10:=fw 10 _ (by omega) (by omega);have E:∀{w:ak} {s:cF},C1 c w0 Z w W s->at_ w cw (an (some W)):=λ h=>by
  have:=ho.fr h.held (λ o _ _ H=>H (.inl hZ));simpa using this.at 0 rfl
 apply aag;unfold Ov;have oL:=Ob.new w [aC (bs n),aC (bs v)] 231;have k1:=bA w (.cells ⟨[aC (bs n),aC (bs v)]⟩ 231);have I:w.heap.size<(w.alloc (.cells ⟨[aC (bs n),aC (bs v)]⟩ 231)).heap.size:=oL.lt (by simp);have N:=(h.Dp).loc k1 (λ _ _ x=>x.elim);dsimp only[a_];generalize hw1:w.alloc (.cells ⟨[aC (bs n),aC (bs v)]⟩ 231)=w1 at oL k1 I N;have J:(λ b=>Z b\/(w.heap.size<=b/\b<w1.heap.size)) w.heap.size:= .inr ⟨bB _,I⟩;obtain⟨u,f1⟩:=N.step N.1.drew;have o1:=oL.aH (cu w1);refine⟨_,E u.pV,_,u.1.eI 4 rfl,_,by simpa using o1.at 0 rfl,_,zp u.1.uR hi,_,_,rfl,_,rfl,_,rfl,aT rfl ?_⟩;obtain⟨y,f2⟩:=u.step u.1.drew;have o2:=o1.aH (cu _);refine⟨_,E y.pV,_,y.1.eI 6 rfl,_,by simpa using o2.at 0 rfl,_,JC y.1.sT,_,rfl, ?_⟩;dsimp only;rw[show aq aj ((((s.m2 n).getD 0:Nat):Int)+1)=(((s.m2 n).getD 0+1:Nat):Int) by rw[dV (by omega) (by omega)];omega];refine y.1.ahu (n:=(s.m2 n).getD 0+1) (λ w3 G=> ?_);obtain⟨G,f3⟩:=y.step G;have o3:=o2.fr f3 (λ o _ _ H=>H (.inl J));refine⟨_,E G.pV, ?_⟩;refine aF (G.1.call2 (λ v R=>Q7 (n:=i) R U (by show s.b2.length+10<=_;omega))) ?_;intro _ w4 K;obtain⟨K,f4⟩:=G.step K;have o4:=o3.fr f4 (λ o _ _ H=>H (.inl J));obtain⟨q,f4d⟩:=K.step K.1.drew;have o4d:=o4.aH (cu _);refine⟨_,E q.pV,_,q.1.eI 4 rfl,_,o4d.at 1 rfl,_,zp q.1.uR hj,_,_,rfl,_,rfl,_,rfl,aT rfl ?_⟩;refine⟨_,E q.pV, ?_⟩;refine aF (q.1.call2 (λ v R=>Q7 (n:=j) R X (by show(s.b2++bm i).length+10<=_;rw[aY];omega))) ?_;intro _ w5 Q;obtain⟨Q,_⟩:=q.step Q;refine⟨rfl, ?_⟩;have:=Q.pV;dsimp only at this;rw[dx] at this;exact this
theorem ahx{l0 l1:ByteArray}{K:ay->ak->Prop}(h:au ag 133 #[aV #[aC l0,aC l1],an (some cw)] w K):eJ ag (.func (.func 133) #[] #[an (some cw)]) #[aV #[aC l0,aC l1]] w K:=
 ⟨133,_,by kernel_rfl,h⟩
def gZ(m:Wd->Option Nat)(l:eh):Wd->Option Nat:=l.foldl (λ m x=>q_ m x.1) m
theorem ahy(m:Wd->Option Nat)(n k:Wd):((q_ m n) k).getD 0<=(m k).getD 0+1:=by
 unfold q_ cU;by_cases h:k=n
 ·subst h;simp
 ·rw[if_neg h];omega
theorem ahz(l:eh):∀(m:Wd->Option Nat) (k:Wd),((gZ m l) k).getD 0<=(m k).getD 0+l.length:=by
 induction l with
 |nil=>intro m k;simp[gZ]
 |cons x l q=>
  intro m k;have h:=q (q_ m x.1) k;have r:=ahy m x.1 k;simp only[gZ,qo,dH] at h⊢;omega
theorem Dr(S:List Wd)(K:S.length<=100000):∀(l:eh),(∀x∈l,x.1∈S/\x.2∈S)->(fy S l).length<=6*l.length:=by
 intro l;induction l with
 |nil=>intro _;simp[fy]
 |cons x l u=>
  intro h;have J:=u (λ y r=>h y (by simp[r]));have q:=h x (by simp);have E:=List.idxOf_lt_length_of_mem q.1;have G:=List.idxOf_lt_length_of_mem q.2;have H:=fw 3 (bo S x.1) (by unfold bo;omega) (by omega);have I:=fw 3 (bo S x.2) (by unfold bo;omega) (by omega);have:fy S (x::l)=(bm (bo S x.1)++bm (bo S x.2))++fy S l:=by simp[fy]
  rw[this,aY,aY,dH];omega
theorem ahA{labs:eh}{S:List Wd}(h:C1 c w0 Z w W s)(ho:Ob w0 cw [an (some W)])(hZ:Z cw.block)(hs:ia labs)(hl:(bh labs).length<=1073741824)(U:s.m1=ic S)(G:S.length<=100000)(J:∀x∈labs,x.1∈S/\x.2∈S)(hlen:labs.length<=1000)
  (hb:s.b2.length<=1000000)(hm:∀n,(s.m2 n).getD 0<=1000000000):
  au ag 132 #[mX labs, .func (.func 133) #[] #[an (some cw)]] w λ r w'=>r=aA/\C1 c w0 Z w' W {s with m2:=gZ s.m2 labs,b2:=s.b2++fy S labs}:=by
 apply aaf;unfold Ou;have oL:=Ob.new w [aC (bs (bh labs))] 136;have k1:=bA w (.cells ⟨[aC (bs (bh labs))]⟩ 136);have R:w.heap.size<(w.alloc (.cells ⟨[aC (bs (bh labs))]⟩ 136)).heap.size:=oL.lt (by simp);have h1:=(h.Dp).loc k1 (λ _ _ x=>x.elim);have aqJ:=ho.fr h.held (λ o _ _ G=>G (.inl hZ));dsimp only[a_];generalize hw1:w.alloc (.cells ⟨[aC (bs (bh labs))]⟩ 136)=w1 at oL k1 R h1;have sG:=aqJ.aH k1;obtain⟨Zc,hzL,tN,h1⟩:∃Zc:Nat->Prop,Zc w.heap.size/\Zc cw.block/\WL c w0 Z Zc w1 W s:=⟨_, .inr ⟨bB _,R⟩, .inl hZ,h1⟩;refine aae (λ f ls i w'=>f= .func (.func 133) #[] #[an (some cw)]/\ls=⟨w.heap.size,0,none⟩/\Ob w' ⟨w.heap.size,0,none⟩ [aC (bs (bh labs))]/\Ob w' cw [an (some W)]/\∃a b:eh,labs=a++b/\i=((bh a).length:Int)/\WL c w0 Z Zc w' W {s with m2:=gZ s.m2 a,b2:=s.b2++fy S a}) (λ _ _ i _=>((bh labs).length-i).toNat) ?_ ?_
 ·exact⟨rfl,rfl,oL,sG,[],labs,rfl,rfl,by simpa[gZ,fy] using h1⟩
 ·rintro _ _ _ w2 ⟨rfl,rfl,oL2,X,a,b,q,rfl,h2⟩;unfold F7;have H:at_ w2 ⟨w.heap.size,0,none⟩ (aC (bs (bh labs))):=by simpa using oL2.at 0 rfl
  refine⟨_,H, ?_⟩;cases b with
  |nil=>
   rw[iA] at q;subst q;exact aT (by rw[fB];simp) ⟨rfl,h2.pV⟩
  |cons x b=>
   have E:x∈labs:=by rw[q];simp
   have hx:=hs x E;have u:=J x E;have I:bh labs=bh a++(cN x.1++(cN x.2++bh b)):=by rw[q,ot,kK]
   have e1:bh labs=(bh a++cN x.1)++(cN x.2++bh b):=by rw[I];simp
   have Q:=hl;rw[I] at Q;simp only[aY,eK] at Q;refine cJ (by rw[fB,I];simp[eK];omega) ⟨_,H, ?_⟩;have K:=uI (w:=w2) (pre:=bh a) (s:=x.1) (rest:=cN x.2++bh b) rfl hx.1 (by rw[<-I];exact hl);rw[<-I] at K;refine aF K ?_;rintro _ w2 ⟨rfl,rfl⟩;refine⟨_,_,rfl,_,rfl,_,rfl,_,H, ?_⟩;have e2:(((bh a).length+1+x.1.length:Nat):Int)=(((bh a++cN x.1).length:Nat):Int):=by
    rw[aY,eK];omega
   rw[e2];have N:=uI (w:=w2) (pre:=bh a++cN x.1) (s:=x.2) (rest:=bh b) rfl hx.2 (by rw[<-e1];exact hl);rw[<-e1] at N;refine aF N ?_;rintro _ w2 ⟨rfl,rfl⟩;refine⟨_,_,rfl,_,rfl,_,rfl, ?_⟩;have hal:(fy S a).length<=6*a.length:=Dr S G a (λ y hy=>J y (by rw[q];simp[hy]));have Lh:a.length<=1000:=by
    have:=congrArg fZ q;simp at this;omega
   have TU:=ahz a s.m2 x.1;have aps:=hm x.1;have hi:ic S x.1=some (bo S x.1):=by unfold ic bo;rw[if_pos u.1]
   have hj:ic S x.2=some (bo S x.2):=by unfold ic bo;rw[if_pos u.2]
   have hil:=List.idxOf_lt_length_of_mem u.1;have T7:=List.idxOf_lt_length_of_mem u.2;refine ahx (aF (ahv (n:=x.1) (v:=x.2) (i:=bo S x.1) (j:=bo S x.2) h2.1 X tN (by show s.m1 _=_;rw[U];exact hi) (by show s.m1 _=_;rw[U];exact hj) (by unfold bo;omega) (by unfold bo;omega) (by show(s.b2++fy S a).length<=_;rw[aY];omega) (by show((gZ s.m2 a) x.1).getD 0<_;omega)) ?_);rintro _ w3 ⟨rfl,h3⟩;obtain⟨h3,f3⟩:=h2.step h3;refine⟨_,rfl,_,λ w=>cE _ w,_,rfl,aT rfl ?_⟩;refine⟨⟨rfl,rfl,oL2.fr f3 (λ o _ _ G=>G (.inl hzL)),X.fr f3 (λ o _ _ G=>G (.inl tN)),a++[x],b,by rw[q];simp, ?_, ?_⟩, ?_⟩
   ·have e3:(bh (a++[x])).length=(bh a).length+(x.1.length+1+(x.2.length+1)):=by
     rw[ot,kK];simp[eK,bh]
    rw[e3,aY,eK];omega
   ·have e4:gZ s.m2 (a++[x])=q_ (gZ s.m2 a) x.1:=by simp[gZ]
    have e5:s.b2++fy S (a++[x])=s.b2++fy S a++(bm (bo S x.1)++bm (bo S x.2)):=by simp[fy]
    rw[e4,e5];exact h3
   ·rw[aY,eK];rw[I];simp only[aY,eK];omega
end
section
variable{c:WC}[RF c][RL c][RO c]{tag:Nat->Nat}{g:WV}{w0:ak}{Z Y Zc:Nat->Prop}{w w':ak}{W d cw cl:kd}{s s':cF}{l:Wd}
structure kP where
 v:ay
 z:Nat
 n:Nat
 cs:List ay
def SI(c:WC)(w0:ak)(Z:Nat->Prop)(W:kd)(os:List (kd×List ay))(rs:List kP)(Zc:Nat->Prop)(w:ak)(s:cF):Prop:=
 WL c w0 Z Zc w W s/\(∀p∈os,Ob w p.1 p.2/\Zc p.1.block)/\∀r∈rs,aX w r.z r.v r.n r.cs/\∀x,aN r.v=some x->Zc x
def SJ(c:WC)(w0:ak)(Z:Nat->Prop)(W:kd)(os:List (kd×List ay))(rs:List kP)(w:ak)(s:cF):Prop:=∃Zc,SI c w0 Z W os rs Zc w s
variable{os:List (kd×List ay)}{rs:List kP}
theorem SI.step(h:SI c w0 Z W os rs Zc w s)(h':C1 c w Zc w' W s'):SJ c w0 Z W os rs w' s':=by
 obtain⟨J,y,G⟩:=h;obtain⟨I,H⟩:=J.step h';exact⟨Zc,I,λ p E=>⟨(y p E).1.fr H (λ o _ _ u=>u (.inl (y p E).2)),(y p E).2⟩,λ r q=>⟨aX.away (G r q).1 H (λ x K o u=>u (.inl ((G r q).2 x K))),(G r q).2⟩⟩
theorem SJ.inv(h:SJ c w0 Z W os rs w s):C1 c w0 Z w W s:=by
 obtain⟨Zc,q,_⟩:=h;exact q.pV
theorem SJ.aH(h:SJ c w0 Z W os rs w s)(q:aS w w'):SJ c w0 Z W os rs w' s:=by
 obtain⟨Zc,h⟩:=h;exact h.step (h.1.1.aH q)
theorem SJ.drew(h:SJ c w0 Z W os rs w s):SJ c w0 Z W os rs w.drew s:=h.aH (cu w)
theorem SJ.ob(h:SJ c w0 Z W os rs w s){a:kd}{cs:List ay}(q:(a,cs)∈os):Ob w a cs:=by
 obtain⟨Zc,_,r,_⟩:=h;exact(r _ q).1
theorem SJ.row(h:SJ c w0 Z W os rs w s){r:kP}(q:r∈rs):aX w r.z r.v r.n r.cs:=by
 obtain⟨Zc,_,_,u⟩:=h;exact(u _ q).1
theorem SJ.new{a:kd}{cs:List ay}(h:SJ c w0 Z W os rs w s)(E:aS w w')(J:Ob w' a cs)(H:w.heap.size<=a.block)(I:a.block<w'.heap.size):SJ c w0 Z W ((a,cs)::os) rs w' s:=by
 obtain⟨Zc,K,q,u⟩:=h;refine⟨_,K.loc E (λ _ _ x=>x.elim),λ p y=> ?_,λ r G=>⟨aX.aH (u r G).1 E,λ x N=> .inl ((u r G).2 x N)⟩⟩;rcases dX.1 y with rfl|y
 ·exact⟨J, .inr ⟨H,I⟩⟩
 ·exact⟨(q p y).1.aH E, .inl (q p y).2⟩
theorem SJ.drop{os':List (kd×List ay)}{rs':List kP}(h:SJ c w0 Z W os rs w s)(x:∀p∈os',p∈os)(y:∀r∈rs',r∈rs):SJ c w0 Z W os' rs' w s:=by
 obtain⟨Zc,H,q,u⟩:=h;exact⟨Zc,H,λ p E=>q p (x p E),λ r G=>u r (y r G)⟩
theorem C1.sj(h:C1 c w0 Z w W s):SJ c w0 Z W [] [] w s:=⟨Z,h.Dp,by simp,by simp⟩
theorem SJ.ahC{r:kP}(h:SJ c w0 Z W os rs w s)(G:aX w r.z r.v r.n r.cs)(I:∀x,aN r.v=some x->Z x):SJ c w0 Z W os (r::rs) w s:=by
 obtain⟨Zc,E,u,y⟩:=h;refine⟨Zc,E,u,λ r' q=> ?_⟩;rcases dX.1 q with rfl|q
 ·exact⟨G,λ x H=>E.2.1 x (I x H)⟩
 ·exact y r' q
theorem SJ.ahD{r r':kP}(h:SJ c w0 Z W os rs w s)(H:r∈rs)(I:aX w r'.z r'.v r'.n r'.cs)(G:∀x,aN r'.v=some x->aN r.v=some x):SJ c w0 Z W os (r'::rs) w s:=by
 obtain⟨Zc,J,y,u⟩:=h;refine⟨Zc,J,y,λ q E=> ?_⟩;rcases dX.1 E with rfl|E
 ·exact⟨I,λ x K=>(u r H).2 x (G x K)⟩
 ·exact u q E
theorem SJ.call{N:fz}{args:Array ay}{Q:ay->Prop}{s':cF}(h:SJ c w0 Z W os rs w s)(q:∀Zc,(∀p∈os,Zc p.1.block)->C1 c w Zc w W s->au ag N args w λ r w'=>Q r/\C1 c w Zc w' W s'):
  au ag N args w λ r w'=>Q r/\SJ c w0 Z W os rs w' s':=by
 obtain⟨Zc,h⟩:=h;refine aF (q Zc (λ p u=>(h.2.1 p u).2) h.1.1) ?_;rintro r w' ⟨x,h'⟩;exact⟨x,h.step h'⟩
theorem SJ.dQ{N:fz}{args:Array ay}{l':Wd}(h:SJ c w0 Z W os rs w s)(q:∀v,dA w (W.add 12) v s.b1->au ag N args w λ _ w'=>fe w (W.add 12) v w' l'):
  au ag N args w λ _ w'=>SJ c w0 Z W os rs w' {s with b1:=l'}:=by
 obtain⟨Zc,h⟩:=h;refine aF (h.1.1.dQ q) ?_;intro _ w' h';exact h.step h'
theorem SJ.call2{N:fz}{args:Array ay}{l':Wd}(h:SJ c w0 Z W os rs w s)(q:∀v,dA w (W.add 23) v s.b2->au ag N args w λ _ w'=>fe w (W.add 23) v w' l'):
  au ag N args w λ _ w'=>SJ c w0 Z W os rs w' {s with b2:=l'}:=by
 obtain⟨Zc,h⟩:=h;refine aF (h.1.1.call2 q) ?_;intro _ w' h';exact h.step h'
theorem SJ.yZ(h:SJ c w0 Z W os rs w s):∃v,dA w (W.add 23) v s.b2:=by
 obtain⟨_,g,q⟩:=h.inv;exact⟨_,q.B2⟩
theorem SJ.sS(h:SJ c w0 Z W os rs w s):∃v,dA w (W.add 12) v s.b1:=by
 obtain⟨_,g,q⟩:=h.inv;exact⟨_,q.B1⟩
theorem SJ.ID(h:SJ c w0 Z W os rs w s)(q:s.b2.length+4<=1073741824):au ag 135 #[an (some (W.add 23)),qQ c] w λ _ w'=>SJ c w0 Z W os rs w' {s with b2:=s.b2++be 4 (cI 0 s.b2),dig:=s.b2}:=by
 obtain⟨Zc,h⟩:=h;refine aF (h.1.1.ID q) ?_;intro _ w' h';exact h.step h'
theorem SJ.kO(h:SJ c w0 Z W os rs w s){nsym lref lcref k:Nat}{last ls:Wd}{v:ay}(r:k<13)
  (q:∀g,gO c g {s with nsym:=nsym,last:=last,ls:=ls,lref:=lref,lcref:=lcref}=(gO c g s).set k v):
  SJ c w0 Z W os rs (w.setCell (W.add (34+k)) v) {s with nsym:=nsym,last:=last,ls:=ls,lref:=lref,lcref:=lcref}:=by
 obtain⟨Zc,h⟩:=h;exact h.step (h.1.1.kO r q)
theorem Ds{w:ak}{h q c0 u a b c d:ay}{ty:cK}{K:Nat->ak->Prop}(ha:gj a)(hb:gj b)(hc:gj c)(hd:gj d)
  (hk:∀w',Ob w' ⟨w.heap.size,0,none⟩ [a,b,c,d]->aS w w'->w.heap.size<w'.heap.size->K w.heap.size w'):
  a_ w (.cells #[h,q,c0,u] ty) λ r w2=>wr w2 (aw ⟨r,0,none⟩ 0) a λ w3=>wr w3 (aw ⟨r,0,none⟩ 1) b λ w4=>wr w4 (aw ⟨r,0,none⟩ 2) c λ X=>wr X (aw ⟨r,0,none⟩ 3) d λ w6=>K r w6:=by
 have J:=Ob.new w [h,q,c0,u] ty;have y:=bA w (.cells ⟨[h,q,c0,u]⟩ ty);have E:w.heap.size<(w.alloc (.cells ⟨[h,q,c0,u]⟩ ty)).heap.size:=J.lt (by simp);dsimp only[a_];change wr (w.alloc (.cells ⟨[h,q,c0,u]⟩ ty)) _ _ _;generalize w.alloc (.cells ⟨[h,q,c0,u]⟩ ty)=w1 at J y E;refine dB (m:=4) J (Fr.refl _ _) 0 (by simp) (by omega) _ ha (λ w2 N G=> ?_);refine dB N G 1 (by simp) (by omega) _ hb (λ w3 Q H=> ?_);refine dB Q H 2 (by simp) (by omega) _ hc (λ w4 R I=> ?_);refine dB R I 3 (by simp) (by omega) _ hd (λ X U x=> ?_);exact hk X (by simpa using U) (Fr.new y x (λ b o hS=>by rw[hS.1];exact bB _)) (dR E x.size)
theorem C1.ahE{p q:OA}{l1 c1 l2 c2:Nat}(h:C1 c w0 Z w W s)(J:∀tag g,WI c tag g w0 Z w W s->g.v1=aa p l1 c1/\g.v2=aa q l2 c2)(K:s.F.length+(s.b1.length+s.b2.length)<=1073741824):
  au ag 127 #[an (some W),aa (some ⟨w.heap.size,0,none⟩) 2 2] (w.alloc (.cells ⟨[aa p l1 c1,aa q l2 c2]⟩ 26)) λ r w'=>r=aA/\C1 c w0 Z w' W {s with F:=s.F++(s.b1++s.b2)}:=by
 obtain⟨tag,g,h⟩:=h;obtain⟨H,I⟩:=J tag g h;have E:=bA w (.cells ⟨[aa p l1 c1,aa q l2 c2]⟩ 26);have u:cz w (aa p l1 c1) s.b1:=by rw[<-H];exact h.B1.2.2.1.cV
 have y:cz w (aa q l2 c2) s.b2:=by rw[<-I];exact h.B2.2.2.1.cV
 refine aF ((h.aH E).CY (Ss u y ⟨by rw[h.top _ (bB _)];decide,by rw[h.top _ (bB _)];decide⟩ (λ x G=>by rw[(h.dS x (by rw[H];exact G)).2];exact⟨by decide,by decide⟩) (λ x G=>by rw[(h.eT x (by rw[I];exact G)).2];exact⟨by decide,by decide⟩)) (by simpa using K) (by simp)) ?_;rintro _ w' ⟨rfl,v',h',_⟩;have e:[s.b1,s.b2].flatten=s.b1++s.b2:=by simp
 rw[e] at h';exact⟨rfl,_,_,h'⟩
end
section
variable{c:WC}[RF c][RL c][RO c]{tag:Nat->Nat}{g:WV}{w0:ak}{Z Y Zc:Nat->Prop}{w w':ak}{W d cw cl:kd}{s s':cF}{l:Wd}
variable{os:List (kd×List ay)}{rs:List kP}
theorem SJ.ptr(h:SJ c w0 Z W os rs w s)(q:(cw,[an (some W)])∈os):at_ w cw (an (some W)):=by simpa using(h.ob q).at 0 rfl
theorem SJ.ahF(h:SJ c w0 Z W os rs w s):∃p cc u r,at_ w (W.add 12) (aa p s.b1.length cc)/\at_ w (W.add 23) (aa u s.b2.length r):=by
 obtain⟨tag,g,q⟩:=h.inv;obtain⟨p,cc,x,_⟩:=q.B1.2.2.1.ex;obtain⟨u,r,y,_⟩:=q.B2.2.2.1.ex;exact⟨p,cc,u,r,by rw[<-x];exact q.B1.at,by rw[<-y];exact q.B2.at⟩
theorem T8{w:ak}{e:kd}{v x:ay}{l:Wd}(h:dA w e v l)(q:at_ w e x):au ag 86 #[an (some e)] w λ r w'=>r=x/\w'=w:=by
 have:x=v:=by
  have:=h.at;unfold at_ at this q;rw[q] at this;exact iW this
 subst this;exact om h
theorem T9{K:ay->ak->Prop}{fQ:Wd}{ref lcr:Nat}(h:SJ c w0 Z W os rs w s)(r:(cw,[an (some W)])∈os)(jW:(cl,[aC (bs fQ)])∈os)(hb:s.b2.length<=1000000)(hF:s.F.length<=1070000000)
  (hK:∀w' b1 b2 dig,C1 c w0 Z w' W {s with F:=s.F++fk s.b2,b1:=b1,b2:=b2,dig:=dig,ls:=fQ,lref:=ref,lcref:=lcr}->K aA w'):
  arn K (ref:Int) cw cl (lcr:Int) w:=by
 unfold arn;refine⟨_,h.ptr r, ?_⟩;refine aF (h.dQ (λ v he=>iZ he)) ?_;intro _ w1 h1;have x:=h1.drew;refine⟨_,x.ptr r,_,x.ptr r, ?_⟩;obtain⟨v2,G⟩:=x.yZ;refine aF (Q8 G) ?_;rintro _ _ ⟨rfl,rfl⟩;refine⟨_,rfl,by simpa using x.ptr r,by simpa using x.ptr r, ?_⟩;refine aF (x.dQ (λ v he=>oj (n:=s.b2.length) he (by omega) (by simp))) ?_;intro _ w2 U;dsimp only at U;have y:=U.drew;refine⟨by simpa using U.ptr r,by simpa using U.ptr r,_,y.ptr r,_,y.ptr r,_,y.inv.eI 10 rfl, ?_⟩;refine aF (y.ID (by show s.b2.length+4<=_;omega)) ?_;intro _ w3 X;dsimp only at X;have u:=X.drew;refine⟨by simpa using X.ptr r,by simpa using X.ptr r,_,u.ptr r,_,u.ptr r,_,u.ptr r, ?_⟩;obtain⟨p,cc,p2,J,Q,R⟩:=u.ahF;dsimp only at Q R;obtain⟨v1,IX⟩:=u.sS;obtain⟨v2,G⟩:=u.yZ;refine aF (T8 IX Q) ?_;rintro _ _ ⟨rfl,rfl⟩;refine⟨_,_,_,rfl,by simpa using u.ptr r,by simpa using u.ptr r,by simpa using u.ptr r, ?_⟩;refine aF (T8 G R) ?_;rintro _ _ ⟨rfl,rfl⟩;refine⟨_,_,_,rfl,by simpa using u.ptr r,by simpa using u.ptr r,by simpa using u.ptr r, ?_⟩;have h4:=u.aH (bA w3.drew (.cells ⟨[aa p ([]++bm s.b2.length).length cc,aa p2 (s.b2++be 4 (cI 0 s.b2)).length J]⟩ 26));refine⟨_,_,Sr _ _ _ _ _ _ w3.drew,_,_,_,rfl,by simpa using h4.ptr r,by simpa using h4.ptr r,by simpa using h4.ptr r, ?_⟩;obtain⟨Zc,hI⟩:=u;refine aF (hI.1.1.ahE (p:=p) (q:=p2) (l1:=([]++bm s.b2.length).length) (l2:=(s.b2++be 4 (cI 0 s.b2)).length) (c1:=cc) (c2:=J) (λ tag g q=>⟨?_, ?_⟩) ?_) ?_
 ·have:=q.B1.at;unfold at_ at this Q;rw[Q] at this;exact(iW this).symm
 ·have:=q.B2.at;unfold at_ at this R;rw[R] at this;exact(iW this).symm
 ·show s.F.length+(([]++bm s.b2.length).length+(s.b2++be 4 (cI 0 s.b2)).length)<=_;have:=fw 10 s.b2.length (by omega) (by omega);simp[cH];omega
 rintro _ w5⟨rfl,H⟩;have H:=hI.step H;dsimp only at H;have E:=H.drew;refine⟨_,rfl,by simpa using H.ptr r,by simpa using H.ptr r,_,λ w=>cE _ w,_,rfl,aT rfl ?_⟩;refine⟨_,E.ptr r,_,by simpa using(E.ob jW).at 0 rfl, ?_⟩;apply aah;unfold Ow;dsimp only[a_];have ho:=Ob.new w5.drew [aC (bs fQ)] 136;have h6:=E.aH (bA w5.drew (.cells ⟨[aC (bs fQ)]⟩ 136));refine⟨_,by simpa using ho.at 0 rfl,⟨trivial,h6.inv.zr 7 (by omega)⟩, ?_⟩;have I:=h6.kO (nsym:=s.nsym) (last:=s.last) (ls:=fQ) (lref:=s.lref) (lcref:=s.lcref) (k:=7) (v:=aC (bs fQ)) (by omega) (λ g=>rfl);dsimp only at I;rw[show 34+7=41 from rfl] at I;refine⟨by simpa using I.ptr r,_,I.ptr r,⟨trivial,I.inv.zr 8 (by omega)⟩, ?_⟩;have N:=I.kO (nsym:=s.nsym) (last:=s.last) (ls:=fQ) (lref:=ref) (lcref:=s.lcref) (k:=8) (v:=ah aj (ref:Int)) (by omega) (λ g=>rfl);dsimp only at N;rw[show 34+8=42 from rfl] at N;refine⟨_,N.ptr r,⟨trivial,N.inv.zr 9 (by omega)⟩, ?_⟩;have h9:=N.kO (nsym:=s.nsym) (last:=s.last) (ls:=fQ) (lref:=ref) (lcref:=lcr) (k:=9) (v:=ah aj (lcr:Int)) (by omega) (λ g=>rfl);dsimp only at h9;rw[show 34+9=43 from rfl] at h9;have e:s.F++(([]++bm s.b2.length)++(s.b2++be 4 (cI 0 s.b2)))=s.F++fk s.b2:=by simp[fk]
 rw[e] at h9;exact hK _ _ _ _ h9.inv
def dN(x:iq):List ay:=[ah aj (x.1:Int),aA,ah af x.2.1,ah af x.2.2]
def ju:Int->List iq->Prop
 |_,[]=>True
 |t0,c::cs=>t0<c.2.1/\c.2.1<=c.2.2/\ -1152921504606846976<=c.2.1/\c.2.2<=1152921504606846976/\c.1<18446744073709551616/\ju c.2.2 cs
theorem re(x:Int):aq af x=(x+9223372036854775808) % 18446744073709551616-9223372036854775808:=by
 rw[wrap_i64];split<;>omega
theorem ahG(a b:Nat):aq af (aq af (a:Int)-aq af (b:Int))=aq af ((a:Int)-(b:Int)):=by
 simp only[re];omega
theorem T_(x:Int): -9223372036854775808<=aq af x/\aq af x<9223372036854775808:=by
 rw[re];omega
theorem ahH{K:ay->ak->Prop}{fQ Q:Wd}{ref lcr G:Nat}{t0:Int}{tail:List iq}{p:OA}{cc:Nat}(h:SJ c w0 Z W os rs w s)(hcw:(cw,[an (some W)])∈os)(jW:(cl,[aC (bs fQ)])∈os)
  (ahI:(⟨aa p tail.length cc,4,tail.length,tail.flatMap dN⟩:kP)∈rs)(ht:ju t0 tail)(lh:tail.length<=1000)(s9: -1152921504606846976<=t0/\t0<=1152921504606846976)(U:s.b2++kX t0 G tail=Q)(gQ:Q.length<=100000)(hF:s.F.length<=1070000000)
  (hK:∀w' b1 b2 dig,C1 c w0 Z w' W {s with F:=s.F++fk Q,b1:=b1,b2:=b2,dig:=dig,ls:=fQ,lref:=ref,lcref:=lcr}->K aA w'):
  Gk K (ref:Int) cw cl (lcr:Int) t0 (aq af (G:Int)) p tail.length cc (tail.length:Int) 0 w:=by
 refine aaG (λ aqK cw' cl' aq2 H r0' p' n' cc' n2 i w'=>aqK=(ref:Int)/\cw=cw'/\cl=cl'/\aq2=(lcr:Int)/\p=p'/\n'=tail.length/\cc=cc'/\n2=(tail.length:Int)/\∃(a b:List iq) (G:Nat) (b2:Wd),tail=a++b/\i=(a.length:Int)/\r0'=aq af (G:Int)/\ju H b/\ -1152921504606846976<=H/\H<=1152921504606846976/\b2++kX H G b=Q/\SJ c w0 Z W os rs w' {s with b2:=b2}) (λ _ _ _ _ _ _ _ _ _ n2 i _=>(n2-i).toNat) ?_ ?_
 ·exact⟨rfl,rfl,rfl,rfl,rfl,rfl,rfl,rfl,[],tail,G,s.b2,rfl,rfl,rfl,ht,s9.1,s9.2,U,h⟩
 ·rintro _ _ _ _ t0 _ _ _ _ _ _ w1 ⟨rfl,rfl,rfl,rfl,rfl,rfl,rfl,rfl,a,b,G,b2,E,rfl,rfl,ht,jP,i_,U,h1⟩;unfold Gj;have je:b2.length+(kX t0 G b).length<=100000:=by
   have:=congrArg fZ U;rw[aY] at this;omega
  cases b with
  |nil=>
   have hl:a.length=tail.length:=by rw[E];simp
   refine aT (by simp[hl]) ?_;have e:b2=Q:=by simpa[kX] using U
   subst e;exact T9 h1 hcw jW (by show b2.length<=_;omega) hF hK
  |cons x b=>
   have hl:tail.length=a.length+(b.length+1):=by rw[E];simp
   refine cJ (by simp;omega) ?_;have hr:=h1.row ahI;refine Sl.ix (enc:=dN) (z:=4) (λ _=>rfl) (by omega) hr (by omega) (by omega) (λ m hs hm=> ?_);have hx:tail[((a.length:Nat):Int).toNat]'(by simp;omega)=x:=by
    simp only[fH];simp[E]
   have m0:=hm 0 (ah aj (x.1:Int)) (by rw[hx];rfl);have m1:=hm 1 aA (by rw[hx];rfl);have m2:=hm 2 (ah af x.2.1) (by rw[hx];rfl);have m3:=hm 3 (ah af x.2.2) (by rw[hx];rfl);obtain⟨g1,g2,g3,g4,g5,g6⟩:=ht;refine⟨_,m0,_,m1,_,m2,_,m3, ?_⟩;refine Ds trivial trivial trivial trivial (λ w2 o2 k2 vg=> ?_);have h2:=h1.new k2 o2 (bB _) vg;have u:∀{w:ak} {s':cF},SJ c w0 Z W ((⟨w1.heap.size,0,none⟩,[ah aj (x.1:Int),aA,ah af x.2.1,ah af x.2.2])::os) rs w s'->Ob w ⟨w1.heap.size,0,none⟩ [ah aj (x.1:Int),aA,ah af x.2.1,ah af x.2.2]:=λ h=>h.ob (by simp)
   have q:∀{w:ak} {s':cF},SJ c w0 Z W ((⟨w1.heap.size,0,none⟩,[ah aj (x.1:Int),aA,ah af x.2.1,ah af x.2.2])::os) rs w s'->at_ w cw (an (some W)):=λ h=>h.ptr (by simp[hcw])
   have I:=h2.drew;have u1:=fw 10 (x.2.1-t0).toNat (by omega) (by omega);have u2:=fw 10 (x.2.2-x.2.1).toNat (by omega) (by omega);refine⟨_,q I,_,(u I).at 2 rfl, ?_⟩;dsimp only;rw[bk (x:=x.2.1-t0) (by omega) (by omega),dV (x:=x.2.1-t0) (by omega) (by omega),show x.2.1-t0=((x.2.1-t0).toNat:Int) by omega];refine aF (I.call2 (λ v he=>mf he (by omega) (by show b2.length+10<=_;omega))) ?_;intro _ w3 h3;dsimp only at h3;refine⟨(u h3).at 2 rfl,by simpa using q h3, ?_⟩;have y:=h3.drew;refine⟨_,q y,_,(u y).at 3 rfl,_,(u y).at 2 rfl, ?_⟩;dsimp only;rw[bk (x:=x.2.2-x.2.1) (by omega) (by omega),dV (x:=x.2.2-x.2.1) (by omega) (by omega),show x.2.2-x.2.1=((x.2.2-x.2.1).toNat:Int) by omega];refine aF (y.call2 (λ v he=>mf he (by omega) (by show(b2++_).length+10<=_;rw[aY];omega))) ?_;intro _ w4 N;dsimp only at N;refine⟨(u N).at 2 rfl,(u N).at 3 rfl,by simpa using q N,_,(u N).at 3 rfl, ?_⟩;have J:=N.drew;refine⟨_,q J,_,by simpa using(u J).at 0 rfl, ?_⟩;dsimp only;rw[ahG];have X:=T_ ((x.1:Int)-(G:Int));refine aF (J.call2 (λ v he=>Q6 he X.1 X.2 (by show(b2++_++_).length+10<=_;rw[aY,aY];omega))) ?_;intro _ w5 R;dsimp only at R;refine⟨by simpa using(u R).at 0 rfl,by simpa using q R,_,by simpa using(u R).at 0 rfl, ?_⟩;refine⟨⟨rfl,rfl,rfl,rfl,rfl,rfl,rfl,rfl,a++[x],b,x.1,_,by rw[E];simp, ?_,rfl,g6,by omega,by omega, ?_,R.drop (λ p hp=>by simp[hp]) (λ r hr=>hr)⟩, ?_⟩
   ·rw[bk (by omega) (by omega)];simp
   ·rw[<-U];simp[kX]
   ·rw[bk (by omega) (by omega)];omega
end
section
variable{c:WC}[RF c][RL c][RO c]{tag:Nat->Nat}{g:WV}{w0:ak}{Z Y Zc:Nat->Prop}{w w':ak}{W d cw cl:kd}{s s':cF}{l:Wd}
variable{os:List (kd×List ay)}{rs:List kP}
theorem SJ.pos(h:SJ c w0 Z W os rs w s):at_ w (c.f.add 1) (ah aj (s.F.length:Int)):=h.inv.pos
theorem Ua(p:OA)(lo c z l c2 l2 c3:Nat):aN (aa (C4 p lo c z) l c2)=aN (aa p l2 c3):=by
 unfold C4;split
 ·cases p<;>rfl
 ·cases p with
  |none=>rfl
  |some a=>simp[aN]
theorem ahN(x:Int)(h: -9223372036854775808<=x)(q:x<9223372036854775808):eO x<18446744073709551616:=by
 unfold eO;split<;>omega
theorem Ub:∀(tail:List iq) (t0:Int) (h:Nat),ju t0 tail-> -2305843009213693952<=t0->(kX t0 h tail).length<=30*tail.length:=by
 intro tail;induction tail with
 |nil=>intro t0 h _ _;simp[kX]
 |cons y tail u=>
  rintro t0 h⟨x,E,G,H,I,r⟩J;have K:=u y.2.2 y.1 r (by omega);have N:=fw 10 (y.2.1-t0).toNat (by omega) (by omega);have Q:=fw 10 (y.2.2-y.2.1).toNat (by omega) (by omega);have q:=T_ ((y.1:Int)-h);have R:=fw 10 (eO (aq af ((y.1:Int)-h))) (by have:=ahN _ q.1 q.2;omega) (by omega);simp only[kX,aY,dH];omega
theorem ahO{K:ay->ak->Prop}{nZ:Int->OA->Nat->Nat->kd->kd->Int->Int->OA->Nat->Nat->Int->Int->ak->Prop}{S:List Wd}{x:bI}{lcr:Nat}{t0 lm:Int}{p tp:OA}{cc tL tC:Nat}{i n:Int}(iR:¬i<n)
  (h:SJ c w0 Z W os rs w s)(u:(cw,[an (some W)])∈os)(jW:(cl,[aC (bs (bh x.labels))])∈os)
  (G:(⟨aa p x.chunks.length cc,4,x.chunks.length,x.chunks.flatMap dN⟩:kP)∈rs)(ht:ju t0 x.chunks)(lh:x.chunks.length<=100)(s9: -2305843009213693952<=t0)
  (hs:ia x.labels)(jF:x.labels.length<=100)(jY:s.m1=ic S)(hS:S.length<=100000)(mr:∀y∈x.labels,y.1∈S/\y.2∈S)(s_:∀n,(s.m2 n).getD 0<=1000000000)(hF:s.F.length<=1000000000)
  (hK:∀w' b1 b2 dig,C1 c w0 Z w' W {s with F:=dr S s.F x,m2:=gZ s.m2 x.labels,b1:=b1,b2:=b2,dig:=dig,ls:=bh x.labels,lref:=x.ref,lcref:=lcr}->K aA w'):
  xo K nZ (x.ref:Int) p x.chunks.length cc cw cl (lcr:Int) lm tp tL tC n i w:=by
 have N:(bh x.labels).length<=1073741824:=by
  have:∀l:eh,ia l->(bh l).length<=402*l.length:=by
   intro l;induction l with
   |nil=>intro _;simp[bh]
   |cons y l ih=>
    intro h;have h1:=ih (λ z hz=>h z (by simp[hz]));have h2:=h y (by simp);rw[kK];simp only[aY,eK,dH];omega
  have:=this x.labels hs;omega
 unfold xo;refine aT (by simpa using iR) ?_;refine⟨_,h.ptr u, ?_⟩;have y7:=sM (k:=16) s.F.length (by omega);refine aF (h.call (Q:=λ r=>r=aA) (λ Zc _ q=>Sx (n:=16) q (by omega) (by omega) (by omega))) ?_;rintro _ w1 ⟨rfl,h1⟩;refine⟨_,rfl,_,λ w=>cE _ w,_,rfl,aT rfl ?_⟩;refine⟨_,h1.ptr u,_,h1.inv.eM,_,h1.pos, ?_⟩;dsimp only;have hmul:(s.F++pad 16 s.F.length).length % 16=0:=by
  rw[aY];exact CW _ (by omega)
 refine aT (by
  rw[bne_eq_false_iff_eq,Int.tmod_eq_emod_of_nonneg (by omega)];omega) ?_
 refine⟨_,h1.ptr u, ?_⟩;refine aF (h1.call2 (λ v J=>iZ J)) ?_;intro _ w2 h2;dsimp only at h2;have uZ:=h2.drew;have hl:∀{w:ak} {s':cF},SJ c w0 Z W os rs w s'->at_ w (cl.add 0) (aC (bs (bh x.labels))):=λ h=>(h.ob jW).at 0 rfl
 refine⟨_,uZ.ptr u,_,hl uZ, ?_⟩;refine aF (adT hs N) ?_;rintro _ w3 ⟨rfl,k3⟩;have h3:=uZ.aH k3;refine⟨_,rfl,by simpa using h3.ptr u, ?_⟩;refine aF (h3.call2 (λ v J=>oj (n:=x.labels.length) J (by omega) (by simp))) ?_;intro _ w4 h4;dsimp only at h4;refine⟨by simpa using h4.ptr u,_,hl h4, ?_⟩;have u1:=fw 10 x.labels.length (by omega) (by omega);have u2:=Dr S hS x.labels mr;refine aF (h4.call (Q:=λ r=>r=aA) (λ Zc hz q=>ahA (cw:=cw) (S:=S) q (h4.ob u) (hz _ u) hs N jY hS mr (by omega) (by show([]++bm x.labels.length).length<=_;simp;omega) s_)) ?_;rintro _ w5 ⟨rfl,h5⟩;dsimp only at h5;refine⟨_,rfl,_,λ w=>cE _ w,_,rfl,aT rfl ?_⟩;refine⟨_,h5.ptr u, ?_⟩;have u3:=fw 10 x.chunks.length (by omega) (by omega);refine aF (h5.call2 (λ v J=>oj (n:=x.chunks.length) J (by omega) (by show([]++bm x.labels.length++fy S x.labels).length+10<=_;rw[aY,oS];omega))) ?_;intro _ w6 h6;dsimp only at h6;have eF:∀B:Wd,s.F++pad 16 s.F.length++fk B=s.F++(pad 16 s.F.length++fk B):=λ B=>by simp
 have apu:∀B,bm x.labels.length++fy S x.labels++bm x.chunks.length++B=bm x.labels.length++(fy S x.labels++(bm x.chunks.length++B)):=λ B=>by simp
 have I:SJ c w0 Z W os rs w6 {s with F:=s.F++pad 16 s.F.length,m2:=gZ s.m2 x.labels,b2:=bm x.labels.length++fy S x.labels++bm x.chunks.length}:=by simpa using h6
 have zu:(bm x.labels.length++fy S x.labels++bm x.chunks.length).length<=1000:=by
  rw[aY,aY];omega
 have X:∀{Bf:Wd},cA S x=Bf->∀w' b1 b2 dig,C1 c w0 Z w' W {s with F:=s.F++pad 16 s.F.length++fk Bf,m2:=gZ s.m2 x.labels,b1:=b1,b2:=b2,dig:=dig,ls:=bh x.labels,lref:=x.ref,lcref:=lcr}->K aA w':=by
  rintro _ rfl w' b1 b2 dig h';rw[eF] at h';exact hK w' b1 b2 dig h'
 have Uc:(s.F++pad 16 s.F.length).length<=1070000000:=by rw[aY];omega
 cases U:x.chunks with
 |nil=>
  refine aT (by simp) ?_;rw[U] at I zu;refine T9 I u jW (by show(bm x.labels.length++fy S x.labels++bm ([]:List iq).length).length<=_;omega) Uc (λ w' b1 b2 dig h'=>X ?_ w' b1 b2 dig h');unfold cA;rw[U];simp[lP]
 |cons y tail=>
  rw[U] at I zu G ht lh;obtain⟨g1,g2,g3,g4,g5,g6⟩:=ht;have hlen:(y::tail).length=tail.length+1:=rfl;refine cJ (by simp) ?_;have hr:=I.row G;refine Sl.ix (enc:=dN) (z:=4) (l:=y::tail) (λ _=>rfl) (by omega) hr (by omega) (by simp) (λ m hs hm=> ?_);have m0:=hm 0 (ah aj (y.1:Int)) rfl;have m1:=hm 1 aA rfl;have m2:=hm 2 (ah af y.2.1) rfl;have m3:=hm 3 (ah af y.2.2) rfl;refine⟨_,m0,_,m1,_,m2,_,m3, ?_⟩;refine Ds trivial trivial trivial trivial (λ w7 o7 k7 Jp=> ?_);have h7:=I.new k7 o7 (bB _) Jp;have ho:∀{w:ak} {s':cF},SJ c w0 Z W ((⟨w6.heap.size,0,none⟩,[ah aj (y.1:Int),aA,ah af y.2.1,ah af y.2.2])::os) rs w s'->Ob w ⟨w6.heap.size,0,none⟩ [ah aj (y.1:Int),aA,ah af y.2.1,ah af y.2.2]:=λ h=>h.ob (by simp)
  have E:∀{w:ak} {s':cF},SJ c w0 Z W ((⟨w6.heap.size,0,none⟩,[ah aj (y.1:Int),aA,ah af y.2.1,ah af y.2.2])::os) rs w s'->at_ w cw (an (some W)):=λ h=>h.ptr (by simp[u])
  have JD:=h7.drew;have u4:=fw 10 (eO y.2.1) (by unfold eO;split<;>omega) (by omega);have u5:=fw 10 (y.2.2-y.2.1).toNat (by omega) (by omega);have u6:=fw 10 y.1 (by omega) (by omega);generalize JE:bm x.labels.length++fy S x.labels++bm (y::tail).length=B6 at*;refine⟨_,E JD,_,(ho JD).at 2 rfl, ?_⟩;refine aF (JD.call2 (λ v J=>Q6 J (by omega) (by omega) (by show B6.length+10<=_;omega))) ?_;intro _ w8 h8;dsimp only at h8;have R:=h8.drew;refine⟨by simpa using E h8,_,E R,_,(ho R).at 3 rfl,_,(ho R).at 2 rfl, ?_⟩;dsimp only;rw[bk (x:=y.2.2-y.2.1) (by omega) (by omega),dV (x:=y.2.2-y.2.1) (by omega) (by omega),show y.2.2-y.2.1=((y.2.2-y.2.1).toNat:Int) by omega];refine aF (R.call2 (λ v J=>mf J (by omega) (by show(B6++_).length+10<=_;rw[aY];omega))) ?_;intro _ w9 h9;dsimp only at h9;have uV:=h9.drew;refine⟨(ho h9).at 2 rfl,(ho h9).at 3 rfl,by simpa using E h9,_,E uV,_,by simpa using(ho uV).at 0 rfl, ?_⟩;refine aF (uV.call2 (λ v J=>mf (n:=y.1) J (by omega) (by show(B6++_++_).length+10<=_;rw[aY,aY];omega))) ?_;intro _ jg H;dsimp only at H;refine⟨by simpa using E H,_,(ho H).at 3 rfl,_,by simpa using(ho H).at 0 rfl, ?_⟩;have iP:=gV (P:=ag) (t:=128) (e:=133) (by kernel_rfl) (z:=4) (by kernel_rfl) p (y::tail).length cc 1 (y::tail).length (by simp) (by
   obtain⟨_,_,e,h⟩:=aX.ex hr;cases e;exact h) (some (ah af 1)) none (.inr ⟨_,rfl⟩) (.inl ⟨rfl,rfl⟩)
  have gL:(y::tail).length-1=tail.length:=by simp
  rw[gL] at iP;refine⟨_,iP,_,_,_,rfl, ?_⟩;have zb:=H.drop (os':=os) (rs':=rs) (λ p hp=>by simp[hp]) (λ r hr=>hr);have ahP:aX jg 4 (aa p (y::tail).length cc) (y::tail).length ((y::tail).flatMap dN):=zb.row G;have De:=aX.sub ahP 1 (y::tail).length (by simp) (bB _);have ecs:((((y::tail).flatMap dN).drop (1*4)).take (((y::tail).length-1)*4))=tail.flatMap dN:=by
   rw[fG];have:(dN y).length=1*4:=rfl;rw[<-this,iz,gL,lD];have hf:(tail.flatMap dN).length=tail.length*4:=kF (z:=4) (λ _=>rfl) tail;omega
  rw[ecs,gL] at De;have qS:=zb.ahD (r':=⟨aa (C4 p 1 cc 4) tail.length (cc-1),4,tail.length,tail.flatMap dN⟩) G De (λ z hz=>by rw[<-hz];exact(Ua _ _ _ _ _ _ _ _).symm);have Ud:B6++bm (eO y.2.1)++bm (y.2.2-y.2.1).toNat++bm y.1++kX y.2.2 y.1 tail=cA S x:=by
   rw[<-JE];unfold cA;rw[U];simp[lP]
  have hcr:=Ub tail y.2.2 y.1 g6 (by omega);have gQ:(cA S x).length<=100000:=by
   rw[<-Ud];simp only[aY];omega
  exact ahH (ref:=x.ref) (lcr:=lcr) qS u jW (by simp) g6 (by omega) ⟨by omega,g4⟩ Ud gQ Uc (λ w' b1 b2 dig h'=>X rfl w' b1 b2 dig h')
end
section
variable{c:WC}[RF c][RL c][RO c]{tag:Nat->Nat}{g:WV}{w0:ak}{Z Y Zc:Nat->Prop}{w w':ak}{W d cw cl:kd}{s s':cF}{l:Wd}
variable{os:List (kd×List ay)}{rs:List kP}
theorem ahR{K:ay->ak->Prop}{S:List Wd}{x:bI}{u lend:Nat}{t0:Int}{p:OA}{cc:Nat}
  (h:SJ c w0 Z W os rs w s)(hcw:(cw,[an (some W)])∈os)(jW:(cl,[aC (bs (bh x.labels))])∈os)
  (I:(⟨aa p x.chunks.length cc,4,x.chunks.length,x.chunks.flatMap dN⟩:kP)∈rs)(ht:ju t0 x.chunks)(lh:x.chunks.length<=100)(s9: -2305843009213693952<=t0)(q:Up u (x.chunks.map (·.1)) lend)
  (hs:ia x.labels)(jF:x.labels.length<=100)(jY:s.m1=ic S)(hS:S.length<=100000)(mr:∀y∈x.labels,y.1∈S/\y.2∈S)(s_:∀n,(s.m2 n).getD 0<=1000000000)(hF:s.F.length<=1000000000)
  (hK:∀w' b1 b2 dig,C1 c w0 Z w' W {s with F:=dr S s.F x,m2:=gZ s.m2 x.labels,b1:=b1,b2:=b2,dig:=dig,ls:=bh x.labels,lref:=x.ref,lcref:=lend}->K aA w'):
  Gl K (x.ref:Int) p x.chunks.length cc cw cl (u:Int) 0 p x.chunks.length cc (x.chunks.length:Int) 0 w:=by
 refine aaH (λ E p' n' J Q N r R X0 X U n2 i w'=>E=(x.ref:Int)/\p=p'/\n'=x.chunks.length/\cc=J/\cw=Q/\cl=N/\p=X0/\X=x.chunks.length/\cc=U/\n2=(x.chunks.length:Int)/\∃(a b:List iq) (lcr:Nat) (t1:Int),x.chunks=a++b/\i=(a.length:Int)/\r=(lcr:Int)/\Up lcr (b.map (·.1)) lend/\ju t1 b/\(a≠[]->R=t1)/\SJ c w0 Z W os rs w' s) (λ _ _ _ _ _ _ _ _ _ _ _ n2 i _=>(n2-i).toNat) ?_ ?_
 ·exact⟨rfl,rfl,rfl,rfl,rfl,rfl,rfl,rfl,rfl,rfl,[],x.chunks,u,t0,rfl,rfl,rfl,q,ht,λ e=>absurd rfl e,h⟩
 ·rintro _ _ _ _ _ _ _ lm _ _ _ _ _ w1 ⟨rfl,rfl,rfl,rfl,rfl,rfl,rfl,rfl,rfl,rfl,a,b,lcr,t1,G,rfl,rfl,q,hct,hlm,h1⟩;cases b with
  |nil=>
   have hl:a.length=x.chunks.length:=by rw[G];simp
   have e:lcr=lend:=q;subst e;exact ahO (by omega) h1 hcw jW I ht lh s9 hs jF jY hS mr s_ hF hK
  |cons y b=>
   have hl:x.chunks.length=a.length+(b.length+1):=by rw[G];simp
   have hr:=h1.row I;unfold xo;refine cJ (by simp;omega) ?_;refine Sl.ix (enc:=dN) (z:=4) (l:=x.chunks) (λ _=>rfl) (by omega) hr (by omega) (by omega) (λ m hs hm=> ?_);have hx:x.chunks[((a.length:Nat):Int).toNat]'(by simp;omega)=y:=by
    simp only[fH];simp[G]
   have m0:=hm 0 (ah aj (y.1:Int)) (by rw[hx];rfl);have m1:=hm 1 aA (by rw[hx];rfl);have m2:=hm 2 (ah af y.2.1) (by rw[hx];rfl);have m3:=hm 3 (ah af y.2.2) (by rw[hx];rfl);obtain⟨g1,g2,g3,g4,g5,g6⟩:=hct;refine⟨_,m0,_,m1,_,m2,_,m3, ?_⟩;refine Ds trivial trivial trivial trivial (λ w2 o2 k2 vg=> ?_);have h2:=h1.aH k2;have hle:lcr<=y.1:=q.1;refine⟨_,by simpa using o2.at 0 rfl,aT (by rw[decide_eq_false_iff_not];omega) ⟨_,by simpa using o2.at 0 rfl, ?_⟩⟩;have H:xm K (λ E p' n' J Q N r R X0 X U n2 i' w'=>(E=(x.ref:Int)/\p=p'/\n'=x.chunks.length/\cc=J/\cw=Q/\cl=N/\p=X0/\X=x.chunks.length/\cc=U/\n2=(x.chunks.length:Int)/\∃(a b:List iq) (lcr:Nat) (t1:Int),x.chunks=a++b/\i'=(a.length:Int)/\r=(lcr:Int)/\Up lcr (b.map (·.1)) lend/\ju t1 b/\(a≠[]->R=t1)/\SJ c w0 Z W os rs w' s)/\(n2-i').toNat<((x.chunks.length:Int)-(a.length:Int)).toNat)
     (x.ref:Int) p x.chunks.length cc cw cl (y.1:Int) ⟨w1.heap.size,0,none⟩ p x.chunks.length cc (x.chunks.length:Int) (a.length:Int) w2:=by
    unfold xm;refine⟨_,o2.at 3 rfl,_,o2.at 2 rfl,aT (by rw[decide_eq_false_iff_not];omega) ⟨_,o2.at 3 rfl, ?_⟩⟩;rw[bk (by omega) (by omega)];refine⟨⟨rfl,rfl,rfl,rfl,rfl,rfl,rfl,rfl,rfl,rfl,a++[y],b,y.1,y.2.2,by rw[G];simp,by simp,rfl,q.2,g6,λ _=>rfl,h2⟩,by omega⟩
   refine bn (λ fj=> ?_) (λ _=>H);refine⟨_,o2.at 2 rfl,aT ?_ H⟩;have eY:a≠[]:=by
    rintro rfl;simp at fj
   rw[hlm eY,decide_eq_false_iff_not];omega
theorem k62{P:cF->Prop}{S:List Wd}{x:bI}{prev:eh}{lend:Nat}{t0:Int}{p:OA}{cc:Nat}(h:C1 c w0 Z w W s)
  (J:∀{Z':Nat->Prop} {w:ak},C1 c w Z' w W s->au ag 125 #[an (some W),ah aG 2] w λ r w'=>r=aA/\∃s',P s'/\C1 c w Z' w' W s')
  (hP:∀s,P s->s.m1=ic S/\(∀n,(s.m2 n).getD 0<=1000000000)/\s.F.length<=1000000000/\s.ls=bh prev/\s.lref<=x.ref/\Up s.lcref (x.chunks.map (·.1)) lend)
  (hx:aX w0 4 (aa p x.chunks.length cc) x.chunks.length (x.chunks.flatMap dN))(hZ:∀y,aN (aa p x.chunks.length cc)=some y->Z y)(ht:ju t0 x.chunks)(lh:x.chunks.length<=100)(s9: -2305843009213693952<=t0)
  (hs:ia x.labels)(jF:x.labels.length<=100)(ou:ia prev)(sU:prev.length<=100)(Eo:CF (ib x.labels) (ib prev))(hS:S.length<=100000)(mr:∀y∈x.labels,y.1∈S/\y.2∈S):
  au ag 62 #[an (some W),ah aj (x.ref:Int),mX x.labels,aa p x.chunks.length cc] w λ r w'=>r=aA/\∃s b1 b2 dig,P s/\C1 c w0 Z w' W {s with F:=dr S s.F x,m2:=gZ s.m2 x.labels,b1:=b1,b2:=b2,dig:=dig,ls:=bh x.labels,lref:=x.ref,lcref:=lend}:=by
 have u:∀l:eh,ia l->(bh l).length<=402*l.length:=by
  intro l;induction l with
  |nil=>intro _;simp[bh]
  |cons y l ih=>
   intro h;have h1:=ih (λ z hz=>h z (by simp[hz]));have K:=h y (by simp);rw[kK];simp only[aY,eK,dH];omega
 have gL:=u x.labels hs;have jc:=u prev ou;apply c62;unfold OT;have o1:=Ob.new w [an (some W)] 124;have k1:=bA w (.cells ⟨[an (some W)]⟩ 124);have Ue:w.heap.size<(w.alloc (.cells ⟨[an (some W)]⟩ 124)).heap.size:=o1.lt (by simp);have G:aX w 4 (aa p x.chunks.length cc) x.chunks.length (x.chunks.flatMap dN):=aX.away hx h.held (λ y hy o hS=>hS (.inl (hZ y hy)));have h1:=(h.sj.ahC (r:=⟨aa p x.chunks.length cc,4,x.chunks.length,x.chunks.flatMap dN⟩) G hZ).new k1 o1 (bB _) Ue;dsimp only[a_];generalize w.alloc (.cells ⟨[an (some W)]⟩ 124)=H at*;have o2:=Ob.new H [aC (bs (bh x.labels))] 136;have k2:=bA H (.cells ⟨[aC (bs (bh x.labels))]⟩ 136);have vg:H.heap.size<(H.alloc (.cells ⟨[aC (bs (bh x.labels))]⟩ 136)).heap.size:=o2.lt (by simp);have K:=h1.new k2 o2 (bB _) vg;generalize H.alloc (.cells ⟨[aC (bs (bh x.labels))]⟩ 136)=w2 at*;generalize U:[((⟨H.heap.size,0,none⟩:kd),[aC (bs (bh x.labels))]),(⟨w.heap.size,0,none⟩,[an (some W)])]=os at K;generalize hrs:[(⟨aa p x.chunks.length cc,4,x.chunks.length,x.chunks.flatMap dN⟩:kP)]=rs at K;have q:((⟨w.heap.size,0,none⟩:kd),[an (some W)])∈os:=by rw[<-U];simp
 have Q:((⟨H.heap.size,0,none⟩:kd),[aC (bs (bh x.labels))])∈os:=by rw[<-U];simp
 have X:(⟨aa p x.chunks.length cc,4,x.chunks.length,x.chunks.flatMap dN⟩:kP)∈rs:=by rw[<-hrs];simp
 refine⟨_,K.ptr q, ?_⟩;obtain⟨Zc,hI⟩:=K;refine aF (J hI.1.1) ?_;rintro _ w3 ⟨rfl,s',N,h3⟩;have h3:=hI.step h3;obtain⟨jY,s_,hF,hls,RI,kJ⟩:=hP s' N;refine⟨_,rfl,_,λ w=>cE _ w,_,rfl,aT rfl ?_⟩;have E:=h3.drew;have R:∀{w:ak},SJ c w0 Z W os rs w s'->at_ w (W.add 41) (aC (bs (bh prev))):=λ h=>by
  have:=h.inv.eI 7 rfl;rwa[hls] at this
 refine⟨_,(E.ob Q).at 0 rfl,_,E.ptr q,_,by simpa using R E, ?_⟩;refine aF (aem hs ou (by omega) (by omega) Eo) ?_;rintro _ w4 ⟨⟨n,hn,rfl⟩,k4⟩;have I:=E.aH k4;refine⟨_,rfl,by simpa using I.ptr q,aT (by rw[decide_eq_false_iff_not];omega) ?_⟩;refine⟨_,I.ptr q,_,I.inv.eI 8 rfl,aT (by rw[decide_eq_false_iff_not];omega) ?_⟩;unfold Bs;refine⟨_,I.ptr q,_,I.inv.eI 9 rfl, ?_⟩;exact ahR (S:=S) I q Q X ht lh s9 kJ hs jF jY hS mr s_ hF (λ w' b1 b2 dig h'=>⟨rfl,s',b1,b2,dig,N,h'⟩)
end
end Go.Proofs
namespace Go.Proofs
open Go.Shelf
def Tryz.ahY:Go.Shelf.Ren:=⟨λ|190=>121|125=>176|258=>175|128=>226|129=>227|302=>217|303=>218|304=>219|305=>220|306=>221|307=>222|308=>223|309=>224|310=>225|333=>254|329=>255|330=>256|334=>257|335=>258|336=>259|344=>275|n=>n,λ|31=>22|9=>9|3=>3|46=>106|0=>0|51=>152|53=>43|4=>4|183=>352|182=>351|131=>357|5=>5|218=>397|222=>400|228=>418|229=>300|n=>n,λ|n=>n⟩
theorem Tryz.Ug:Go.Proofs.Lays.n190 ag Tryz.ahY:={
 mixed:=by kernel_rfl
 f125:=Tryz.func176.trans (congrArg some (by kernel_rfl))
 f128:=Tryz.func226.trans (congrArg some (by kernel_rfl))
 f129:=Tryz.func227.trans (congrArg some (by kernel_rfl))
 f190:=Tryz.func121.trans (congrArg some (by kernel_rfl))
 f258:=Tryz.func175.trans (congrArg some (by kernel_rfl))
 f302:=Tryz.func217.trans (congrArg some (by kernel_rfl))
 f303:=Tryz.func218.trans (congrArg some (by kernel_rfl))
 f304:=Tryz.func219.trans (congrArg some (by kernel_rfl))
 f305:=Tryz.func220.trans (congrArg some (by kernel_rfl))
 f306:=Tryz.func221.trans (congrArg some (by kernel_rfl))
 f307:=Tryz.func222.trans (congrArg some (by kernel_rfl))
 f308:=Tryz.func223.trans (congrArg some (by kernel_rfl))
 f309:=Tryz.func224.trans (congrArg some (by kernel_rfl))
 f310:=Tryz.func225.trans (congrArg some (by kernel_rfl))
 f329:=Tryz.func255.trans (congrArg some (by kernel_rfl))
 f330:=Tryz.func256.trans (congrArg some (by kernel_rfl))
 f333:=Tryz.func254.trans (congrArg some (by kernel_rfl))
 f334:=Tryz.func257.trans (congrArg some (by kernel_rfl))
 f335:=Tryz.func258.trans (congrArg some (by kernel_rfl))
 f336:=Tryz.func259.trans (congrArg some (by kernel_rfl))
 f344:=Tryz.func275.trans (congrArg some (by kernel_rfl))
 t0:=Tryz.underlying0
 a0:=Tryz.isAgg0
 z0:=Tryz.sizeOf0
 v0:=Tryz.zeroValue0
 t3:=Tryz.underlying3
 a3:=Tryz.isAgg3
 z3:=Tryz.sizeOf3
 v3:=Tryz.zeroValue3
 t4:=Tryz.underlying4
 a4:=Tryz.isAgg4
 z4:=Tryz.sizeOf4
 v4:=Tryz.zeroValue4
 t5:=Tryz.underlying5
 a5:=Tryz.isAgg5
 z5:=Tryz.sizeOf5
 v5:=Tryz.zeroValue5
 t9:=Tryz.underlying9
 a9:=Tryz.isAgg9
 z9:=Tryz.sizeOf9
 v9:=Tryz.zeroValue9
 t31:=Tryz.underlying22
 a31:=Tryz.isAgg22
 z31:=Tryz.sizeOf22
 v31:=Tryz.zeroValue22
 t46:=Tryz.underlying106
 a46:=Tryz.isAgg106
 z46:=Tryz.sizeOf106
 v46:=Tryz.zeroValue106
 t51:=Tryz.underlying152
 a51:=Tryz.isAgg152
 z51:=Tryz.sizeOf152
 v51:=Tryz.zeroValue152
 t53:=Tryz.underlying43
 a53:=Tryz.isAgg43
 z53:=Tryz.sizeOf43
 v53:=Tryz.zeroValue43
 t131:=Tryz.underlying357
 a131:=Tryz.isAgg357
 z131:=Tryz.sizeOf357
 v131:=Tryz.zeroValue357
 t182:=Tryz.underlying351
 a182:=Tryz.isAgg351
 z182:=Tryz.sizeOf351
 v182:=Tryz.zeroValue351
 t183:=Tryz.underlying352
 a183:=Tryz.isAgg352
 z183:=Tryz.sizeOf352
 v183:=Tryz.zeroValue352
 t218:=Tryz.underlying397
 a218:=Tryz.isAgg397
 z218:=Tryz.sizeOf397
 v218:=Tryz.zeroValue397
 t222:=Tryz.underlying400
 a222:=Tryz.isAgg400
 z222:=Tryz.sizeOf400
 v222:=Tryz.zeroValue400
 t228:=Tryz.underlying418
 a228:=Tryz.isAgg418
 z228:=Tryz.sizeOf418
 v228:=Tryz.zeroValue418
 t229:=Tryz.underlying300
 a229:=Tryz.isAgg300
 z229:=Tryz.sizeOf300
 v229:=Tryz.zeroValue300}
def Tryz.ahZ:Go.Shelf.Ren:=⟨λ|125=>176|128=>226|129=>227|n=>n,λ|46=>106|3=>3|51=>152|53=>43|4=>4|5=>5|9=>9|n=>n,λ|n=>n⟩
theorem Tryz.ah0:Go.Proofs.Lays.n125 ag Tryz.ahZ:={
 mixed:=by kernel_rfl
 f125:=Tryz.func176.trans (congrArg some (by kernel_rfl))
 f128:=Tryz.func226.trans (congrArg some (by kernel_rfl))
 f129:=Tryz.func227.trans (congrArg some (by kernel_rfl))
 t3:=Tryz.underlying3
 a3:=Tryz.isAgg3
 z3:=Tryz.sizeOf3
 v3:=Tryz.zeroValue3
 t4:=Tryz.underlying4
 a4:=Tryz.isAgg4
 z4:=Tryz.sizeOf4
 v4:=Tryz.zeroValue4
 t5:=Tryz.underlying5
 a5:=Tryz.isAgg5
 z5:=Tryz.sizeOf5
 v5:=Tryz.zeroValue5
 t9:=Tryz.underlying9
 a9:=Tryz.isAgg9
 z9:=Tryz.sizeOf9
 v9:=Tryz.zeroValue9
 t46:=Tryz.underlying106
 a46:=Tryz.isAgg106
 z46:=Tryz.sizeOf106
 v46:=Tryz.zeroValue106
 t51:=Tryz.underlying152
 a51:=Tryz.isAgg152
 z51:=Tryz.sizeOf152
 v51:=Tryz.zeroValue152
 t53:=Tryz.underlying43
 a53:=Tryz.isAgg43
 z53:=Tryz.sizeOf43
 v53:=Tryz.zeroValue43}
open Go.Sort Go.RowKit in
theorem sortStr(aN off cap:Nat)(ss:List (List UInt8))(w:ak)(q:Holds encStr w aN off ss.toArray)(c:aN<w.heap.size)(h:ss.length<4611686018427387904):
  Calls ag 121 #[aa (some ⟨aN,off,none⟩) ss.length cap] w λ e w'=>
   e= .returned (aZ #[])/\∃n os,w'=grow (putRow encStr (Sort.ahead w n) aN off (ss.mergeSort λ x y=>decide (x<=y)).toArray) os:=Any.slices_Sort_string Tryz.Ug aN off cap ss w q c h
theorem bitsLen(x:Int)(w:ak)(c:0<=x)(h:x<=18446744073709551615):
  Calls ag 176 #[ah aj x] w λ e w'=>e= .returned (ah af (Lib.bitLen x.toNat))/\w'=w:=Any.bits_Len Tryz.ah0 x w c h
end Go.Proofs
namespace Go.Proofs
open Go Go.V
def sw(f:Int->Nat)(i j:Int):Int->Nat:=λ k=>if k=i then f j else if k=j then f i else f k
theorem ah1(f:Int->Nat)(i j:Int):sw f i j=sw f j i:=by
 funext k;unfold sw;split<;>split<;>simp_all
def dD(a b:Int)(f g:Int->Nat):Prop:=∃s t:Int->Int,(∀k,t (s k)=k)/\(∀k,s (t k)=k)/\(∀k,k<a\/b<=k->s k=k)/\∀k,g k=f (s k)
section
variable{a b m a' b' i j:Int}{f g h:Int->Nat}
theorem dD.refl:dD a b f f:=⟨id,id,λ _=>rfl,λ _=>rfl,λ _ _=>rfl,λ _=>rfl⟩
theorem dD.trans(I:dD a b f g)(J:dD a b g h):dD a b f h:=by
 obtain⟨s,t,r,x,y,E⟩:=I;obtain⟨u,v,b1,b2,G,H⟩:=J;exact⟨λ k=>s (u k),λ k=>v (t k),λ k=>by simp[r,b1],λ k=>by simp[x,b2],λ k q=>by simp[G k q,y k q],λ k=>by rw[H,E]⟩
theorem dD.mono(y:dD a b f g)(E:a'<=a)(G:b<=b'):dD a' b' f g:=by
 obtain⟨s,t,q,r,u,x⟩:=y;exact⟨s,t,q,r,λ k H=>u k (by omega),x⟩
theorem dD.swap(q:a<=i)(r:i<b)(u:a<=j)(x:j<b):dD a b f (sw f i j):=by
 refine⟨λ k=>if k=i then j else if k=j then i else k,λ k=>if k=i then j else if k=j then i else k, ?_, ?_, ?_, ?_⟩
 ·intro k;dsimp only;split<;>split<;>(try split)<;>omega
 ·intro k;dsimp only;split<;>split<;>(try split)<;>omega
 ·intro k y;dsimp only;rw[if_neg (by omega),if_neg (by omega)]
 ·intro k;unfold sw;dsimp only;split<;>(try split)<;>simp_all
theorem dD.jZ{s t:Int->Int}(q:∀k,t (s k)=k)(r:∀k,k<a\/b<=k->s k=k){k:Int}(E:a<=k/\k<b):a<=s k/\s k<b:=by
 by_cases y:s k<a\/b<=s k
 ·have u:=r _ y;have x:=q (s k);rw[u,q] at x;omega
 ·omega
theorem dD.all{P:Nat->Prop}(q:dD a b f g)(E:∀k,a<=k->k<b->P (f k)):∀k,a<=k->k<b->P (g k):=by
 obtain⟨s,t,r,G,u,x⟩:=q;intro k q y;rw[x];have:=dD.jZ r u ⟨q,y⟩;exact E _ this.1 this.2
theorem dD.symm(y:dD a b f g):dD a b g f:=by
 obtain⟨s,t,q,r,u,x⟩:=y;refine⟨t,s,r,q,λ k E=> ?_,λ k=>by rw[x,r]⟩;have:=u k E;rw[<-this,q,this]
theorem dD.out(u:dD a b f g){k:Int}(x:k<a\/b<=k):g k=f k:=by
 obtain⟨s,t,y,E,q,r⟩:=u;rw[r,q k x]
def mu(a b:Int)(f:Int->Nat):Prop:=∀i j,a<=i->i<j->j<b->f i<f j
def Rs(a b q b1:Int)(f:Int->Nat):Prop:=∀i j,a<=i->i<j->j<b->¬(q<=i/\j<b1)->f i<f j
theorem Rs.start:Rs a b a b f:=λ i j q x r u=>absurd ⟨q,r⟩ u
theorem Rs.perm{q b1:Int}(h:Rs a b q b1 f)(r:dD q b1 f g)(J:a<=q)(K:b1<=b):Rs a b q b1 g:=by
 intro i j hi u E G;by_cases ci:q<=i/\i<b1
 ·rw[r.out (k:=j) (by omega)];exact r.all (P:=λ x=>x<f j) (λ k H I=>h k j (by omega) (by omega) E (by omega)) i ci.1 ci.2
 ·rw[r.out (k:=i) (by omega)];by_cases y:q<=j/\j<b1
  ·exact r.all (P:=λ x=>f i<x) (λ k H I=>h i k hi (by omega) (by omega) (by omega)) j y.1 y.2
  ·rw[r.out (k:=j) (by omega)];exact h i j hi u E G
theorem Rs.done{q b1:Int}(h:Rs a b q b1 f)(hi:mu q b1 f):mu a b f:=by
 intro i j x u y;by_cases r:q<=i/\j<b1
 ·exact hi i j r.1 u r.2
 ·exact h i j x u y r
def Cut(a b m:Int)(f:Int->Nat):Prop:=(∀k,a<=k->k<m->f k<f m)/\∀k,m<k->k<b->f m<f k
theorem Rs.left{q b1:Int}(h:Rs a b q b1 f)(u:Cut q b1 m f)(hi:mu q m f):Rs a b (m+1) b1 f:=by
 intro i j x r y E;by_cases c1:q<=i/\j<b1
 ·by_cases c2:j<m
  ·exact hi i j c1.1 r c2
  ·by_cases c3:i=m
   ·subst c3;exact u.2 j r c1.2
   ·by_cases c4:j=m
    ·subst c4;exact u.1 i c1.1 r
    ·exact Nat.lt_trans (u.1 i c1.1 (by omega)) (u.2 j (by omega) c1.2)
 ·exact h i j x r y c1
theorem Rs.right{q b1:Int}(h:Rs a b q b1 f)(u:Cut q b1 m f)(hi:mu (m+1) b1 f):Rs a b q m f:=by
 intro i j x r y E;by_cases c1:q<=i/\j<b1
 ·by_cases c2:m<i
  ·exact hi i j (by omega) r c1.2
  ·by_cases c3:i=m
   ·subst c3;exact u.2 j r c1.2
   ·by_cases c4:j=m
    ·subst c4;exact u.1 i c1.1 r
    ·exact Nat.lt_trans (u.1 i c1.1 (by omega)) (u.2 j (by omega) c1.2)
 ·exact h i j x r y c1
theorem Cut.left(y:Cut a b m f)(E:m<b)(u:dD a m f g):Cut a b m g:=by
 have e:g m=f m:=u.out (by omega);refine⟨λ k q r=> ?_,λ k q r=> ?_⟩
 ·rw[e];exact u.all (P:=λ x=>x<f m) (λ k q r=>y.1 k q r) k q r
 ·rw[e,u.out (k:=k) (by omega)];exact y.2 k q r
theorem Cut.right(y:Cut a b m f)(E:a<=m)(u:dD (m+1) b f g):Cut a b m g:=by
 have e:g m=f m:=u.out (by omega);refine⟨λ k r q=> ?_,λ k r q=> ?_⟩
 ·rw[e,u.out (k:=k) (by omega)];exact y.1 k r q
 ·rw[e];exact u.all (P:=λ x=>f m<x) (λ k r q=>y.2 k (by omega) q) k (by omega) q
def mv(n:Int)(f:Int->Nat):Prop:=∀i j,0<=i->i<n->0<=j->j<n->i≠j->f i≠f j
theorem mv.perm{n:Int}(h:mv n f)(N:dD a b f g)(J:0<=a)(K:b<=n):mv n g:=by
 obtain⟨s,t,q,Q,u,x⟩:=N.mono J K;intro i j E G H I r;rw[x,x];have hi:=dD.jZ q u ⟨E,G⟩;have y:=dD.jZ q u ⟨H,I⟩;refine h _ _ hi.1 hi.2 y.1 y.2 (λ e=>r ?_);rw[<-q i,e,q]
end
def SP(p:OA)(n c:Nat)(l0:List Nat)(w0:ak)(f:Int->Nat)(w:ak):Prop:=
 ∃l:List Nat,l.Perm l0/\l.length=n/\(∀(i:Nat) (h:i<l.length),l[i]=f (i:Int))/\cP eU 1 w (aa p n c) l/\Fr (λ b _=>aN (aa p n c)=some b) w0 w
section
variable{p:OA}{n c:Nat}{l0:List Nat}{w0 w w':ak}{f g:Int->Nat}
theorem SP.aH(h:SP p n c l0 w0 f w)(q:aS w w'):SP p n c l0 w0 f w':=by
 obtain⟨l,r,u,x,y,E⟩:=h;exact⟨l,r,u,x,y.aH q,E.aH q⟩
theorem SP.d(h:SP p n c l0 w0 f w):SP p n c l0 w0 f w.drew:=h.aH (cu w)
theorem SP.new{S:Nat->Nat->Prop}(h:SP p n c l0 w0 f w)(u:Fr S w w')(r:∀b o,S b o->w0.heap.size<=b/\aN (aa p n c)≠some b):SP p n c l0 w0 f w':=by
 obtain⟨l,x,y,E,G,H⟩:=h;exact⟨l,x,y,E,G.fr u (λ b I o q=>(r b o q).2 I),H.new u (λ b o q=>(r b o q).1)⟩
theorem SP.get(h:SP p n c l0 w0 f w){i:Int}(q:0<=i)(G:i<n){K:Int->Prop}(u:K (f i:Int)):aU p n i 1 λ a=>aD aL (at_ w.drew a) λ x=>K x:=by
 obtain⟨l,_,H,E,y,_⟩:=h.d;refine Sl.ix (enc:=eU) (z:=1) (l:=l) (λ _=>rfl) (by omega) y.cV q (by omega) (λ a _ r=> ?_);have:=r 0 _ rfl;rw[add_zero,E,Int.toNat_of_nonneg q] at this;exact⟨_,this,u⟩
theorem Uh{l:List Nat}{i x:Nat}(G:cP eU 1 w (aa p n c) l)(Q:l.length=n)(hi:i<n){K:ak->Prop}
  (N:∀w',cP eU 1 w' (aa p n c) (l.set i x)->Fr (λ b _=>aN (aa p n c)=some b) w w'->K w'):aU p n (i:Int) 1 λ a=>wr w a (ah aL (x:Int)) K:=by
 subst Q;rcases G.2 with⟨H,E⟩|⟨g,cap,cur,e,H,_⟩
 ·omega
 ·have U:p=some ⟨g,0,none⟩:=by injection H
  subst U;have r:=G.ob;have q:∀m:List Nat,m.flatMap eU=m.map λ k:Nat=>ah aL (k:Int):=by
   intro m;induction m with
   |nil=>rfl
   |cons a m X=>rw[fG,hW,X];rfl
  rw[q] at r;refine kj (by omega) (by omega) ?_;rw[fH];have u:i<(l.map λ k:Nat=>ah aL (k:Int)).length:=by simpa using hi
  refine⟨⟨trivial,r.can i u⟩, ?_⟩;have W:=r.set i u (ah aL (x:Int));have I:=Fr.set w ((⟨g,0,none⟩:kd).add i) (ah aL (x:Int));refine N _ ?_ (I.mono (λ b o _ J=>by rw[J.1,cT];rfl));have y:(l.set i x).length=l.length:=by simp
  show Own _ 1 _ (l.set i x).length _;rw[y];refine Own.over G (vs':=(l.set i x).flatMap eU) (by rw[q];simp) ?_ I ?_
  ·rw[q,List.map_set];exact W
  ·rintro o R ⟨_,E⟩;rw[fJ] at E;simp only at E;omega
theorem SP.Ui(h:SP p n c l0 w0 f w){i j:Int}(E:0<=i)(hi:i<n)(H:0<=j)(hj:j<n){K:ak->Prop}(I:∀w',SP p n c l0 w0 (sw f i j) w'->Fr (λ b _=>aN (aa p n c)=some b) w w'->K w'):
  aU p n i 1 λ a=>aD aL (at_ w.drew a) λ x=>aU p n j 1 λ a2=>aD aL (at_ w.drew a2) λ y=>aU p n j 1 λ a3=>wr w.drew a3 (ah aL x) λ w1=>aU p n i 1 λ a4=>wr w1 a4 (ah aL y) λ W=>K W:=by
 refine h.get E hi ?_;refine h.get H hj ?_;obtain⟨l,h1,N,U,Z,X⟩:=h.d;have hd:Fr (λ b _=>aN (aa p n c)=some b) w w.drew:=Fr.mono (cu w) (λ _ _ _ x=>x.elim);generalize w.drew=wd at Z X hd;obtain⟨i,rfl⟩:=Int.eq_ofNat_of_zero_le E;obtain⟨j,rfl⟩:=Int.eq_ofNat_of_zero_le H;have u:i<l.length:=by omega
 have G:j<l.length:=by omega
 refine Uh (i:=j) (x:=f i) Z N (by omega) (λ w1 Q q=> ?_);refine Uh (i:=i) (x:=f j) Q (by simpa using N) (by omega) (λ W R r=> ?_);refine I W ⟨(l.set j (f i)).set i (f j), ?_,by simpa using N,λ k I=> ?_,R,(X.step q (λ _ _ x _=>x)).step r (λ _ _ x _=>x)⟩ ((hd.step q (λ _ _ x _=>x)).step r (λ _ _ x _=>x))
 ·rw[<-U i u,<-U j G];exact(List.set_set_perm G u).trans h1
 ·have J:k<l.length:=by simpa using I
  have e1:((k:Int)=(i:Int))↔i=k:=by omega
  have e2:((k:Int)=(j:Int))↔j=k:=by omega
  rw[List.getElem_set,List.getElem_set,U k J];unfold sw;simp only[e1,e2]
theorem SP.swap(h:SP p n c l0 w0 f w){i j:Int}(q:0<=i)(hi:i<n)(r:0<=j)(H:j<n){K:ak->Prop}(I:∀w',SP p n c l0 w0 (sw f i j) w'->K w'):
  aU p n i 1 λ a=>aD aL (at_ w.drew a) λ x=>aU p n j 1 λ u=>aD aL (at_ w.drew u) λ y=>aU p n j 1 λ E=>wr w.drew E (ah aL x) λ J=>aU p n i 1 λ G=>wr J G (ah aL y) λ N=>K N:=
 h.Ui q hi r H (λ w' h' _=>I w' h')
theorem ah2(x:Int):au ag 291 #[ah aL x] w λ r w'=>r=aQ false/\w'=w:=by
 apply ac0;unfold QT;exact⟨by simp,rfl⟩
theorem Uj(x y:Nat):au ag 282 #[ah aL (x:Int),ah aL (y:Int)] w λ r w'=>r=aQ (decide (x<y))/\w'=w:=by
 apply acS;unfold QM;refine aF (ah2 _) ?_;rintro _ w ⟨rfl,rfl⟩;refine⟨_,rfl,aT rfl ?_⟩;refine⟨?_,rfl⟩;congr 1;simp
theorem SP.less(h:SP p n c l0 w0 f w){i j:Int}(q:0<=i)(hi:i<n)(u:0<=j)(G:j<n){K:Bool->ak->Prop}(H:∀w',SP p n c l0 w0 f w'->K (decide (f i<f j)) w'):
  aU p n i 1 λ a=>aD aL (at_ w.drew a) λ x=>aU p n j 1 λ E=>aD aL (at_ w.drew E) λ y=>au ag 282 #[ah aL x,ah aL y] w.drew λ r I=>aW (ax r) λ b=>K b I:=by
 refine h.get q hi ?_;refine h.get u G ?_;refine aF (Uj _ _) ?_;rintro _ _ ⟨rfl,rfl⟩;exact⟨_,rfl,H _ h.d⟩
theorem Uk(h:SP p n c l0 w0 f w)(hd:mv n f){a b:Int}(ha:0<=a)(hb:b<=n)(hn:n<=1000)(vh:a<=b):
  au ag 276 #[aa p n c,ah af a,ah af b] w λ _ w'=>∃g,dD a b f g/\mu a b g/\SP p n c l0 w0 g w':=by
 apply acL;unfold Qy;refine acK (λ p' Z K a' b' i w'=>p=p'/\n=Z/\c=K/\a=a'/\b=b'/\a<i/\i<=n+1/\∃g,dD a b f g/\(∀x y,a<=x->x<y->y<i->y<b->g x<g y)/\SP p n c l0 w0 g w') (λ _ _ _ _ b' i _=>(b'-i).toNat) ?_ ?_
 ·rw[bk (by omega) (by omega)];exact⟨rfl,rfl,rfl,rfl,rfl,by omega,by omega,f,dD.refl,λ x y _ _ _=>by omega,h⟩
 ·rintro _ _ _ _ _ i w1 ⟨rfl,rfl,rfl,rfl,rfl,h1,h2,g0,R,U,h3⟩;unfold Ho;refine bn (λ hc=> ?_) (λ hc=>⟨g0,R,λ x y u G J=>U x y u G (by simp at hc;omega) J,h3⟩);have hib:i<b:=by simpa using hc
  refine acJ (λ p' Z K a' b' I j w'=>p=p'/\n=Z/\c=K/\a=a'/\b=b'/\i=I/\a<=j/\j<=i/\∃g,dD a b f g/\(∀x y,a<=x->x<y->y<=i->x≠j->y≠j->g x<g y)/\(∀y,j<y->y<=i->g j<g y)/\SP p n c l0 w0 g w') (λ _ _ _ _ _ _ j _=>j.toNat) ?_ ?_
  ·exact⟨rfl,rfl,rfl,rfl,rfl,rfl,by omega,by omega,g0,R,λ x y u G J x4 x5=>U x y u G (by omega) (by omega),λ y _ _=>by omega,h3⟩
  ·rintro _ _ _ _ _ _ j w2 ⟨rfl,rfl,rfl,rfl,rfl,rfl,h4,h5,g,hp,r,W,h6⟩;have E:∀{w:ak},SP p n c l0 w0 g w->(a<j->g (j-1)<g j)->xW (λ _ w'=>∃g,dD a b f g/\mu a b g/\SP p n c l0 w0 g w') (λ p' Z K a' b' I w'=>(p=p'/\n=Z/\c=K/\a=a'/\b=b'/\a<I/\I<=n+1/\∃g,dD a b f g/\(∀x y,a<=x->x<y->y<I->y<b->g x<g y)/\SP p n c l0 w0 g w')/\(b'-I).toNat<(b-i).toNat) p n c a b i w:=by
    intro w h Q;unfold xW;rw[bk (by omega) (by omega)];refine⟨⟨rfl,rfl,rfl,rfl,rfl,by omega,by omega,g,hp,λ x y u G J x4=> ?_,h⟩,by omega⟩;by_cases hy:y=j
    ·subst hy;by_cases X:x=y-1
     ·subst X;exact Q (by omega)
     ·exact Nat.lt_trans (r x (y-1) u (by omega) (by omega) (by omega) (by omega)) (Q (by omega))
    ·by_cases X:x=j
     ·subst X;exact W y G (by omega)
     ·exact r x y u G (by omega) X hy
   unfold Hm;refine bn (λ H=> ?_) (λ H=>E h6.d (λ X=>by simp at H;omega));have hja:a<j:=by simpa using H
   have N:aq af (j-1)=j-1:=bk (by omega) (by omega);rw[N];have hdg:=hd.perm hp ha hb;refine h6.less (by omega) (by omega) (by omega) (by omega) (λ w3 h7=> ?_);refine bn (λ q=> ?_) (λ q=>E h7 (λ _=>by
    have:=hdg j (j-1) (by omega) (by omega) (by omega) (by omega) (by omega);simp at q;omega))
   have q:g j<g (j-1):=by simpa using q
   unfold Hl;rw[N];refine h7.swap (by omega) (by omega) (by omega) (by omega) (λ w3 h8=> ?_);refine⟨⟨rfl,rfl,rfl,rfl,rfl,rfl,by omega,by omega,_,hp.trans (dD.swap (i:=j) (j:=j-1) (by omega) (by omega) (by omega) (by omega)),λ x y u G J x4 x5=> ?_,λ y y1 y2=> ?_,by rw[ah1];exact h8⟩,by omega⟩
   ·unfold sw;rw[if_neg x4,if_neg x5];split
    ·rename_i e;subst e;rw[if_neg (by omega)];exact r (x-1) y (by omega) (by omega) J (by omega) (by omega)
    ·split
     ·rename_i e;subst e;exact r x (y-1) u (by omega) (by omega) (by omega) (by omega)
     ·exact r x y u G J (by omega) (by omega)
   ·unfold sw;rw[if_neg (by omega),if_pos rfl];split
    ·exact q
    ·rw[if_neg (by omega)];exact W y (by omega) y2
theorem ah5(h:SP p n c l0 w0 f w)(hd:mv n f){a b:Int}(ha:0<=a)(hb:b<=n)(hn:n<50)(vh:a<b):au ag 281 #[aa p n c,ah af a,ah af b] w λ r w'=>(∃x,r=aQ x/\(x=true->mu a b f))/\SP p n c l0 w0 f w':=by
 apply acR;unfold QL;rw[bk (by omega) (by omega)];have u:∀i,a<i->(∀x y,a<=x->x<y->y<i->f x<f y)->f (i-1)<f i->∀x y,a<=x->x<y->y<i+1->f x<f y:=by
  intro i h0 J K x y Z x2 x3;by_cases hy:y=i
  ·subst hy;by_cases hx:x=y-1
   ·subst hx;exact K
   ·exact Nat.lt_trans (J x (y-1) Z (by omega) (by omega)) K
  ·exact J x y Z x2 (by omega)
 refine acQ (λ R Q I a' b' i j w'=>p=R/\n=Q/\c=I/\a=a'/\b=b'/\a<i/\i<=b/\0<=j/\j<=5/\(∀x y,a<=x->x<y->y<i->f x<f y)/\SP p n c l0 w0 f w') (λ _ _ _ _ _ _ j _=>(5-j).toNat) ?_ ?_
 ·exact⟨rfl,rfl,rfl,rfl,rfl,by omega,by omega,by omega,by omega,λ x y _ _ _=>by omega,h⟩
 ·rintro _ _ _ _ _ i j w1 ⟨rfl,rfl,rfl,rfl,rfl,J,K,h3,h4,H,U⟩;unfold Hs;refine bn (λ hc=> ?_) (λ _=>⟨⟨_,rfl,λ e=>by cases e⟩,U⟩);refine acP (λ R Q I a' b' G j' w'=>p=R/\n=Q/\c=I/\a=a'/\b=b'/\j=j'/\a<G/\G<=b/\(∀x y,a<=x->x<y->y<G->f x<f y)/\SP p n c l0 w0 f w') (λ _ _ _ _ b' G _ _=>(b'-G).toNat) ?_ ?_
  ·exact⟨rfl,rfl,rfl,rfl,rfl,rfl,by omega,by omega,H,U⟩
  ·rintro _ _ _ _ _ i _ w2 ⟨rfl,rfl,rfl,rfl,rfl,rfl,h6,h7,H,W⟩;have q:∀{w:ak} {N3:OA->Nat->Nat->Int->Int->Int->Int->ak->Prop},SP p n c l0 w0 f w->x7 (λ r w'=>(∃x,r=aQ x/\(x=true->mu a b f))/\SP p n c l0 w0 f w') N3 p n c a b i j w:=by
    intro w N3 h;unfold x7;refine bn (λ hi=>⟨⟨_,rfl,λ _=> ?_⟩,h⟩) (λ _=> ?_)
    ·have:i=b:=by simpa using hi
     subst this;exact H
    ·rw[bk (by omega) (by omega)];exact cJ (by rw[decide_eq_true_iff];omega) ⟨⟨_,rfl,λ e=>by cases e⟩,h⟩
   unfold Hr;refine bn (λ N=> ?_) (λ _=>q W.d);have hib:i<b:=by simpa using N
   rw[bk (by omega) (by omega)];refine W.less (by omega) (by omega) (by omega) (by omega) (λ w3 X=> ?_);refine bn (λ E=> ?_) (λ _=>q X);have eY:=hd i (i-1) (by omega) (by omega) (by omega) (by omega) (by omega);have E:f (i-1)<=f i:=by simpa using E
   unfold Hq;rw[bk (by omega) (by omega)];exact⟨⟨rfl,rfl,rfl,rfl,rfl,rfl,by omega,by omega,u i h6 H (by omega),X⟩,by omega⟩
end
theorem ah6(x:Int)(m:Nat)(q:m<18446744073709551616):0<=bR aj x (m:Int)/\bR aj x (m:Int)<=m:=by
 have e:bR aj x (m:Int)=aq aj (((ql 64 x&&&lY 64 m).toNat:Nat):Int):=by kernel_rfl
 have h:(ql 64 x&&&lY 64 m).toNat<=m:=by
  rw[BitVec.toNat_and];refine eX Nat.and_le_right ?_;rw[mI];exact Nat.mod_le _ _
 rw[e,dV (by omega) (by omega)];omega
theorem ah7:∀L:Nat,8<=L->L<50->Lib.bitLen L=4/\16<=2*L\/Lib.bitLen L=5/\32<=2*L\/Lib.bitLen L=6/\64<=2*L:=by
 intro L h q;have:∀L:Fin 50,8<=L.val->Lib.bitLen L.val=4/\16<=2*L.val\/Lib.bitLen L.val=5/\32<=2*L.val\/Lib.bitLen L.val=6/\64<=2*L.val:=by decide
 exact this ⟨L,q⟩ h
section
variable{p:OA}{n c:Nat}{l0:List Nat}{w0 w w':ak}{f g:Int->Nat}{a b i j:Int}{P:Nat}
structure gp(p:OA)(n c:Nat)(l0:List Nat)(w0:ak)(f:Int->Nat)(P:Nat)(a b i j:Int)(g:Int->Nat)(w:ak):Prop where
 ab:0<=a/\a<b/\b<=n/\n<=1000
 JG:mv n g
 perm:dD a b f g
 eM:g a=P
 lo:∀k,a<k->k<i->g k<g a
 hi:∀k,j<k->k<b->g a<g k
 bi:a<i/\i<=b
 bj:a<=j/\j<b
 sp:SP p n c l0 w0 g w
def PQ(p:OA)(n c:Nat)(l0:List Nat)(w0:ak)(f:Int->Nat)(P:Nat)(a b:Int):ay->ak->Prop:=λ r w'=>∃m x g,r=aZ #[ah af m,aQ x]/\a<=m/\m<b/\dD a b f g/\Cut a b m g/\g m=P/\SP p n c l0 w0 g w'
theorem gp.ij(h:gp p n c l0 w0 f P a b i j g w):i<=j+1:=by
 by_cases q:i<=j+1
 ·exact q
 ·have r:=h.lo (j+1) (by have:=h.bj;omega) (by omega);have u:=h.hi (j+1) (by omega) (by have:=h.bi;omega);omega
theorem gp.mw(h:gp p n c l0 w0 f P a b i j g w)(q:SP p n c l0 w0 g w'):gp p n c l0 w0 f P a b i j g w':={h with sp:=q}
theorem gp.fin(h:gp p n c l0 w0 f P a b i j g w)(E:j<i)(x:Bool)(G:SP p n c l0 w0 (sw g a j) w'):PQ p n c l0 w0 f P a b (aZ #[ah af j,aQ x]) w':=by
 have H:=h.ab;have I:=h.bi;have q:=h.bj;have r:sw g a j j=g a:=by unfold sw;split<;>simp_all
 refine⟨j,x,sw g a j,rfl,q.1,q.2,h.perm.trans (dD.swap (by omega) (by omega) q.1 q.2),⟨λ k u y=> ?_,λ k u y=> ?_⟩,by rw[r,h.eM],G⟩
 ·rw[r];unfold sw;split
  ·exact h.lo j (by omega) (by omega)
  ·rw[if_neg (by omega)];exact h.lo k (by omega) (by omega)
 ·rw[r];unfold sw;rw[if_neg (by omega),if_neg (by omega)];exact h.hi k u y
theorem gp.step(h:gp p n c l0 w0 f P a b i j g w)(H:i<=j)(E:g j<g a)(G:g a<g i)(J:SP p n c l0 w0 (sw g j i) w'):gp p n c l0 w0 f P a b (i+1) (j-1) (sw g j i) w':=by
 have r:=h.ab;have K:=h.bi;have N:=h.bj;have I:i≠j:=by rintro rfl;omega
 have u:dD a b g (sw g j i):=dD.swap (by omega) (by omega) (by omega) (by omega);have q:sw g j i a=g a:=by unfold sw;rw[if_neg (by omega),if_neg (by omega)]
 refine⟨r,h.JG.perm u r.1 (by omega),h.perm.trans u,by rw[q,h.eM],λ k x y=> ?_,λ k x y=> ?_,by omega,by omega,J⟩
 ·rw[q];unfold sw;rw[if_neg (by omega)];split
  ·exact E
  ·exact h.lo k x (by omega)
 ·rw[q];unfold sw;split
  ·exact G
  ·rw[if_neg (by omega)];exact h.hi k (by omega) y
theorem gp.up(h:gp p n c l0 w0 f P a b i j g w)(r:i<=j)(q:g i<g a)(x:SP p n c l0 w0 g w'):gp p n c l0 w0 f P a b (i+1) j g w':=by
 have E:=h.bj;have G:=h.bi;exact{h with lo:=λ k y H=>if u:k=i then u▸q else h.lo k y (by omega),bi:=by omega,sp:=x}
theorem gp.down(h:gp p n c l0 w0 f P a b i j g w)(q:i<=j)(y:¬g j<g a)(u:SP p n c l0 w0 g w'):gp p n c l0 w0 f P a b i (j-1) g w':=by
 have E:=h.bj;have G:=h.bi;have H:=h.ab;have I:=h.JG j a (by omega) (by omega) (by omega) (by omega) (by omega);exact{h with hi:=λ k J x=>if r:k=j then(by subst r;omega) else h.hi k (by omega) x,bj:=by omega,sp:=u}
theorem gp.gt(h:gp p n c l0 w0 f P a b i j g w)(q:i<=j)(r:¬g i<g a):g a<g i:=by
 have u:=h.bj;have x:=h.bi;have y:=h.ab;have E:=h.JG i a (by omega) (by omega) (by omega) (by omega) (by omega);omega
theorem ah8(h:gp p n c l0 w0 f P a b i j g w):HB (PQ p n c l0 w0 f P a b) p n c a i j w:=by
 refine acV (λ I H G E i j w'=>p=I/\n=H/\c=G/\a=E/\∃g,gp p n c l0 w0 f P a b i j g w') (λ _ _ _ _ i j _=>(j+2-i).toNat) ⟨rfl,rfl,rfl,rfl,g,h⟩ ?_;rintro _ _ _ _ i j w2 ⟨rfl,rfl,rfl,rfl,g,h⟩;unfold HA;have h3:=h.ab;have U:=h.bi;have W:=h.bj;have J:∀{w:ak} {q r:Int},i<=q->r<=j->(q<=r->g a<g q/\g r<g a)->gp p n c l0 w0 f P a b q r g w->yb (PQ p n c l0 w0 f P a b) (λ I H G E q r w'=>(p=I/\n=H/\c=G/\a=E/\∃g,gp p n c l0 w0 f P a b q r g w')/\(r+2-q).toNat<(j+2-i).toNat) p n c a q r w:=by
  intro w q r N g2 R h;have U:=h.bi;have W:=h.bj;have h6:=h.ij;unfold yb;refine bn (λ y=> ?_) (λ y=> ?_)
  ·exact h.sp.swap (by omega) (by omega) (by omega) (by omega) (λ Z X=>h.fin (by simpa using y) _ X)
  ·have u:q<=r:=by simpa using y
   refine h.sp.swap (by omega) (by omega) (by omega) (by omega) (λ Z X=> ?_);rw[bk (by omega) (by omega),bk (by omega) (by omega)];exact⟨⟨rfl,rfl,rfl,rfl,_,h.step u (R u).2 (R u).1 X⟩,by omega⟩
 have K:∀{w:ak} {q:Int},i<=q->(q<=j->g a<g q)->gp p n c l0 w0 f P a b q j g w->yd (PQ p n c l0 w0 f P a b) (λ I H G E q r w'=>(p=I/\n=H/\c=G/\a=E/\∃g,gp p n c l0 w0 f P a b q r g w')/\(r+2-q).toNat<(j+2-i).toNat) p n c a q j w:=by
  intro w q N R h;unfold yd;refine acT (λ I H G E i2 r w'=>p=I/\n=H/\c=G/\a=E/\q=i2/\r<=j/\gp p n c l0 w0 f P a b q r g w') (λ _ _ _ _ _ r _=>(r+2).toNat) ?_ ?_
  ·exact⟨rfl,rfl,rfl,rfl,rfl,by omega,h⟩
  ·rintro _ _ _ _ _ r Z ⟨rfl,rfl,rfl,rfl,rfl,g5,h⟩;have U:=h.bi;have W:=h.bj;unfold Hy;refine bn (λ y=> ?_) (λ y=>J N g5 (λ e=>by simp at y;omega) (h.mw h.sp.d));have u:q<=r:=by simpa using y
   refine h.sp.less (by omega) (by omega) (by omega) (by omega) (λ w4 Q=> ?_);refine bn (λ x=> ?_) (λ x=>J N g5 (λ _=>⟨R (by omega),by simpa using x⟩) (h.mw Q));unfold Hw;rw[bk (by omega) (by omega)];exact⟨⟨rfl,rfl,rfl,rfl,rfl,by omega,h.down u (by simpa using x) Q⟩,by omega⟩
 refine acU (λ I H G E q r w'=>p=I/\n=H/\c=G/\a=E/\j=r/\i<=q/\gp p n c l0 w0 f P a b q r g w') (λ _ _ _ _ q r _=>(r+2-q).toNat) ?_ ?_
 ·exact⟨rfl,rfl,rfl,rfl,rfl,by omega,h⟩
 ·rintro _ _ _ _ q _ Z ⟨rfl,rfl,rfl,rfl,rfl,N,h⟩;have U:=h.bi;have W:=h.bj;unfold Hz;refine bn (λ y=> ?_) (λ y=>K N (λ e=>by simp at y;omega) (h.mw h.sp.d));have u:q<=j:=by simpa using y
  refine h.sp.less (by omega) (by omega) (by omega) (by omega) (λ w4 Q=> ?_);refine bn (λ x=> ?_) (λ x=>K N (λ _=>h.gt u (by simpa using x)) (h.mw Q));unfold Hv;rw[bk (by omega) (by omega)];exact⟨⟨rfl,rfl,rfl,rfl,rfl,by omega,h.up u (by simpa using x) Q⟩,by omega⟩
theorem ah9(h:SP p n c l0 w0 f w)(hd:mv n f){pv:Int}(ha:0<=a)(hb:b<=n)(hn:n<=1000)(hpa:a<=pv)(hpb:pv<b):au ag 284 #[aa p n c,ah af a,ah af b,ah af pv] w (PQ p n c l0 w0 f (f pv) a b):=by
 apply acY;unfold QR;refine h.swap (by omega) (by omega) (by omega) (by omega) (λ w1 h1=> ?_);rw[bk (by omega) (by omega),bk (by omega) (by omega)];have I:dD a b f (sw f pv a):=dD.swap (by omega) (by omega) (by omega) (by omega);have ea:sw f pv a a=f pv:=by unfold sw;split<;>simp_all
 have hd:=hd.perm I ha hb;generalize sw f pv a=g at*;generalize f pv=P at*;have E:∀{w:ak} {q u:Int},(q<=u->g a<g q/\g u<g a)->gp p n c l0 w0 f P a b q u g w->ye (PQ p n c l0 w0 f P a b) p n c a q u w:=by
  intro w q u J h;have X:=h.bi;have Z:=h.bj;have h6:=h.ij;unfold ye;refine bn (λ y=> ?_) (λ y=> ?_)
  ·exact h.sp.swap (by omega) (by omega) (by omega) (by omega) (λ W Q=>h.fin (by simpa using y) _ Q)
  ·have r:q<=u:=by simpa using y
   refine h.sp.swap (by omega) (by omega) (by omega) (by omega) (λ W Q=> ?_);rw[bk (by omega) (by omega),bk (by omega) (by omega)];exact ah8 (h.step r (J r).2 (J r).1 Q)
 have G:∀{w:ak} {q:Int},(q<=b-1->g a<g q)->gp p n c l0 w0 f P a b q (b-1) g w->yf (PQ p n c l0 w0 f P a b) p n c a q (b-1) w:=by
  intro w q J h;unfold yf;refine acW (λ U R N K i2 u w'=>p=U/\n=R/\c=N/\a=K/\q=i2/\gp p n c l0 w0 f P a b q u g w') (λ _ _ _ _ _ u _=>(u+2).toNat) ?_ ?_
  ·exact⟨rfl,rfl,rfl,rfl,rfl,h⟩
  ·rintro _ _ _ _ _ u W ⟨rfl,rfl,rfl,rfl,rfl,h⟩;have X:=h.bi;have Z:=h.bj;unfold HC;refine bn (λ y=> ?_) (λ y=>E (λ e=>by simp at y;omega) (h.mw h.sp.d));have r:q<=u:=by simpa using y
   refine h.sp.less (by omega) (by omega) (by omega) (by omega) (λ w4 H=> ?_);refine bn (λ x=> ?_) (λ x=>E (λ _=>⟨J (by omega),by simpa using x⟩) (h.mw H));unfold Hu;rw[bk (by omega) (by omega)];exact⟨⟨rfl,rfl,rfl,rfl,rfl,h.down r (by simpa using x) H⟩,by omega⟩
 refine acX (λ U R N K q u w'=>p=U/\n=R/\c=N/\a=K/\b-1=u/\gp p n c l0 w0 f P a b q u g w') (λ _ _ _ _ q u _=>(u+2-q).toNat) ?_ ?_
 ·exact⟨rfl,rfl,rfl,rfl,rfl,⟨by omega,hd,I,ea,λ k _ _=>by omega,λ k _ _=>by omega,by omega,by omega,h1⟩⟩
 ·rintro _ _ _ _ q _ W ⟨rfl,rfl,rfl,rfl,rfl,h⟩;have X:=h.bi;have Z:=h.bj;unfold HD;refine bn (λ y=> ?_) (λ y=>G (λ e=>by simp at y;omega) (h.mw h.sp.d));have r:q<=b-1:=by simpa using y
  refine h.sp.less (by omega) (by omega) (by omega) (by omega) (λ w4 H=> ?_);refine bn (λ x=> ?_) (λ x=>G (λ _=>h.gt r (by simpa using x)) (h.mw H));unfold Ht;rw[bk (by omega) (by omega)];exact⟨⟨rfl,rfl,rfl,rfl,rfl,h.up r (by simpa using x) H⟩,by omega⟩
def SW(p:OA)(n c:Nat)(l0:List Nat)(w0:ak)(f:Int->Nat)(g:Nat)(k:Int)(w:ak):Prop:=SP p n c l0 w0 f w/\Ob w ⟨g,0,none⟩ [ah af k]/\w0.heap.size<=g/\aN (aa p n c)≠some g
theorem JH{g:Nat}{k:Int}(h:SW p n c l0 w0 f g k w)(J:mv n f)(R:0<=a)(G:a<n)(U:0<=b)(H:b<n)(I:a≠b)(X:0<=k/\k<=100):
  au ag 293 #[aa p n c,ah af a,ah af b,an (some ⟨g,0,none⟩)] w λ r w'=>∃x y N,r=aZ #[ah af x,ah af y]/\f x<f y/\(x=a/\y=b\/x=b/\y=a)/\0<=N/\N<=k+1/\SW p n c l0 w0 f g N w':=by
 obtain⟨h,Z,K,E⟩:=h;apply ac1;unfold QU;refine h.get U H ?_;refine h.get R G ?_;refine aF (Uj _ _) ?_;rintro _ _ ⟨rfl,rfl⟩;have Q:=h.d;have u:=Z.aH (cu w);have hd:=J a b R G U H I;refine⟨_,rfl,bn (λ q=> ?_) (λ q=> ?_)⟩
 ·rw[decide_eq_true_iff] at q;refine⟨_,by simpa using u.at 0 rfl,⟨trivial,by simpa using u.can 0 (by simp)⟩,b,a,k+1,rfl,q, .inr ⟨rfl,rfl⟩,by omega,by omega, ?_⟩;rw[bk (by omega) (by omega)];exact⟨Q.new (Fr.set w.drew ⟨g,0,none⟩ _) (λ b o W=>by rw[W.1];exact⟨K,E⟩),by simpa using u.set 0 (by simp) (ah af (k+1)),K,E⟩
 ·rw[decide_eq_false_iff_not] at q;exact⟨a,b,k,rfl,by omega, .inl ⟨rfl,rfl⟩,X.1,by omega,Q,u,K,E⟩
theorem ah_{g:Nat}(h:SW p n c l0 w0 f g 0 w)(u:mv n f){d:Int}(ha:0<=a)(Ul:a<b)(je:b<d)(I:d<n):
  au ag 290 #[aa p n c,ah af a,ah af b,ah af d,an (some ⟨g,0,none⟩)] w λ r w'=>∃x m y k,r=ah af m/\f x<f m/\f m<f y/\(a<=x/\x<=d)/\(a<=m/\m<=d)/\(a<=y/\y<=d)/\k<=3/\SW p n c l0 w0 f g k w':=by
 apply acZ;unfold QS;refine aF (JH h u ha (by omega) (by omega) (by omega) (by omega) (by omega)) ?_;rintro _ w1 ⟨x,y,k1,rfl,J,hor,kV,N,h1⟩;refine⟨_,_,rfl,_,rfl,_,rfl, ?_⟩;refine aF (JH h1 u (a:=y) (b:=d) (by omega) (by omega) (by omega) I (by omega) (by omega)) ?_;rintro _ w2 ⟨x2,y2,k2,rfl,G,U,rR,Q,h2⟩;refine⟨_,_,rfl,_,rfl,_,rfl, ?_⟩;refine aF (JH h2 u (a:=x) (b:=x2) (by omega) (by omega) (by omega) (by omega) (by omega) (by omega)) ?_;rintro _ w3 ⟨X,Z,W,rfl,q,E,ja,R,K⟩;refine⟨_,_,rfl,_,rfl,_,rfl, ?_⟩;rcases E with⟨e1,H⟩|⟨e1,H⟩
 ·exact⟨X,Z,y2,W,rfl,q,by rw[H];exact G,by omega,by omega,by omega,by omega,K⟩
 ·exact⟨X,Z,y,W,rfl,q,by rw[H];exact J,by omega,by omega,by omega,by omega,K⟩
theorem ah'(h:SP p n c l0 w0 f w)(E:mv n f)(ha:0<=a)(hb:b<=n)(hn:n<50)(X:a+8<=b):au ag 279 #[aa p n c,ah af a,ah af b] w λ r w'=>(∃x m y k,r=aZ #[ah af m,ah af k]/\f x<f m/\f m<f y/\(a<=x/\x<b)/\(a<=m/\m<b)/\(a<=y/\y<b)/\k≠2)/\SP p n c l0 w0 f w':=by
 apply acO;unfold QB;have H:=Ob.new w [ah af 0] 3;have hk:=bA w (.cells ⟨[ah af 0]⟩ 3);dsimp only[a_];have J:w0.heap.size<=w.heap.size:=by
  obtain⟨_,_,_,_,_,Z⟩:=h;exact Z.size
 have G:aN (aa p n c)≠some w.heap.size:=by
  intro e;obtain⟨_,_,_,_,H,_⟩:=h;have:=H.lt e;omega
 have K:SW p n c l0 w0 f w.heap.size 0 (w.alloc (.cells ⟨[ah af 0]⟩ 3)):=⟨h.aH hk,H,J,G⟩;change aB _ _ _;generalize (w.alloc (.cells ⟨[ah af 0]⟩ 3))=w1 at K;rw[bk (x:=b-a) (by omega) (by omega),Int.tdiv_eq_ediv_of_nonneg (by omega),bk (x:=(b-a)/4) (by omega) (by omega),bk (x:=(b-a)/4*1) (by omega) (by omega),bk (x:=(b-a)/4*2) (by omega) (by omega),bk (x:=(b-a)/4*3) (by omega) (by omega),bk (x:=a+(b-a)/4*1) (by omega) (by omega),bk (x:=a+(b-a)/4*2) (by omega) (by omega),bk (x:=a+(b-a)/4*3) (by omega) (by omega)];refine cJ (by rw[decide_eq_true_iff];omega) (aT (by rw[decide_eq_false_iff_not];omega) ?_);unfold Cf;refine aF (ah_ K E (by omega) (by omega) (by omega) (by omega)) ?_;rintro _ w2 ⟨x,m,y,k,rfl,R,U,g3,g4,g5,g6,W,I,_⟩;refine⟨_,rfl, ?_⟩;unfold Ce;refine⟨_,by simpa using I.at 0 rfl, ?_⟩;have N:∀q:Int,q≠2->(∃x u y Q,aZ #[ah af m,ah af q]=aZ #[ah af u,ah af Q]/\f x<f u/\f u<f y/\(a<=x/\x<b)/\(a<=u/\u<b)/\(a<=y/\y<b)/\Q≠2)/\SP p n c l0 w0 f w2:=λ q hq=>⟨⟨x,m,y,q,rfl,R,U,by omega,by omega,by omega,hq⟩,W⟩
 exact bn (λ _=>N _ (by omega)) (λ _=>aT (by
  have:¬k=12:=by omega
  simpa using this) (N _ (by omega)))
theorem aia{L:Nat}(u:8<=L)(x:L<50):au ag 255 #[ah af (L:Int)] w λ r w'=>(∃M:Nat,r=ah aj (M:Int)/\16<=M/\M<=2*L)/\w'=w:=by
 apply acH;unfold Qq;rw[dV (by omega) (by omega)];refine(bitsLen (L:Int) w (by omega) (by omega)).mono ?_;rintro e w' ⟨rfl,rfl⟩;have q:((L:Int)).toNat=L:=fH L;rw[q];rcases ah7 L u x with⟨e,h⟩|⟨e,h⟩|⟨e,h⟩
 ·rw[e];exact⟨_,rfl,by decide,⟨16,by rw[show bu aj 1 ((4:Nat):Int)=((16:Nat):Int) by decide],by omega,h⟩,rfl⟩
 ·rw[e];exact⟨_,rfl,by decide,⟨32,by rw[show bu aj 1 ((5:Nat):Int)=((32:Nat):Int) by decide],by omega,h⟩,rfl⟩
 ·rw[e];exact⟨_,rfl,by decide,⟨64,by rw[show bu aj 1 ((6:Nat):Int)=((64:Nat):Int) by decide],by omega,h⟩,rfl⟩
theorem aib{g:Nat}{x:Int}(ho:Ob w ⟨g,0,none⟩ [ah aj x]):au ag 256 #[an (some ⟨g,0,none⟩)] w λ r w'=>(∃y,r=ah aj y)/\(∃y,Ob w' ⟨g,0,none⟩ [ah aj y])/\Fr (λ b _=>b=g) w w':=by
 apply acI;unfold Qr;have st:∀{w:ak} {x y:Int},Ob w ⟨g,0,none⟩ [ah aj x]->Ob (w.setCell ⟨g,0,none⟩ (ah aj y)) ⟨g,0,none⟩ [ah aj y]:=λ h=>by simpa using h.set 0 (by simp) _
 have sf:∀{w:ak} {y:Int},Fr (λ b _=>b=g) w (w.setCell ⟨g,0,none⟩ (ah aj y)):=λ{w y}=>(Fr.set w ⟨g,0,none⟩ (ah aj y)).mono (λ b o _ Z=>Z.1)
 have u:∀{w:ak} {x:Int},Ob w ⟨g,0,none⟩ [ah aj x]->at_ w ⟨g,0,none⟩ (ah aj x):=λ h=>by simpa using h.at 0 rfl
 have Q:∀{w:ak} {x:Int},Ob w ⟨g,0,none⟩ [ah aj x]->V.can w ⟨g,0,none⟩:=λ h=>by simpa using h.can 0 (by simp)
 have J:=ho.aH (cu w);have W:Fr (λ b _=>b=g) w w.drew:=Fr.mono (cu w) (λ _ _ _ x=>x.elim);refine⟨_,u J,_,u J,⟨trivial,Q J⟩, ?_⟩;have E:=st (y:=gC aj x (bu aj x 13)) J;have H:=W.step (sf (w:=w.drew) (y:=gC aj x (bu aj x 13))) (λ _ _ x _=>x);generalize (w.drew.setCell ⟨g,0,none⟩ (ah aj (gC aj x (bu aj x 13))))=K at E H;have E:=E.aH (cu K);have H:=H.aH (cu K);refine⟨_,u E,_,u E,⟨trivial,Q E⟩, ?_⟩;generalize gC aj x (bu aj x 13)=q at*;have G:=st (y:=gC aj q (cZ aj q 7)) E;have I:=H.step (sf (w:=K.drew) (y:=gC aj q (cZ aj q 7))) (λ _ _ x _=>x);generalize (K.drew.setCell ⟨g,0,none⟩ (ah aj (gC aj q (cZ aj q 7))))=R at G I;have G:=G.aH (cu R);have I:=I.aH (cu R);refine⟨_,u G,_,u G,⟨trivial,Q G⟩, ?_⟩;generalize gC aj q (cZ aj q 7)=N at*;have U:=st (y:=gC aj N (bu aj N 17)) G;have X:=I.step (sf (w:=R.drew) (y:=gC aj N (bu aj N 17))) (λ _ _ x _=>x);exact⟨_,u U,⟨_,rfl⟩,⟨_,U⟩,X⟩
theorem aic(h:SP p n c l0 w0 f w)(ha:0<=a)(hb:b<=n)(hn:n<50)(vh:a<=b):au ag 278 #[aa p n c,ah af a,ah af b] w λ _ w'=>∃g,dD a b f g/\SP p n c l0 w0 g w':=by
 apply acN;unfold QA;rw[bk (x:=b-a) (by omega) (by omega)];refine bn (λ U=> ?_) (λ _=>⟨f,dD.refl,h⟩);have h8:8<=b-a:=by simpa using U
 have W:w0.heap.size<=w.heap.size:=by
  obtain⟨_,_,_,_,_,hf⟩:=h;exact hf.size
 have I:aN (aa p n c)≠some w.heap.size:=by
  intro e;obtain⟨_,_,_,_,ho,_⟩:=h;have:=ho.lt e;omega
 refine lW trivial (λ w1 o1 k1 Ue=> ?_);generalize w.heap.size=g at*;have h1:=h.aH k1;have hL:b-a=(((b-a).toNat:Nat):Int):=by omega
 generalize hLL:(b-a).toNat=L at hL;rw[hL];refine aF (aia (L:=L) (by omega) (by omega)) ?_;rintro _ w1 ⟨⟨M,rfl,Dt,hM2⟩,rfl⟩;refine⟨_,rfl, ?_⟩;rw[Int.tdiv_eq_ediv_of_nonneg (by omega),bk (x:=(L:Int)/4) (by omega) (by omega),bk (x:=(L:Int)/4*2) (by omega) (by omega),bk (x:=a+(L:Int)/4*2) (by omega) (by omega),bk (x:=a+(L:Int)/4*2-1) (by omega) (by omega)];refine acM (λ p' Z N K len H X idx w'=>p=p'/\n=Z/\c=N/\a=K/\len=(L:Int)/\H=⟨g,0,none⟩/\X=(M:Int)/\a+(L:Int)/4*2-1<=idx/\idx<=a+(L:Int)/4*2+2/\(∃h,dD a b f h/\SP p n c l0 w0 h w')/\∃x,Ob w' ⟨g,0,none⟩ [ah aj x]) (λ _ _ _ _ _ _ _ idx _=>(a+(L:Int)/4*2+2-idx).toNat) ?_ ?_
 ·exact⟨rfl,rfl,rfl,rfl,rfl,rfl,rfl,by omega,by omega,⟨f,dD.refl,h1⟩,_,o1⟩
 ·rintro _ _ _ _ _ _ _ idx w2 ⟨rfl,rfl,rfl,rfl,rfl,rfl,rfl,g1,g2,⟨q,J,h2⟩,x,o2⟩;unfold Hp;rw[Int.tdiv_eq_ediv_of_nonneg (by omega),bk (x:=(L:Int)/4) (by omega) (by omega),bk (x:=(L:Int)/4*2) (by omega) (by omega),bk (x:=a+(L:Int)/4*2) (by omega) (by omega),bk (x:=a+(L:Int)/4*2+1) (by omega) (by omega)];refine bn (λ U=> ?_) (λ _=>⟨q,J,h2⟩);have apB:idx<=a+(L:Int)/4*2+1:=by simpa using U
  refine aF (aib o2) ?_;rintro _ w3 ⟨⟨y,rfl⟩,⟨x3,o3⟩,f3⟩;have h3:SP p n c l0 w0 q w3:=h2.new f3 (λ b o R=>by rw[R];exact⟨W,I⟩);refine⟨_,rfl, ?_⟩;dsimp only;have Q:aq aj ((M:Int)-1)=((M-1:Nat):Int):=by rw[dV (by omega) (by omega)];omega
  rw[Q];have hA:=ah6 y (M-1) (by omega);rw[bk (x:=bR aj y ((M-1:Nat):Int)) (by omega) (by omega)];generalize bR aj y ((M-1:Nat):Int)=u at hA;have E:∀{u:Int},0<=u->u<L->xY (λ _ w'=>∃g,dD a b f g/\SP p n c l0 w0 g w') (λ p' Z N K len H X r w'=>(p=p'/\n=Z/\c=N/\a=K/\len=(L:Int)/\H=⟨g,0,none⟩/\X=(M:Int)/\a+(L:Int)/4*2-1<=r/\r<=a+(L:Int)/4*2+2/\(∃h,dD a b f h/\SP p n c l0 w0 h w')/\∃x,Ob w' ⟨g,0,none⟩ [ah aj x])/\(a+(L:Int)/4*2+2-r).toNat<(a+(L:Int)/4*2+2-idx).toNat) p n c a (L:Int) ⟨g,0,none⟩ (M:Int) idx u w3:=by
   intro u e1 e2;unfold xY;rw[bk (x:=a+u) (by omega) (by omega)];refine h3.Ui (by omega) (by omega) (by omega) (by omega) (λ w4 h4 f4=> ?_);rw[bk (x:=idx+1) (by omega) (by omega)];exact⟨⟨rfl,rfl,rfl,rfl,rfl,rfl,rfl,by omega,by omega,⟨_,J.trans (dD.swap (by omega) (by omega) (by omega) (by omega)),h4⟩,_,o3.fr f4 (λ o _ _ R=>I R)⟩,by omega⟩
  refine bn (λ G=> ?_) (λ G=> ?_)
  ·have:(L:Int)<=u:=by simpa using G
   rw[bk (x:=u-(L:Int)) (by omega) (by omega)];exact E (by omega) (by omega)
  ·have:u<(L:Int):=by simpa using G
   exact E (by omega) this
theorem aie(hn:n<=20):∀(k:Nat) {w:ak} {f:Int->Nat} {a b:Int} {Q:Int},SP p n c l0 w0 f w->mv n f->(a=0\/∀k,a<=k->k<b->f (a-1)<f k)->0<=a->a<=b->b<=n->(b-a).toNat<=k->b-a<=2*Q+12->0<=Q->Q<=1000->
  au ag 262 #[aa p n c,ah af a,ah af b,ah af Q] w λ _ w'=>∃g,dD a b f g/\mu a b g/\SP p n c l0 w0 g w':=by
 intro k;induction k with
 |zero=>
  intro w f a b Q h hd K h0 vh hb hk hl uG gL;apply Qv;unfold Hk;refine Qu (λ p' n' Z r G l' x y w'=>p=p'/\n=n'/\c=Z/\a=r/\b=G/\SP p n c l0 w0 f w') (λ _ _ _ _ _ _ _ _ _=>0) ⟨rfl,rfl,rfl,rfl,rfl,h⟩ ?_;rintro _ _ _ _ _ l' x y w1 ⟨rfl,rfl,rfl,rfl,rfl,h1⟩;unfold Cd;rw[bk (x:=b-a) (by omega) (by omega)];refine cJ (by rw[decide_eq_true_iff];omega) ?_;exact aF (Uk h1 hd h0 hb (by omega) vh) (λ _ _ h=>h)
 |succ k ih=>
  intro w f a b Q h hd K h0 vh hb hk hl uG gL;apply Qv;unfold Hk;refine Qu (λ p' n' Z r G l' x y w'=>p=p'/\n=n'/\c=Z/\a<=r/\r<=G/\G<=b/\0<=l'/\l'<=1000/\G-r+(if x then 0 else 2)<=2*l'+12/\∃g,dD a b f g/\Rs a b r G g/\(r=0\/∀k,r<=k->k<G->g (r-1)<g k)/\SP p n c l0 w0 g w') (λ _ _ _ r G _ _ _ _=>(G-r).toNat) ⟨rfl,rfl,rfl,by omega,vh,by omega,uG,gL,by simpa using hl,f,dD.refl,Rs.start,K,h⟩ ?_;rintro _ _ _ E b1 l1 x y w1 ⟨rfl,rfl,rfl,g1,g2,g3,g4,g5,g6,g,hp,hR,H,h1⟩;have R:=hd.perm hp h0 hb;unfold Cd;rw[bk (x:=b1-E) (by omega) (by omega)];refine bn (λ hc=>aF (Uk h1 R (by omega) (by omega) (by omega) g2) ?_) (λ hc=> ?_)
  ·rintro _ w2 ⟨g',N,hi',h'⟩;exact⟨g',hp.trans (N.mono g1 g3),(hR.perm N g1 g3).done hi',h'⟩
  have qS:12<b1-E:=by simpa using hc
  have gL:l1≠0:=by
   rintro rfl;split at g6<;>omega
  refine aT (by simpa using gL) ?_;have W:∀{w:ak} {l2:Int} {g:Int->Nat},0<=l2->l2<=1000->b1-E<=2*l2+12->dD a b f g->Rs a b E b1 g->(E=0\/∀k,E<=k->k<b1->g (E-1)<g k)->SP p n c l0 w0 g w->xU (λ _ w'=>∃g,dD a b f g/\mu a b g/\SP p n c l0 w0 g w') (λ p' n' Z r G l' x y w'=>(p=p'/\n=n'/\c=Z/\a<=r/\r<=G/\G<=b/\0<=l'/\l'<=1000/\G-r+(if x then 0 else 2)<=2*l'+12/\∃g,dD a b f g/\Rs a b r G g/\(r=0\/∀k,r<=k->k<G->g (r-1)<g k)/\SP p n c l0 w0 g w')/\(G-r).toNat<(b1-E).toNat) p n c E b1 l2 x y (b1-E) w:=by
   intro w l2 g e1 e2 e3 hp hR H h;have R:=hd.perm hp h0 hb;unfold xU;refine aF (ah' h R (by omega) (by omega) (by omega) (by omega)) ?_;rintro _ w2 ⟨⟨u,pv,v,q,rfl,hu,hv,uS,Du,pW,hq⟩,h2⟩;refine⟨_,_,rfl,_,rfl,_,rfl,aT (by simpa using hq) ?_⟩;have zh:∀{w:ak},SP p n c l0 w0 g w->xT (λ _ w'=>∃g,dD a b f g/\mu a b g/\SP p n c l0 w0 g w') (λ p' n' Z r G l' x y w'=>(p=p'/\n=n'/\c=Z/\a<=r/\r<=G/\G<=b/\0<=l'/\l'<=1000/\G-r+(if x then 0 else 2)<=2*l'+12/\∃g,dD a b f g/\Rs a b r G g/\(r=0\/∀k,r<=k->k<G->g (r-1)<g k)/\SP p n c l0 w0 g w')/\(G-r).toNat<(b1-E).toNat) p n c E b1 l2 (b1-E) pv w:=by
    intro w h;unfold xT;refine aF (ah9 h R (by omega) (by omega) (by omega) Du.1 Du.2) ?_;rintro _ w3 ⟨m,q,g3,rfl,jY,s_,X,J,Um,h3⟩;refine⟨_,_,rfl,_,rfl,_,rfl, ?_⟩;have JI:=hp.trans (X.mono g1 (by omega));have yr:=hd.perm JI h0 hb;have Un:=hR.perm X g1 (by omega);have Dv:E=0\/∀k,E<=k->k<b1->g3 (E-1)<g3 k:=by
     rcases H with H|H
     ·exact .inl H
     ·right;rw[X.out (k:=E-1) (by omega)];exact X.all (P:=λ x=>g (E-1)<x) H
    have hex:∀z,E<=z->z<b1->∃z',E<=z'/\z'<b1/\g3 z'=g z:=λ z z1 z2=>by
     obtain⟨s,t,a1',a2',a3',a4'⟩:=X.symm;have hz:=dD.jZ a1' a3' ⟨z1,z2⟩;exact⟨s z,hz.1,hz.2,(a4' z).symm⟩
    have yx:E<m:=by
     obtain⟨z,z1,z2,z3⟩:=hex u uS.1 uS.2;by_cases hc:E<m
     ·exact hc
     ·have hm:m=E:=by omega
      rw[<-z3,<-Um] at hu;by_cases hz:z=m
      ·rw[hz] at hu;omega
      ·have:=J.2 z (by omega) z2;omega
    have kn:m+1<b1:=by
     obtain⟨z,z1,z2,z3⟩:=hex v pW.1 pW.2;by_cases hc:m+1<b1
     ·exact hc
     ·have hm:m=b1-1:=by omega
      rw[<-z3,<-Um] at hv;by_cases hz:z=m
      ·rw[hz] at hv;omega
      ·have:=J.1 z z1 (by omega);omega
    rw[bk (x:=m-E) (by omega) (by omega),bk (x:=b1-m) (by omega) (by omega),bk (x:=m+1) (by omega) (by omega),Int.tdiv_eq_ediv_of_nonneg (by omega),bk (x:=(b1-E)/8) (by omega) (by omega)];refine bn (λ U=> ?_) (λ U=> ?_)
    ·have U:m-E<b1-m:=by simpa using U
     refine aF (ih h3 yr (Dv.imp id (λ K k k1 k2=>K k k1 (by omega))) (by omega) jY (by omega) (by omega) (by omega) e1 e2) ?_;rintro _ w4 ⟨g4,I,JJ,h4⟩;have zi:=J.left s_ I;refine⟨⟨rfl,rfl,rfl,by omega,by omega,by omega,e1,e2, ?_,g4,JI.trans (I.mono g1 (by omega)),(Un.perm (I.mono (Int.le_refl _) (by omega)) g1 (by omega)).left zi JJ, .inr (λ k k1 k2=> ?_),h4⟩,by omega⟩
     ·split
      ·omega
      ·rename_i hh;simp at hh;omega
     ·rw[show m+1-1=m by omega];exact zi.2 k (by omega) k2
    ·have U:b1-m<=m-E:=by simpa using U
     refine aF (ih h3 yr (.inr (λ k k1 k2=>by rw[show m+1-1=m by omega];exact J.2 k (by omega) k2)) (by omega) (by omega) (by omega) (by omega) (by omega) e1 e2) ?_;rintro _ w4 ⟨g4,I,JJ,h4⟩;have zi:=J.right jY I;refine⟨⟨rfl,rfl,rfl,by omega,by omega,by omega,e1,e2, ?_,g4,JI.trans (I.mono (by omega) (by omega)),(Un.perm (I.mono (by omega) (Int.le_refl _)) g1 (by omega)).right zi JJ, ?_,h4⟩,by omega⟩
     ·split
      ·omega
      ·rename_i hh;simp at hh;omega
     ·rcases Dv with K|K
      ·exact .inl K
      ·right;intro k k1 k2;rw[I.out (k:=E-1) (by omega),I.out (k:=k) (by omega)];exact K k k1 (by omega)
   have h17:∀{w:ak},SP p n c l0 w0 g w->sm (λ _ w'=>∃g,dD a b f g/\mu a b g/\SP p n c l0 w0 g w') (λ p' n' Z r G l' x y w'=>(p=p'/\n=n'/\c=Z/\a<=r/\r<=G/\G<=b/\0<=l'/\l'<=1000/\G-r+(if x then 0 else 2)<=2*l'+12/\∃g,dD a b f g/\Rs a b r G g/\(r=0\/∀k,r<=k->k<G->g (r-1)<g k)/\SP p n c l0 w0 g w')/\(G-r).toNat<(b1-E).toNat) p n c E b1 l2 x y (b1-E) pv w:=by
    intro w h;unfold sm;refine bn (λ uM=> ?_) (λ _=>zh h.d);have lj:0<E:=by simpa using uM
    rw[bk (x:=E-1) (by omega) (by omega)];refine h.less (by omega) (by omega) (by omega) (by omega) (λ w3 h9=> ?_);refine aT ?_ (zh h9);rcases H with K|K
    ·omega
    ·simpa using K pv Du.1 Du.2
   unfold Cc;refine bn (λ _=>bn (λ _=>bn (λ _=> ?_) (λ _=>h17 h2)) (λ _=>h17 h2)) (λ _=>h17 h2);unfold Hj;refine aF (ah5 h2 R (by omega) (by omega) (by omega) (by omega)) ?_;rintro _ w3 ⟨⟨z,rfl,hz⟩,h3⟩;exact⟨_,rfl,bn (λ e=>⟨g,hp,hR.done (hz e),h3⟩) (λ _=>h17 h3)⟩
  refine bn (λ hx=> ?_) (λ hx=>W g4 g5 (by split at g6<;>omega) hp hR H h1);have hx:x=false:=by simpa using hx
  rw[hx] at g6;refine aF (aic h1 (by omega) (by omega) (by omega) g2) ?_;rintro _ w2 ⟨g',N,h2⟩;rw[bk (x:=l1-1) (by omega) (by omega)];refine W (by omega) (by omega) (by simp at g6;omega) (hp.trans (N.mono g1 g3)) (hR.perm N g1 g3) ?_ h2;rcases H with K|K
  ·exact .inl K
  ·right;rw[N.out (k:=E-1) (by omega)];exact N.all (P:=λ x=>g (E-1)<x) K
theorem aik{l:List Nat}(h:cP eU 1 w (aa p l.length c) l)(W:l.length<=20)(E:l.Nodup):au ag 237 #[aa p l.length c] w λ _ w'=>
  ∃l',l'.Perm l/\l'.Pairwise (·<·)/\cP eU 1 w' (aa p l.length c) l'/\Fr (λ b _=>aN (aa p l.length c)=some b) w w':=by
 apply acG;unfold Qp;rw[dV (by omega) (by omega)];refine(bitsLen (l.length:Int) w (by omega) (by omega)).mono ?_;rintro e w ⟨rfl,rfl⟩;refine⟨_,rfl, ?_⟩;have K:(l.length:Int)<=2*(Lib.bitLen ((l.length:Int)).toNat:Int)+12/\Lib.bitLen ((l.length:Int)).toNat<=1000:=by
  have:∀L:Fin 21,(L.val:Int)<=2*(Lib.bitLen L.val:Int)+12/\Lib.bitLen L.val<=1000:=by decide
  rw[fH];exact this ⟨l.length,by omega⟩
 have N:∀(i:Nat) (hi:i<l.length),l[i]=(λ k:Int=>l.getD k.toNat 0) (i:Int):=λ i hi=>by simp[hi]
 have r:mv (l.length:Nat) (λ k:Int=>l.getD k.toNat 0):=by
  intro i j G I x H X;have hi:i.toNat<l.length:=by omega
  have y:j.toNat<l.length:=by omega
  show l.getD i.toNat 0≠l.getD j.toNat 0;rw[l8,l8,gH hi,gH y];simp only[Option.getD_some];intro e;have u:=qt.1 E;rcases Nat.lt_or_gt_of_ne (show i.toNat≠j.toNat by omega) with q|q
  ·exact u _ _ hi y q e
  ·exact u _ _ y hi q e.symm
 refine aF (aie W l.length (l0:=l) (w0:=w) ⟨l,List.Perm.refl _,rfl,N,h,Fr.refl _ _⟩ r (.inl rfl) (by omega) (by omega) (by omega) (by omega) (by omega) (by omega) (by omega)) ?_;rintro _ w2 ⟨g,Z,hi,l',G,I,x,H,J⟩;refine⟨l',G, ?_,H,J⟩;rw[qt];intro i j Q U R;rw[x,x];exact hi i j (by omega) (by omega) (by omega)
end
theorem JK(l:List Wd):l.flatMap bx=l.map encStr:=by
 induction l with
 |nil=>rfl
 |cons a l c=>rw[fG,hW,c];rfl
def iu(l:List Wd):List Wd:=l.mergeSort λ x y=>decide (x<=y)
theorem rh(l:List Wd):(iu l).Perm l:=List.mergeSort_perm l _
theorem Uo{l:List Wd}(h:l.Nodup):WS (iu l):=by
 have q:(iu l).Pairwise λ x y=>decide (x<=y)=true:=List.pairwise_mergeSort (λ a b c q r=>by simp at*;exact List.le_trans q r) (λ a b=>by simp;exact List.le_total a b) l
 have r:(iu l).Nodup:=(rh l).nodup_iff.2 h;refine(q.and r).imp (λ h=> ?_);obtain⟨q,r⟩:=h;rw[bytesLess_eq];simp at q⊢;refine qq (λ u=>r ?_);exact List.le_antisymm q (List.not_lt.1 u)
theorem JL{w:ak}{p:OA}{c:Nat}{l:List Wd}(h:cP bx 1 w (aa p l.length c) l)(U:l.length<=1000000):
  au ag 121 #[aa p l.length c] w λ _ w'=>cP bx 1 w' (aa p l.length c) (iu l)/\Fr (λ b _=>aN (aa p l.length c)=some b) w w':=by
 rcases h.2 with⟨I,K⟩|⟨g,cap,cur,e,I,x,Q,r,H,J⟩
 ·have E:l=[]:=List.eq_nil_of_length_eq_zero K;subst E;refine(Any.slices_Sort_string_none Tryz.Ug p c w).mono ?_;rintro e w' ⟨rfl,rfl⟩;exact⟨by simpa[iu] using h,Fr.refl _ _⟩
 ·cases I;have G:g<w.heap.size:=(rD.1 x).1;rw[JK,mH] at J;refine(sortStr g 0 c l w (holds_of_block x J) G (by omega)).mono ?_;rintro e w' ⟨rfl,n,os,rfl⟩;have R:=heap_sorted (n:=n) (os:=os) (iu l).toArray x;have y:=grownBy_sorted (w:=w) (g:=g) (n:=n) (os:=os) (iu l).toArray;have q:(iu l).length=l.length:=(rh l).length_eq;refine⟨?_,(wg y).mono (λ b o _ N=>by cases N;rfl)⟩;show Own _ 1 _ (iu l).length _;rw[q];have u:(Go.Sort.putCells encStr 0 (iu l).toArray cur).size=cur.size:=by simp[Go.Sort.putCells]
  refine⟨by rw[JK];simp[q], .inr ⟨g,c,_,e,rfl,R,Q,r,by rw[u];exact H, ?_⟩⟩;rw[JK,mH,<-q];exact take_putCells cur (iu l) (by rw[q];omega)
end Go.Proofs
