/- The law FnIndexTable answers true for every input, and what came in reads behind the call as it read before (Rows.FnIndexTableCardSaid). Conditions: those of the given card alone, which ties the listed package variables to the program. Packed by a program of ours: short names, no remarks. -/
import Derived.Test.YtlhckhmoneeilaaGreatDoorTC
set_option linter.all false
set_option maxHeartbeats 4000000
set_option maxRecDepth 100000
set_option autoImplicit true
open Array renaming ext'→nG,getElem?_eq_some_iff→rD
open BitVec renaming ofNat→lY,toNat_ofNat→mI
open ByteArray renaming empty→dk
open Go renaming Addr→kd,Program→bU,TypeId→cK,Value→ay,World→ak,bytes→fA,convert→dq,run_underlying→iN,undef→dU
open Go.Addr renaming add→aw
open Go.Builtin renaming append_→cM,copy_→mF
open Go.Instr renaming buildSlice→bw,lookup→dJ,makeMap→iM,makeSlice→kS,mapUpdate→fF,sliceAt→dw
open Go.IntKind renaming i64→af,max→aq8,u32→aL,u64→aj,u8→aG,wrap→aq
open Go.Lib renaming compareBytes→jy
open Go.Op renaming bytesLess→ds
open Go.Operand renaming const→bt,tmp→br
open Go.Proofs.Tryz renaming prog→ag
open Go.Result renaming andThen→iV
open Go.Sem renaming run_bind→nH
open Go.Value renaming agg→aV,bool→aQ,iface→cG,int→ah,nilIface→aA,pointer→an,slice→aa,string→aC,tuple→aZ
open Int renaming tdiv→gi,toNat_natCast→fH
open List renaming append_assoc→dx,append_nil→iA,drop_eq_getElem_cons→gS,drop_left'→qn,drop_left→iz,drop_zero→T2,flatMap_append→jK,flatMap_cons→fG,foldl_cons→qo,getElem?_append_left→oT,getElem?_append_right→rE,getElem?_eq_getElem→gH,getElem?_eq_some_iff→oQ,getElem_map→mJ,getElem_mem→iy,getElem_of_mem→rF,length_append→aY,length_cons→dH,length_drop→hY,length_map→fu,length_take→fS,length→fZ,map_append→iE,map_cons→hW,mem_append→mG,mem_cons_of_mem→jI,mem_cons→dX,mem_filter→oN,mem_flatMap→jJ,mem_map→dt,mem_singleton→oO,nil_append→oS,nodup_cons→aq9,pairwise_cons→iF,range→lZ,replicate→jx,set_cons_zero→oU,take_append_drop→kC,take_append_getElem→l7,take_left→E2,take_length→fY,take_of_length_le→lD,take_succ_eq_append_getElem→jm
open Nat renaming add_sub_cancel_left→tz,le_refl→bB,le_trans→eX,lt_of_lt_of_le→dR,mod_eq_of_lt→lC,mul_one→mH,not_lt_zero→oR,sub_zero→nJ,zero_le→dO
open Option.some renaming inj→iW
open UInt8 renaming ofNat→gw
namespace Go.Proofs
open Go Go.V
abbrev xM:bG:=[(3, .k .a),(9, .k .p),(170, .k .a)]
abbrev xN:bG:=[(3, .k .a),(9, .k .p),(201, .k .a)]
def BX(K:VP)(w:ak):Prop:=au ag 103 #[aC (⟨#[117,110,107,110,111,119,110,32,105,110,100,101,120,32,102,105,108,101,32,118,101,114,115,105,111,110]⟩:ByteArray)] w λ a b=>aM (ax a) λ c=>K (aZ #[an none,c]) b
def BY(K:VP)(rZ:T xN)(a:ay)(b:kd)(c:ay)(i:Bool)(h:ak):Prop:=aB i (aP ag (Instr.entry c) h λ j m=>cR j λ k l=>bg (ax k) λ o=>aB (o.toList==(⟨#[]⟩:ByteArray).toList) (rZ a b c m) (bf (at_ m b) λ p=>nn p λ q=>bf (at_ m (aw q 5)) λ r=>nn r λ s=>aM (at_ m (aw s 0)) λ t=>aD af (at_ m (aw s 1)) λ u=>aD af (at_ m (aw s 2)) λ v=>az (at_ m (aw s 3)) λ x y z=>aD af (at_ m (aw s 4)) λ A=>au ag 207 #[aV #[t,ah af u,ah af v,aa x y z,ah af A],aC o] m λ B C=>cR B λ D E=>aD aL (ax D) λ F=>aM (ax E) λ G=>bb ag (C2 .neq 86 (br 218) (bt aA) G aA) λ H=>aW (ax H) λ I=>aB I (K (aZ #[an none,G]) C) (bf (at_ C b) λ L=>nn L λ M=>du (at_ C (aw M 6)) λ O=>aP ag (do fF 195 (.map O) (ah aL F) (aC o);pure dU) C λ _ Q=>rZ a b c Q))) (bf (at_ h b) λ R=>bf (at_ h b) λ U=>fI a (a_ h (.cells #[.func (.func 120) #[an U] #[],a] 276) λ V W=>nn R λ X=>wr W (aw X 8) (an (some ⟨V,0,none⟩)) λ Y=>bf (at_ Y b) λ Z=>K (aZ #[an Z,aA]) Y))
def G8(K:VP)(rZ:T xN)(a:ay)(b:kd)(c:ay)(w:ak):Prop:=aP ag (Instr.next c false 0) w λ d h=>∃e f g,d=nR e f g/\aB e (aW (ax (aQ true)) λ i=>BY K rZ a b c i h) (aW (ax (aQ false)) λ i=>BY K rZ a b c i h)
def P_(K:VP):=lp xN (G8 K)
def aca{K:VP}:=lpx (P_ K) rfl
def ui(K:VP)(a:ay)(b:kd)(w:ak):Prop:=bf (at_ w.drew b) λ c=>bf (at_ w.drew b) λ d=>nn d λ e=>du (at_ w.drew (aw e 3)) λ f=>aP ag (Builtin.len_ #[192] 3 #[.map f]) w.drew λ g h=>aD af (ax g) λ i=>aK h b [an d] 0 (aK h b [an c] 0 (aP ag (iM 195 (some (ah af i))) h λ j k=>du (ax j) λ l=>aK k b [an d] 0 (aK k b [an c] 0 (nn c λ m=>wr k (aw m 6) (.map l) λ o=>bf (at_ o b) λ p=>nn p λ q=>du (at_ o (aw q 3)) λ r=>aP ag (Instr.range 192 (.map r)) o λ s t=>P_ K a b s t))))
def BZ(K:VP)(B0:T xM)(a:ay)(b:kd)(c:ay)(i:Bool)(h:ak):Prop:=aB i (aP ag (Instr.entry c) h λ j m=>cR j λ k l=>bg (ax k) λ o=>az (ax l) λ p q r=>aP ag (kS 268 (ah af (q:Int)) (ah af (q:Int))) m λ s t=>az (ax s) λ u v x=>aP ag (mF #[268,268] 3 #[aa u v x,aa p q r]) t λ y z=>aD af (ax y) λ A=>bf (at_ z b) λ B=>nn B λ C=>du (at_ z (aw C 3)) λ D=>aP ag (do fF 192 (.map D) (aC o) (aa u v x);pure dU) z λ _ E=>B0 a b c E) (ui K a b h)
def G9(K:VP)(B0:T xM)(a:ay)(b:kd)(c:ay)(w:ak):Prop:=aP ag (Instr.next c false 0) w λ d h=>∃e f g,d=nR e f g/\aB e (aW (ax (aQ true)) λ i=>BZ K B0 a b c i h) (aW (ax (aQ false)) λ i=>BZ K B0 a b c i h)
def Qa(K:VP):=lp xM (G9 K)
def acb{K:VP}:=lpx (Qa K) rfl
def uj(K:VP)(a:ay)(b:kd)(w:ak):Prop:=bf (at_ w b) λ c=>nn c λ d=>du (at_ w (aw d 3)) λ e=>aP ag (Instr.range 192 (.map e)) w λ f g=>Qa K a b f g
def uk(K:VP)(a b:ay)(c:kd)(w:ak):Prop:=bf (at_ w.drew c) λ d=>au ag 42 #[a] w.drew λ e f=>cR e λ g h=>aK f c [an d] 0 (bf (ax g) λ i=>aM (ax h) λ j=>nn d λ k=>wr f (aw k 1) (an i) λ l=>bb ag (C2 .neq 86 (br 74) (bt aA) j aA) λ m=>aW (ax m) λ o=>aB o (K (aZ #[an none,j]) l) (bf (at_ l.drew c) λ p=>bf (at_ l.drew c) λ q=>nn q λ r=>aM (at_ l.drew r) λ s=>bf (at_ l.drew c) λ t=>nn t λ u=>aD af (at_ l.drew (aw u 9)) λ v=>bf (at_ l.drew c) λ x=>nn x λ y=>bf (at_ l.drew (aw y 1)) λ z=>nn z λ A=>aD aj (at_ l.drew A) λ B=>au ag 204 #[s,ah af v,ah af (aq af B)] l.drew λ C D=>cR C λ E F=>aK D A [ah aj B] 0 (aK D (aw y 1) [an z] 0 (aK D c [an x] 0 (aK D c [an t] 0 (aK D c [an q] 0 (aK D c [an p] 0 (bf (ax E) λ G=>aM (ax F) λ H=>nn p λ I=>wr D (aw I 5) (an G) λ L=>bb ag (C2 .neq 86 (br 100) (bt aA) H aA) λ M=>aW (ax M) λ O=>aB O (K (aZ #[an none,H]) L) (bf (at_ L c) λ Q=>nn Q λ R=>aD af (at_ L (aw R 9)) λ U=>aB (U==1) (bf (at_ L c) λ V=>aP ag (iM 193 none) L λ W X=>du (ax W) λ Y=>nn V λ Z=>wr X (aw Z 4) (.map Y) λ a0=>bf (at_ a0.drew c) λ b0=>nn b0 λ d0=>aM (at_ a0.drew d0) λ e0=>bf (at_ a0.drew c) λ f0=>nn f0 λ g0=>bf (at_ a0.drew (aw g0 1)) λ h0=>nn h0 λ i0=>aD aj (at_ a0.drew (aw i0 5)) λ j0=>au ag 43 #[e0,ah aj j0, .func (.func 205) #[] #[an (some c)]] a0.drew λ l0 m0=>aM (ax l0) λ o0=>aK m0 (aw g0 1) [an h0] 0 (aK m0 c [an f0] 0 (aK m0 c [an b0] 0 (bb ag (C2 .neq 86 (br 125) (bt aA) o0 aA) λ p0=>aW (ax p0) λ q0=>aB q0 (K (aZ #[an none,o0]) m0) (ui K b c m0))))) (a_ L (.cells #[aa none 0 0] 26) λ r0 t0=>a_ t0 (.cells #[aa none 0 0] 26) λ u0 x0=>a_ x0 (.cells #[ah af 0] 3) λ y0 z0=>wr z0 ⟨y0,0,none⟩ (ah af 0) λ a1=>a_ a1 (.cells #[ah af 0] 3) λ b1 d1=>wr d1 ⟨b1,0,none⟩ (ah af 0) λ e1=>bf (at_ e1.drew c) λ f1=>nn f1 λ g1=>aM (at_ e1.drew g1) λ h1=>bf (at_ e1.drew c) λ i1=>nn i1 λ j1=>bf (at_ e1.drew (aw j1 1)) λ l1=>nn l1 λ m1=>aD aj (at_ e1.drew (aw m1 5)) λ o1=>au ag 43 #[h1,ah aj o1, .func (.func 206) #[] #[an (some c),an (some ⟨r0,0,none⟩),an (some ⟨u0,0,none⟩),an (some ⟨y0,0,none⟩),an (some ⟨b1,0,none⟩)]] e1.drew λ p1 q1=>aM (ax p1) λ r1=>aK q1 (aw j1 1) [an l1] 0 (aK q1 c [an i1] 0 (aK q1 c [an f1] 0 (bb ag (C2 .neq 86 (br 141) (bt aA) r1 aA) λ t1=>aW (ax t1) λ u1=>aB u1 (K (aZ #[an none,r1]) q1) (az (at_ q1 ⟨r0,0,none⟩) λ x1 y1 z1=>bb ag (C2 .neq 26 (br 144) (bt (aa none 0 0)) (aa x1 y1 z1) (aa none 0 0)) λ a2=>aW (ax a2) λ b2=>aB b2 (bf (at_ q1.drew c) λ d2=>nn d2 λ e2=>du (at_ q1.drew (aw e2 3)) λ f2=>az (at_ q1.drew ⟨r0,0,none⟩) λ g2 h2 i2=>gJ ag (dq 26 9 (aa g2 h2 i2)) q1.drew λ j2=>bg (ax j2) λ l2=>bf (at_ q1.drew c) λ m2=>nn m2 λ o2=>du (at_ q1.drew (aw o2 3)) λ p2=>az (at_ q1.drew ⟨r0,0,none⟩) λ q2 r2 t2=>gJ ag (dq 26 9 (aa q2 r2 t2)) q1.drew λ u2=>bg (ax u2) λ x2=>gJ ag (dJ 192 (.map p2) (aC x2) false) q1.drew λ y2=>az (ax y2) λ z2 a3 b3=>az (at_ q1.drew ⟨u0,0,none⟩) λ d3 e3 f3=>gJ ag (dq 26 9 (aa d3 e3 f3)) q1.drew λ g3=>bg (ax g3) λ h3=>aD af (at_ q1.drew ⟨y0,0,none⟩) λ i3=>aP ag (bw 268 1 #[(0,aV #[aC h3,ah af i3])]) q1.drew λ j3 l3=>az (ax j3) λ m3 o3 p3=>aK l3 ⟨y0,0,none⟩ [ah af i3] 0 (runs ag (dq 26 9 (aa d3 e3 f3)) l3 g3/\(aK l3 ⟨u0,0,none⟩ [aa d3 e3 f3] 0 (runs ag (dJ 192 (.map p2) (aC x2) false) l3 y2/\(runs ag (dq 26 9 (aa q2 r2 t2)) l3 u2/\(aK l3 ⟨r0,0,none⟩ [aa q2 r2 t2] 0 (aK l3 (aw o2 3) [.map p2] 0 (aK l3 c [an m2] 0 (runs ag (dq 26 9 (aa g2 h2 i2)) l3 j2/\(aK l3 ⟨r0,0,none⟩ [aa g2 h2 i2] 0 (aK l3 (aw e2 3) [.map f2] 0 (aK l3 c [an d2] 0 (aP ag (cM #[268,268] 268 #[aa z2 a3 b3,aa m3 o3 p3]) l3 λ q3 r3=>az (ax q3) λ t3 u3 x3=>aK r3 ⟨y0,0,none⟩ [ah af i3] 0 (runs ag (dq 26 9 (aa d3 e3 f3)) r3 g3/\(aK r3 ⟨u0,0,none⟩ [aa d3 e3 f3] 0 (runs ag (dq 26 9 (aa q2 r2 t2)) r3 u2/\(aK r3 ⟨r0,0,none⟩ [aa q2 r2 t2] 0 (aK r3 (aw o2 3) [.map p2] 0 (aK r3 c [an m2] 0 (runs ag (dq 26 9 (aa g2 h2 i2)) r3 j2/\(aK r3 ⟨r0,0,none⟩ [aa g2 h2 i2] 0 (aK r3 (aw e2 3) [.map f2] 0 (aK r3 c [an d2] 0 (aP ag (do fF 192 (.map f2) (aC l2) (aa t3 u3 x3);pure dU) r3 λ _ y3=>uj K b c y3)))))))))))))))))))))))) (uj K b c q1)))))))))))))))
def Qb(K:VP)(a b c:ay)(w:ak):Prop:=aP ag (iM 192 none) w λ d e=>du (ax d) λ f=>au ag 203 #[] e λ g h=>bf (ax g) λ i=>fI a (fI b (a_ h (.cells #[a,an none,b, .map f, .map none,an none, .map none,an i,an none,ah af 0] 199) λ j k=>a_ k (.cells #[an none] 84) λ l m=>wr m ⟨l,0,none⟩ (an (some ⟨j,0,none⟩)) λ o=>bf (at_ o ⟨l,0,none⟩) λ p=>nn p λ q=>aM (at_ o q) λ r=>cS ag r "Len" #[] o λ s t=>aD af (ax s) λ u=>aB (decide (u<5)) (au ag 103 #[aC (⟨#[105,110,100,101,120,32,104,101,97,100,101,114,58]⟩:ByteArray)] t λ v x=>aM (ax v) λ y=>K (aZ #[an none,y]) x) (bf (at_ t.drew ⟨l,0,none⟩) λ z=>nn z λ A=>aM (at_ t.drew A) λ B=>cS ag B "Range" #[ah af 0,ah af 4] t.drew λ C D=>az (ax C) λ E F G=>aK D ⟨l,0,none⟩ [an z] 0 (aK D ⟨1,0,none⟩ [] 0 (au ag 100 #[aV #[],aa E F G] D λ H I=>aD aL (ax H) λ L=>aK I ⟨l,0,none⟩ [an z] 0 (aB (L !=3131758336) (au ag 103 #[aC (⟨#[105,110,118,97,108,105,100,32,109,97,103,105,99,32,110,117,109,98,101,114]⟩:ByteArray)] I λ M O=>aM (ax M) λ Q=>K (aZ #[an none,Q]) O) (bf (at_ I.drew ⟨l,0,none⟩) λ R=>bf (at_ I.drew ⟨l,0,none⟩) λ U=>nn U λ V=>aM (at_ I.drew V) λ W=>cS ag W "Range" #[ah af 4,ah af 5] I.drew λ X Y=>az (ax X) λ Z a0 b0=>aK Y ⟨l,0,none⟩ [an U] 0 (aK Y ⟨l,0,none⟩ [an R] 0 (aU Z a0 0 1 λ d0=>aD aG (at_ Y d0) λ e0=>nn R λ f0=>wr Y (aw f0 9) (ah af (aq af e0)) λ g0=>bf (at_ g0 ⟨l,0,none⟩) λ h0=>nn h0 λ i0=>aD af (at_ g0 (aw i0 9)) λ j0=>aB (j0==1) (aB (j0==1) (uk K a c ⟨l,0,none⟩ g0) (BX K g0)) (aB (j0==2) (aB (j0==2) (uk K a c ⟨l,0,none⟩ g0) (BX K g0)) (aB (j0==3) (uk K a c ⟨l,0,none⟩ g0) (BX K g0))))))))))))
theorem acd(n:Qb K a b c w):au ag 158 #[a,b,c] w K:=f0k Tryz.func158 [(9,[]),(1000041,xN),(39,[(3, .k .a),(9, .k .p)]),(1000034,xM),(33,[(3, .k .a),(9, .k .p)]),(13,[(1, .k .a),(3, .k .a),(9, .k .p)])] [⟨0,λ _=>BX K⟩,⟨1,λ n=>G8 K (n 1)⟩,⟨2,λ _=>ui K⟩,⟨3,λ n=>G9 K (n 3)⟩,⟨4,λ _=>uj K⟩,⟨5,λ _=>uk K⟩] n
def v159(K:VP)(a:ay)(w:ak):Prop:=bb ag (Instr.typeAssert a 327 329 true) λ b=>cR b λ c d=>aM (ax c) λ e=>aW (ax d) λ f=>aB f (fI a (K (cG 332 (aV #[a])) w)) (fI a (K (cG 333 (aV #[a])) w))
theorem ace(n:v159 K a w):au ag 159 #[a] w K:=f0k Tryz.func159 [] [] n
abbrev B3:bG:=[(7, .k .p),(8, .k (.i aL))]
def uo(K:VP)(a:kd)(w:ak):Prop:=au ag 216 #[an (some a)] w λ b c=>bg (ax b) λ d=>au ag 105 #[an (some a)] c λ e f=>aM (ax e) λ g=>bb ag (C2 .neq 86 (br 49) (bt aA) g aA) λ h=>aW (ax h) λ i=>aB i (au ag 105 #[an (some a)] f λ j k=>aM (ax j) λ l=>K (aZ #[aC (⟨#[]⟩:ByteArray),l]) k) (K (aZ #[aC d,aA]) f)
def G_(K:VP)(N8:T B3)(a:kd)(b:Int)(w:ak):Prop:=aB (decide (b>0)) (au ag 110 #[an (some a)] w λ c d=>az (ax c) λ e f g=>N8 a (aq aL (b-1)) d) (uo K a w)
def uq(K:VP):=lp B3 (G_ K)
def acf{K:VP}:=lpx (uq K) rfl
def Qc(K:VP)(a:ay)(b c:Int)(d:OA)(e f:Nat)(g h:Int)(w:ak):Prop:=a_ w (.cells #[a,ah af b,ah af c,aa d e f,ah af g] 338) λ i j=>aM (at_ j.drew ⟨i,0,none⟩) λ k=>aM (at_ j.drew ⟨i,0,none⟩) λ l=>gk ag k λ m=>(cS ag l "Len" #[] j.drew λ V W=>aD af (ax V) λ X=>aK W ⟨i,0,none⟩ [k] 0 ((cS ag k "Range" #[ah af 0,ah af X] W λ b1 d1=>az (ax b1) λ e1 f1 g1=>aK d1 ⟨i,0,none⟩ [k] 0 (a_ d1 (.cells #[aa none 0 0,aA] 182) λ h1 i1=>aK i1 ⟨i,0,none⟩ [k] 0 (wr i1 (aw ⟨h1,0,none⟩ 0) (aa e1 f1 g1) λ j1=>wr j1 (aw ⟨h1,0,none⟩ 1) aA λ l1=>aD af (at_ l1 (aw ⟨i,0,none⟩ 1)) λ m1=>aB (m1==1) (au ag 208 #[an (some ⟨h1,0,none⟩),ah af (aq af h)] l1 λ o1 p1=>uo K ⟨h1,0,none⟩ p1) (aD af (at_ l1 (aw ⟨i,0,none⟩ 4)) λ q1=>aB (decide ((aq af h)>=q1)) (au ag 103 #[aC (⟨#[117,110,107,110,111,119,110,32,115,121,109,98,111,108,32,111,102,102,115,101,116]⟩:ByteArray)] l1 λ r1 t1=>aM (ax r1) λ u1=>K (aZ #[aC (⟨#[]⟩:ByteArray),u1]) t1) (az (at_ l1 (aw ⟨i,0,none⟩ 3)) λ x1 y1 z1=>aU x1 y1 (aq af (aq aL (gi h 32))) 1 λ a2=>aD af (at_ l1 a2) λ b2=>au ag 208 #[an (some ⟨h1,0,none⟩),ah af b2] l1 λ d2 e2=>uq K ⟨h1,0,none⟩ (aq aL (h-(aq aL ((aq aL (gi h 32))*32)))) e2)))))/\(a_ W (.cells #[aa none 0 0,aA] 182) λ Y Z=>aK Z ⟨i,0,none⟩ [k] 0 (cS ag k "Range" #[ah af 0,ah af X] Z λ a0 b0=>az (ax a0) λ d0 e0 f0=>aK b0 ⟨i,0,none⟩ [k] 0 (wr b0 (aw ⟨Y,0,none⟩ 0) (aa d0 e0 f0) λ g0=>wr g0 (aw ⟨Y,0,none⟩ 1) aA λ h0=>aD af (at_ h0 (aw ⟨i,0,none⟩ 1)) λ i0=>aB (i0==1) (au ag 208 #[an (some ⟨Y,0,none⟩),ah af (aq af h)] h0 λ j0 l0=>uo K ⟨Y,0,none⟩ l0) (aD af (at_ h0 (aw ⟨i,0,none⟩ 4)) λ m0=>aB (decide ((aq af h)>=m0)) (au ag 103 #[aC (⟨#[117,110,107,110,111,119,110,32,115,121,109,98,111,108,32,111,102,102,115,101,116]⟩:ByteArray)] h0 λ o0 p0=>aM (ax o0) λ q0=>K (aZ #[aC (⟨#[]⟩:ByteArray),q0]) p0) (az (at_ h0 (aw ⟨i,0,none⟩ 3)) λ r0 t0 u0=>aU r0 t0 (aq af (aq aL (gi h 32))) 1 λ x0=>aD af (at_ h0 x0) λ y0=>au ag 208 #[an (some ⟨Y,0,none⟩),ah af y0] h0 λ z0 a1=>uq K ⟨Y,0,none⟩ (aq aL (h-(aq aL ((aq aL (gi h 32))*32)))) a1)))))))/\(a_ j.drew (.cells #[aa none 0 0,aA] 182) λ o p=>aK p ⟨i,0,none⟩ [l] 0 (aK p ⟨i,0,none⟩ [k] 0 (cS ag l "Len" #[] p λ q r=>aD af (ax q) λ s=>aK r ⟨i,0,none⟩ [k] 0 (cS ag k "Range" #[ah af 0,ah af s] r λ t u=>az (ax t) λ v x y=>aK u ⟨i,0,none⟩ [k] 0 (wr u (aw ⟨o,0,none⟩ 0) (aa v x y) λ z=>wr z (aw ⟨o,0,none⟩ 1) aA λ A=>aD af (at_ A (aw ⟨i,0,none⟩ 1)) λ B=>aB (B==1) (au ag 208 #[an (some ⟨o,0,none⟩),ah af (aq af h)] A λ C D=>uo K ⟨o,0,none⟩ D) (aD af (at_ A (aw ⟨i,0,none⟩ 4)) λ E=>aB (decide ((aq af h)>=E)) (au ag 103 #[aC (⟨#[117,110,107,110,111,119,110,32,115,121,109,98,111,108,32,111,102,102,115,101,116]⟩:ByteArray)] A λ F G=>aM (ax F) λ H=>K (aZ #[aC (⟨#[]⟩:ByteArray),H]) G) (az (at_ A (aw ⟨i,0,none⟩ 3)) λ I L M=>aU I L (aq af (aq aL (gi h 32))) 1 λ O=>aD af (at_ A O) λ Q=>au ag 208 #[an (some ⟨o,0,none⟩),ah af Q] A λ R U=>uq K ⟨o,0,none⟩ (aq aL (h-(aq aL ((aq aL (gi h 32))*32)))) U)))))))
theorem acg(n:Qc K a b c d e f g h w):au ag 174 #[aV #[a,ah af b,ah af c,aa d e f,ah af g],ah aL h] w K:=f0k Tryz.func174 [(11,[(7, .k .p)]),(1000008,B3)] [⟨0,λ _=>uo K⟩,⟨1,λ n=>G_ K (n 1)⟩] n
abbrev ur:bG:=[(9, .k .p),(10, .k .p),(11, .k (.i af)),(12, .k (.i af)),(13, .k (.i af))]
def xO(K:VP)(N7:T ur)(a b:kd)(c d e:Int)(w:ak):Prop:=au ag 110 #[an (some b)] w λ f g=>az (ax f) λ h i j=>aD af (at_ g (aw a 4)) λ k=>wr g (aw a 4) (ah af (aq af (k+1))) λ l=>N7 a b c d e l
def G'(K:VP)(N7:T ur)(a b:kd)(c d e:Int)(w:ak):Prop:=aD af (at_ w (aw a 4)) λ f=>aB (((Int.tmod f 32):Int)==0) (az (at_ w.drew (aw a 3)) λ g h i=>au ag 107 #[an (some b)] w.drew λ j k=>aD af (ax j) λ l=>aK k (aw a 3) [aa g h i] 0 (aP ag (bw 336 1 #[(0,ah af (aq af ((aq af (e+c))-l)))]) k λ m o=>az (ax m) λ p q r=>aK o (aw a 3) [aa g h i] 0 (aP ag (cM #[336,336] 336 #[aa g h i,aa p q r]) o λ s t=>az (ax s) λ u v x=>wr t (aw a 3) (aa u v x) λ y=>xO K N7 a b c d e y))) (xO K N7 a b c d e w)
def B4(K:VP)(a b:kd)(w:ak):Prop:=au ag 105 #[an (some b)] w λ c d=>aM (ax c) λ e=>bb ag (C2 .neq 86 (br 71) (bt aA) e aA) λ f=>aW (ax f) λ g=>aB g (au ag 105 #[an (some b)] d λ h i=>aM (ax h) λ j=>K (aZ #[an none,j]) i) (K (aZ #[an (some a),aA]) d)
def Ha(K:VP)(N7:T ur)(a b:kd)(c d e:Int)(w:ak):Prop:=au ag 105 #[an (some b)] w λ f g=>aM (ax f) λ h=>bb ag (C2 .eql 86 (br 33) (bt aA) h aA) λ i=>aW (ax i) λ j=>aB j (aD af (at_ g (aw a 4)) λ k=>aB (decide (k<d)) (G' K N7 a b c d e g) (B4 K a b g)) (B4 K a b g)
def Qd(K:VP):=lp ur (Ha K)
def acj{K:VP}:=lpx (Qd K) rfl
def Qe(K:VP)(a:ay)(b c:Int)(w:ak):Prop:=fI a (a_ w (.cells #[a,ah af b,ah af c,aa none 0 0,ah af 0] 338) λ d e=>au ag 102 #[] e λ f g=>bf (ax f) λ h=>au ag 106 #[a,ah af c,an h] g λ i j=>∃k l m o,ax i (aV #[aa k l m,o])/\a_ j (.cells #[aa none 0 0,aA] 182) λ p q=>wr q (aw ⟨p,0,none⟩ 0) (aa k l m) λ r=>wr r (aw ⟨p,0,none⟩ 1) o λ s=>au ag 107 #[an (some ⟨p,0,none⟩)] s λ t u=>aD af (ax t) λ v=>au ag 160 #[an (some ⟨p,0,none⟩)] u λ x y=>aD af (ax x) λ z=>aP ag (kS 336 (ah af 0) (ah af (aq af (1+(aq af (gi z 32)))))) y λ A B=>az (ax A) λ C D E=>wr B (aw ⟨d,0,none⟩ 3) (aa C D E) λ F=>Qd K ⟨d,0,none⟩ ⟨p,0,none⟩ v z (aq af (c+4)) F)
theorem ack(n:Qe K a b c w):au ag 204 #[a,ah af b,ah af c] w K:=f0k Tryz.func204 [(10,[(9, .k .p),(10, .k .p),(11, .k (.i af)),(12, .k (.i af)),(13, .k (.i af))]),(8,[(9, .k .p),(10, .k .p),(11, .k (.i af)),(12, .k (.i af)),(13, .k (.i af))]),(12,[(9, .k .p),(10, .k .p)]),(1000007,ur)] [⟨0,λ n=>xO K (n 3)⟩,⟨1,λ n=>G' K (n 3)⟩,⟨2,λ _=>B4 K⟩,⟨3,λ n=>Ha K (n 3)⟩] n
def xP(K:VP)(a:kd)(w:ak):Prop:=aD af (at_ w a) λ b=>wr w a (ah af (aq af (b+1))) λ c=>K aA c
def uu(K:VP)(a:OA)(b c:Nat)(d:OA)(e f:Nat)(g:Int)(h i j k l:kd)(w:ak):Prop:=aD af (at_ w l) λ m=>aB (((Int.tmod m 32):Int)==0) (bf (at_ w.drew h) λ o=>nn o λ p=>du (at_ w.drew (aw p 3)) λ q=>gJ ag (dq 26 9 (aa a b c)) w.drew λ r=>bg (ax r) λ s=>bf (at_ w.drew h) λ t=>nn t λ u=>du (at_ w.drew (aw u 3)) λ v=>gJ ag (dq 26 9 (aa a b c)) w.drew λ x=>bg (ax x) λ y=>gJ ag (dJ 192 (.map v) (aC y) false) w.drew λ z=>az (ax z) λ A B C=>gJ ag (dq 26 9 (aa d e f)) w.drew λ D=>bg (ax D) λ E=>aP ag (bw 268 1 #[(0,aV #[aC E,ah af g])]) w.drew λ F G=>az (ax F) λ H I L=>runs ag (dq 26 9 (aa d e f)) G D/\(runs ag (dJ 192 (.map v) (aC y) false) G z/\(runs ag (dq 26 9 (aa a b c)) G x/\(aK G (aw u 3) [.map v] 0 (aK G h [an t] 0 (runs ag (dq 26 9 (aa a b c)) G r/\(aK G (aw p 3) [.map q] 0 (aK G h [an o] 0 (aP ag (cM #[268,268] 268 #[aa A B C,aa H I L]) G λ M O=>az (ax M) λ Q R U=>runs ag (dq 26 9 (aa d e f)) O D/\(runs ag (dq 26 9 (aa a b c)) O x/\(aK O (aw u 3) [.map v] 0 (aK O h [an t] 0 (runs ag (dq 26 9 (aa a b c)) O r/\(aK O (aw p 3) [.map q] 0 (aK O h [an o] 0 (aP ag (do fF 192 (.map q) (aC s) (aa Q R U);pure dU) O λ _ V=>wr V i (aa none 0 0) λ W=>wr W j (aa none 0 0) λ X=>xP K l X)))))))))))))))) (wr w i (aa a b c) λ Y=>wr Y j (aa d e f) λ Z=>wr Z k (ah af g) λ a0=>xP K l a0)
def xQ(K:VP)(a:OA)(b c:Nat)(d:OA)(e f:Nat)(g:Int)(h i j k l:kd)(w:ak):Prop:=wr w l (ah af 0) λ m=>uu K a b c d e f g h i j k l m
def v206(K:VP)(a:OA)(b c:Nat)(d:OA)(e f:Nat)(g h:Int)(i j k l m:kd)(w:ak):Prop:=bf (at_ w.drew i) λ o=>nn o λ p=>du (at_ w.drew (aw p 3)) λ q=>gJ ag (dq 26 9 (aa a b c)) w.drew λ r=>bg (ax r) λ s=>gJ ag (dJ 192 (.map q) (aC s) true) w.drew λ t=>cR t λ u v=>az (ax u) λ x y z=>aW (ax v) λ A=>aB (!A) (bf (at_ (w.drew).drew i) λ B=>nn B λ C=>du (at_ (w.drew).drew (aw C 3)) λ D=>gJ ag (dq 26 9 (aa a b c)) (w.drew).drew λ E=>bg (ax E) λ F=>aP ag (bw 268 0 #[]) (w.drew).drew λ G H=>az (ax G) λ I L M=>runs ag (dq 26 9 (aa a b c)) H E/\(aK H (aw C 3) [.map D] 0 (aK H i [an B] 0 (aP ag (do fF 192 (.map D) (aC F) (aa I L M);pure dU) H λ _ O=>az (at_ O j) λ Q R U=>bb ag (C2 .neq 26 (br 35) (bt (aa none 0 0)) (aa Q R U) (aa none 0 0)) λ V=>aW (ax V) λ W=>aB W (bf (at_ O.drew i) λ X=>nn X λ Y=>du (at_ O.drew (aw Y 3)) λ Z=>az (at_ O.drew j) λ a0 b0 d0=>gJ ag (dq 26 9 (aa a0 b0 d0)) O.drew λ e0=>bg (ax e0) λ f0=>bf (at_ O.drew i) λ g0=>nn g0 λ h0=>du (at_ O.drew (aw h0 3)) λ i0=>az (at_ O.drew j) λ j0 l0 m0=>gJ ag (dq 26 9 (aa j0 l0 m0)) O.drew λ o0=>bg (ax o0) λ p0=>gJ ag (dJ 192 (.map i0) (aC p0) false) O.drew λ q0=>az (ax q0) λ r0 t0 u0=>az (at_ O.drew k) λ x0 y0 z0=>gJ ag (dq 26 9 (aa x0 y0 z0)) O.drew λ a1=>bg (ax a1) λ b1=>aD af (at_ O.drew l) λ d1=>aP ag (bw 268 1 #[(0,aV #[aC b1,ah af d1])]) O.drew λ e1 f1=>az (ax e1) λ g1 h1 i1=>aK f1 l [ah af d1] 0 (runs ag (dq 26 9 (aa x0 y0 z0)) f1 a1/\(aK f1 k [aa x0 y0 z0] 0 (runs ag (dJ 192 (.map i0) (aC p0) false) f1 q0/\(runs ag (dq 26 9 (aa j0 l0 m0)) f1 o0/\(aK f1 j [aa j0 l0 m0] 0 (aK f1 (aw h0 3) [.map i0] 0 (aK f1 i [an g0] 0 (runs ag (dq 26 9 (aa a0 b0 d0)) f1 e0/\(aK f1 j [aa a0 b0 d0] 0 (aK f1 (aw Y 3) [.map Z] 0 (aK f1 i [an X] 0 (aP ag (cM #[268,268] 268 #[aa r0 t0 u0,aa g1 h1 i1]) f1 λ j1 l1=>az (ax j1) λ m1 o1 p1=>aK l1 l [ah af d1] 0 (runs ag (dq 26 9 (aa x0 y0 z0)) l1 a1/\(aK l1 k [aa x0 y0 z0] 0 (runs ag (dq 26 9 (aa j0 l0 m0)) l1 o0/\(aK l1 j [aa j0 l0 m0] 0 (aK l1 (aw h0 3) [.map i0] 0 (aK l1 i [an g0] 0 (runs ag (dq 26 9 (aa a0 b0 d0)) l1 e0/\(aK l1 j [aa a0 b0 d0] 0 (aK l1 (aw Y 3) [.map Z] 0 (aK l1 i [an X] 0 (aP ag (do fF 192 (.map Z) (aC f0) (aa m1 o1 p1);pure dU) l1 λ _ q1=>xQ K a b c d e f h i j k l m q1)))))))))))))))))))))))) (xQ K a b c d e f h i j k l m O))))) (uu K a b c d e f h i j k l m w.drew)
theorem acm(n:v206 K a b c d e f g h i j k l m w):au ag 206 #[aa a b c,aa d e f,ah aj g,ah af h,an (some i),an (some j),an (some k),an (some l),an (some m)] w K:=f0k Tryz.func206 [(12,[(9, .k .p)]),(7,[(1, .k .l),(2, .k .l),(4, .k (.i af)),(5, .k .p),(6, .k .p),(7, .k .p),(8, .k .p),(9, .k .p)]),(6,[(1, .k .l),(2, .k .l),(4, .k (.i af)),(5, .k .p),(6, .k .p),(7, .k .p),(8, .k .p),(9, .k .p)])] [⟨0,λ _=>xP K⟩,⟨1,λ _=>uu K⟩,⟨2,λ _=>xQ K⟩] n
abbrev xR:bG:=[(3, .k .p),(4, .k .p),(8, .k .p),(9, .k (.i af)),(10, .k (.i af)),(11, .k .s)]
def xS(K:VP)(a b c:kd)(d e:Int)(f:ByteArray)(w:ak):Prop:=au ag 105 #[an (some c)] w λ g h=>aM (ax g) λ i=>bb ag (C2 .neq 86 (br 58) (bt aA) i aA) λ j=>aW (ax j) λ k=>aB k (au ag 105 #[an (some c)] h λ l m=>aM (ax l) λ o=>K (aZ #[ah aL 0,o]) m) (bg (at_ h b) λ p=>aB (!(f.toList==p.toList)) (au ag 103 #[aC (⟨#[117,110,107,110,111,119,110,32,115,121,109,98,111,108]⟩:ByteArray)] h λ q r=>aM (ax q) λ s=>K (aZ #[ah aL 0,s]) r) (aD af (at_ h (aw a 1)) λ t=>aB (t==1) (aM (at_ h a) λ u=>cS ag u "Len" #[] h λ v x=>aD af (ax v) λ y=>K (aZ #[ah aL (aq aL (aq af (y-e))),aA]) x) (K (aZ #[ah aL (aq aL d),aA]) h)))
def Hb(K:VP)(nZ:T xR)(a b c:kd)(d:Int)(w:ak):Prop:=au ag 107 #[an (some c)] w λ e f=>aD af (ax e) λ g=>au ag 110 #[an (some c)] f λ h i=>az (ax h) λ j k l=>au ag 209 #[aa j k l] i λ m o=>bg (ax m) λ p=>bg (at_ o b) λ q=>aB (!(ds p.toList q.toList)) (xS K a b c d g p o) (nZ a b c (aq af (d+1)) g p o)
def Hc(K:VP)(nZ:T xR)(a b c:kd)(d e:Int)(f:ByteArray)(w:ak):Prop:=au ag 105 #[an (some c)] w λ g h=>aM (ax g) λ i=>bb ag (C2 .eql 86 (br 42) (bt aA) i aA) λ j=>aW (ax j) λ k=>aB k (aD af (at_ h (aw a 4)) λ l=>aB (decide (d<=l)) (Hb K nZ a b c d h) (xS K a b c d e f h)) (xS K a b c d e f h)
def Qf(K:VP):=lp xR (Hc K)
def acn{K:VP}:=lpx (Qf K) rfl
def mQ(K:VP)(a b:kd)(c:Int)(d:kd)(w:ak):Prop:=az (at_ w (aw a 3)) λ e f g=>aU e f c 1 λ h=>aD af (at_ w h) λ i=>au ag 208 #[an (some d),ah af i] w λ j k=>Qf K a b d (aq af (c*32)) 0 (⟨#[]⟩:ByteArray) k
def Qg(K:VP)(a:ay)(b c:Int)(d:OA)(e f:Nat)(g:Int)(h:ByteArray)(w:ak):Prop:=a_ w (.cells #[a,ah af b,ah af c,aa d e f,ah af g] 338) λ i j=>a_ j (.cells #[aC h] 9) λ k l=>az (at_ l (aw ⟨i,0,none⟩ 3)) λ m o p=>aB ((o:Int)==0) (au ag 103 #[aC (⟨#[117,110,107,110,111,119,110,32,115,121,109,98,111,108,32,45,32,110,111,32,115,121,109,98,111,108,115]⟩:ByteArray)] l λ q r=>aM (ax q) λ s=>K (aZ #[ah aL 0,s]) r) (az (at_ l (aw ⟨i,0,none⟩ 3)) λ t u v=>au ag 148 #[ah af (u:Int), .func (.func 249) #[] #[an (some ⟨i,0,none⟩),an (some ⟨k,0,none⟩)]] l λ x y=>aD af (ax x) λ z=>aM (at_ y.drew ⟨i,0,none⟩) λ A=>aM (at_ y.drew ⟨i,0,none⟩) λ B=>gk ag A λ C=>(cS ag B "Len" #[] y.drew λ V W=>aD af (ax V) λ X=>aK W ⟨i,0,none⟩ [A] 0 ((cS ag A "Range" #[ah af 0,ah af X] W λ i0 j0=>az (ax i0) λ l0 m0 o0=>aK j0 ⟨i,0,none⟩ [A] 0 (a_ j0 (.cells #[aa none 0 0,aA] 182) λ p0 q0=>aK q0 ⟨i,0,none⟩ [A] 0 (wr q0 (aw ⟨p0,0,none⟩ 0) (aa l0 m0 o0) λ r0=>wr r0 (aw ⟨p0,0,none⟩ 1) aA λ t0=>aB (decide (z>0)) (mQ K ⟨i,0,none⟩ ⟨k,0,none⟩ (aq af (z-1)) ⟨p0,0,none⟩ t0) (mQ K ⟨i,0,none⟩ ⟨k,0,none⟩ z ⟨p0,0,none⟩ t0))))/\(a_ W (.cells #[aa none 0 0,aA] 182) λ Y Z=>aK Z ⟨i,0,none⟩ [A] 0 (cS ag A "Range" #[ah af 0,ah af X] Z λ a0 b0=>az (ax a0) λ d0 e0 f0=>aK b0 ⟨i,0,none⟩ [A] 0 (wr b0 (aw ⟨Y,0,none⟩ 0) (aa d0 e0 f0) λ g0=>wr g0 (aw ⟨Y,0,none⟩ 1) aA λ h0=>aB (decide (z>0)) (mQ K ⟨i,0,none⟩ ⟨k,0,none⟩ (aq af (z-1)) ⟨Y,0,none⟩ h0) (mQ K ⟨i,0,none⟩ ⟨k,0,none⟩ z ⟨Y,0,none⟩ h0))))))/\(a_ y.drew (.cells #[aa none 0 0,aA] 182) λ D E=>aK E ⟨i,0,none⟩ [B] 0 (aK E ⟨i,0,none⟩ [A] 0 (cS ag B "Len" #[] E λ F G=>aD af (ax F) λ H=>aK G ⟨i,0,none⟩ [A] 0 (cS ag A "Range" #[ah af 0,ah af H] G λ I L=>az (ax I) λ M O Q=>aK L ⟨i,0,none⟩ [A] 0 (wr L (aw ⟨D,0,none⟩ 0) (aa M O Q) λ R=>wr R (aw ⟨D,0,none⟩ 1) aA λ U=>aB (decide (z>0)) (mQ K ⟨i,0,none⟩ ⟨k,0,none⟩ (aq af (z-1)) ⟨D,0,none⟩ U) (mQ K ⟨i,0,none⟩ ⟨k,0,none⟩ z ⟨D,0,none⟩ U)))))))
theorem aco(n:Qg K a b c d e f g h w):au ag 207 #[aV #[a,ah af b,ah af c,aa d e f,ah af g],aC h] w K:=f0k Tryz.func207 [(16,[(3, .k .p),(4, .k .p),(8, .k .p),(9, .k (.i af)),(10, .k (.i af)),(11, .k .s)]),(12,[(3, .k .p),(4, .k .p),(8, .k .p),(9, .k (.i af))]),(1000011,xR),(7,[(3, .k .p),(4, .k .p),(7, .k (.i af)),(8, .k .p)])] [⟨0,λ _=>xS K⟩,⟨1,λ n=>Hb K (n 2)⟩,⟨2,λ n=>Hc K (n 2)⟩,⟨3,λ _=>mQ K⟩] n
def Qh(K:VP)(a:OA)(b c:Nat)(w:ak):Prop:=aP ag (dq 26 9 (aa a b c)) w λ d e=>bg (ax d) λ f=>K (aC f) e
theorem acp(n:Qh K a b c w):au ag 209 #[aa a b c] w K:=f0k Tryz.func209 [] [] n
abbrev B5:bG:=[(1, .k .p),(3, .k .o),(4, .k .o),(10, .k .p),(11, .k (.i af)),(12, .k (.i af))]
abbrev B7:bG:=[(4, .k .o),(10, .k .p),(11, .k (.i af)),(18, .k (.i af)),(20, .k (.i af)),(21, .k (.i af))]
def Hd(K:VP)(N31:T B7)(a:OA)(b:kd)(c d e f:Int)(w:ak):Prop:=aB (decide (f<c)) (au ag 111 #[an (some b)] w λ g h=>aD aj (ax g) λ i=>au ag 111 #[an (some b)] h λ j k=>aD aj (ax j) λ l=>au ag 253 #[an (some b)] k λ m o=>aD af (ax m) λ p=>au ag 105 #[an (some b)] o λ q r=>aM (ax q) λ s=>bb ag (C2 .neq 86 (br 122) (bt aA) s aA) λ t=>aW (ax t) λ u=>aB u (au ag 103 #[aC (⟨#[114,101,97,100,32,109,101,116,97,32,102,111,114,32,99,104,117,110,107,58]⟩:ByteArray)] r λ v x=>aM (ax v) λ y=>K y x) (nn a λ z=>az (at_ r z) λ A B C=>aP ag (bw 128 1 #[(0,aV #[ah aj (aq aj (aq af (e+p))),aA,ah af (aq af ((aq af i)+d)),ah af (aq af ((aq af l)+(aq af ((aq af i)+d))))])]) r λ D E=>az (ax D) λ F G H=>aP ag (cM #[128,128] 128 #[aa A B C,aa F G H]) E λ I L=>az (ax I) λ M O Q=>nn a λ R=>wr L R (aa M O Q) λ U=>N31 a b c (aq af ((aq af l)+(aq af ((aq af i)+d)))) (aq af (e+p)) (aq af (f+1)) U)) (au ag 105 #[an (some b)] w λ V W=>aM (ax V) λ X=>K X W)
def He(K:VP):=lp B7 (Hd K)
def acr{K:VP}:=lpx (He K) rfl
def Hf(K:VP)(N7:T B5)(a:kd)(b c:OA)(d:kd)(e f:Int)(w:ak):Prop:=aB (decide (f<e)) (au ag 109 #[an (some d)] w λ g h=>aD af (ax g) λ i=>au ag 109 #[an (some d)] h λ j k=>aD af (ax j) λ l=>au ag 105 #[an (some d)] k λ m o=>aM (ax m) λ p=>bb ag (C2 .neq 86 (br 45) (bt aA) p aA) λ q=>aW (ax q) λ r=>aB r (au ag 103 #[aC (⟨#[114,101,97,100,32,115,101,114,105,101,115,32,108,97,98,101,108,32,111,102,102,115,101,116,115,58]⟩:ByteArray)] o λ s t=>aM (ax s) λ u=>K u t) (aM (at_ o.drew a) λ v=>au ag 251 #[] o.drew λ x y=>ax x (aV #[])/\aK y a [v] 0 (eJ ag v #[aV #[],ah aL (aq aL i)] y λ z A=>cR z λ B C=>bg (ax B) λ D=>aM (ax C) λ E=>bb ag (C2 .neq 86 (br 58) (bt aA) E aA) λ F=>aW (ax F) λ G=>aB G (K E A) (aM (at_ A.drew a) λ H=>au ag 251 #[] A.drew λ I L=>ax I (aV #[])/\aK L a [H] 0 (eJ ag H #[aV #[],ah aL (aq aL l)] L λ M O=>cR M λ Q R=>bg (ax Q) λ U=>aM (ax R) λ V=>bb ag (C2 .neq 86 (br 71) (bt aA) V aA) λ W=>aW (ax W) λ X=>aB X (K V O) (au ag 252 #[an b,aC D,aC U] O λ Y Z=>N7 a b c d e (aq af (f+1)) Z)))))) (bb ag (C2 .eql 281 (br 78) (bt (an none)) (an c) (an none)) λ a0=>aW (ax a0) λ b0=>aB b0 (au ag 105 #[an (some d)] w λ d0 e0=>aM (ax d0) λ f0=>K f0 e0) (au ag 109 #[an (some d)] w λ g0 h0=>aD af (ax g0) λ i0=>aB (i0==0) (au ag 105 #[an (some d)] h0 λ j0 l0=>aM (ax j0) λ m0=>K m0 l0) (au ag 253 #[an (some d)] h0 λ o0 p0=>aD af (ax o0) λ q0=>au ag 111 #[an (some d)] p0 λ r0 t0=>aD aj (ax r0) λ u0=>au ag 111 #[an (some d)] t0 λ x0 y0=>aD aj (ax x0) λ z0=>nn c λ a1=>az (at_ y0 a1) λ b1 d1 e1=>aP ag (bw 128 1 #[(0,aV #[ah aj (aq aj (aq af z0)),aA,ah af q0,ah af (aq af ((aq af u0)+q0))])]) y0 λ f1 g1=>az (ax f1) λ h1 i1 j1=>aP ag (cM #[128,128] 128 #[aa b1 d1 e1,aa h1 i1 j1]) g1 λ l1 m1=>az (ax l1) λ o1 p1 q1=>nn c λ r1=>wr m1 r1 (aa o1 p1 q1) λ t1=>He K c d i0 (aq af ((aq af u0)+q0)) (aq af z0) 1 t1)))
def Qi(K:VP):=lp B5 (Hf K)
def acs{K:VP}:=lpx (Qi K) rfl
def B8(K:VP)(a:kd)(b:OA)(c d:Nat)(e f:OA)(w:ak):Prop:=a_ w (.cells #[aa none 0 0,aA] 182) λ g h=>wr h (aw ⟨g,0,none⟩ 0) (aa b c d) λ i=>wr i (aw ⟨g,0,none⟩ 1) aA λ j=>au ag 109 #[an (some ⟨g,0,none⟩)] j λ k l=>aD af (ax k) λ m=>Qi K a e f ⟨g,0,none⟩ m 0 l
def v212(K:VP)(a:kd)(b:OA)(c d:Nat)(e f:OA)(w:ak):Prop:=au ag 211 #[an e] w λ g h=>bb ag (C2 .neq 281 (br 25) (bt (an none)) (an f) (an none)) λ i=>aW (ax i) λ j=>aB j (nn f λ k=>az (at_ h k) λ l m o=>bb ag (dw 128 (aa l m o) none (some (ah af 0)) none) λ p=>az (ax p) λ q r s=>nn f λ t=>wr h t (aa q r s) λ u=>B8 K a b c d e f u) (B8 K a b c d e f h)
theorem acu(n:v212 K a b c d e f w):au ag 212 #[an (some a),aa b c d,an e,an f] w K:=f0k Tryz.func212 [(1000031,B7),(1000007,B5),(4,[(1, .k .p),(2, .k .l),(3, .k .o),(4, .k .o)])] [⟨0,λ n=>Hd K (n 0)⟩,⟨1,λ n=>Hf K (n 1)⟩,⟨2,λ _=>B8 K⟩] n
def Qj(K:VP)(a:Int)(b c:kd)(w:ak):Prop:=aM (at_ w.drew b) λ d=>aM (at_ w.drew b) λ e=>gk ag d λ f=>(cS ag e "Len" #[] w.drew λ M O=>aD af (ax M) λ Q=>aK O b [d] 0 ((cS ag d "Range" #[ah af 0,ah af Q] O λ y0 z0=>az (ax y0) λ a1 b1 d1=>aK z0 b [d] 0 (a_ z0 (.cells #[aa none 0 0,aA] 182) λ e1 f1=>aK f1 b [d] 0 (wr f1 (aw ⟨e1,0,none⟩ 0) (aa a1 b1 d1) λ g1=>wr g1 (aw ⟨e1,0,none⟩ 1) aA λ h1=>az (at_ h1 (aw b 3)) λ i1 j1 l1=>aU i1 j1 a 1 λ m1=>aD af (at_ h1 m1) λ o1=>au ag 208 #[an (some ⟨e1,0,none⟩),ah af o1] h1 λ p1 q1=>bg (at_ q1.drew c) λ r1=>au ag 110 #[an (some ⟨e1,0,none⟩)] q1.drew λ t1 u1=>az (ax t1) λ x1 y1 z1=>aK u1 c [aC r1] 0 (au ag 209 #[aa x1 y1 z1] u1 λ a2 b2=>bg (ax a2) λ d2=>aK b2 c [aC r1] 0 (K (aQ (!((ds d2.toList r1.toList)||(d2.toList==r1.toList)))) b2)))))/\(a_ O (.cells #[aa none 0 0,aA] 182) λ R U=>aK U b [d] 0 (cS ag d "Range" #[ah af 0,ah af Q] U λ V W=>az (ax V) λ X Y Z=>aK W b [d] 0 (wr W (aw ⟨R,0,none⟩ 0) (aa X Y Z) λ a0=>wr a0 (aw ⟨R,0,none⟩ 1) aA λ b0=>az (at_ b0 (aw b 3)) λ d0 e0 f0=>aU d0 e0 a 1 λ g0=>aD af (at_ b0 g0) λ h0=>au ag 208 #[an (some ⟨R,0,none⟩),ah af h0] b0 λ i0 j0=>bg (at_ j0.drew c) λ l0=>au ag 110 #[an (some ⟨R,0,none⟩)] j0.drew λ m0 o0=>az (ax m0) λ p0 q0 r0=>aK o0 c [aC l0] 0 (au ag 209 #[aa p0 q0 r0] o0 λ t0 u0=>bg (ax t0) λ x0=>aK u0 c [aC l0] 0 (K (aQ (!((ds x0.toList l0.toList)||(x0.toList==l0.toList)))) u0)))))))/\(a_ w.drew (.cells #[aa none 0 0,aA] 182) λ g h=>aK h b [e] 0 (aK h b [d] 0 (cS ag e "Len" #[] h λ i j=>aD af (ax i) λ k=>aK j b [d] 0 (cS ag d "Range" #[ah af 0,ah af k] j λ l m=>az (ax l) λ o p q=>aK m b [d] 0 (wr m (aw ⟨g,0,none⟩ 0) (aa o p q) λ r=>wr r (aw ⟨g,0,none⟩ 1) aA λ s=>az (at_ s (aw b 3)) λ t u v=>aU t u a 1 λ x=>aD af (at_ s x) λ y=>au ag 208 #[an (some ⟨g,0,none⟩),ah af y] s λ z A=>bg (at_ A.drew c) λ B=>au ag 110 #[an (some ⟨g,0,none⟩)] A.drew λ C D=>az (ax C) λ E F G=>aK D c [aC B] 0 (au ag 209 #[aa E F G] D λ H I=>bg (ax H) λ L=>aK I c [aC B] 0 (K (aQ (!((ds L.toList B.toList)||(L.toList==B.toList)))) I)))))))
theorem acv(n:Qj K a b c w):au ag 249 #[ah af a,an (some b),an (some c)] w K:=f0k Tryz.func249 [] [] n
def acw(K:VP)(w:ak):Prop:=a_ w (.cells #[] 111) λ a b=>K (aV #[]) b
theorem acx(n:acw K w):au ag 251 #[] w K:=f0k Tryz.func251 [] [] n
def acy(K:VP)(a:kd)(w:ak):Prop:=aD aL (at_ w (aw a 1)) λ b=>K (ah aj (aq aj b)) w
theorem acz(n:acy K a w):au ag 326 #[an (some a)] w K:=f0k Tryz.func326 [] [] n
def acA(K:VP)(a:kd)(w:ak):Prop:=K aA w
theorem acB(n:acA K a w):au ag 327 #[an (some a)] w K:=f0k Tryz.func327 [] [] n
def Hg(K:VP)(a:kd)(w:ak):Prop:=az (at_ w a) λ b c d=>aB (decide ((c:Int)>=4)) (az (at_ w.drew a) λ e f g=>au ag 100 #[aV #[],aa e f g] w.drew λ h i=>aD aL (ax h) λ j=>wr i (aw a 1) (ah aL j) λ k=>az (at_ k a) λ l m o=>bb ag (dw 26 (aa l m o) (some (ah af 4)) none none) λ p=>az (ax p) λ q r s=>wr k a (aa q r s) λ t=>K (aQ true) t) (K (aQ false) w)
theorem Qk(n:Hg K a w):au ag 328 #[an (some a)] w K:=f0k Tryz.func328 [] [] n
def Ql(K:VP)(a:OA)(b c:Nat)(d:ay)(e:Int)(f:ByteArray)(g:ay)(w:ak):Prop:=a_ w (.cells #[aa a b c,d,ah af e,aC f,g] 341) λ h i=>bg (at_ i (aw ⟨h,0,none⟩ 3)) λ j=>K (aC j) i
theorem acC(n:Ql K a b c d e f g w):au ag 365 #[aV #[aa a b c,d,ah af e,aC f,g]] w K:=f0k Tryz.func365 [] [] n
def B9(K:VP)(w:ak):Prop:=K (aQ false) w
def Hh(K:VP)(a:kd)(w:ak):Prop:=au ag 110 #[an (some a)] w λ b c=>az (ax b) λ d e f=>au ag 209 #[aa d e f] c λ g h=>bg (ax g) λ i=>wr h (aw a 3) (aC i) λ j=>aD af (at_ j (aw a 2)) λ k=>wr j (aw a 2) (ah af (aq af (k-1))) λ l=>au ag 105 #[an (some a)] l λ m o=>aM (ax m) λ p=>bb ag (C2 .neq 86 (br 33) (bt aA) p aA) λ q=>aW (ax q) λ r=>aB r (au ag 105 #[an (some a)] o λ s t=>aM (ax s) λ u=>wr t (aw a 4) u λ v=>K (aQ false) v) (K (aQ true) o)
def Hi(K:VP)(a:kd)(w:ak):Prop:=aD af (at_ w (aw a 2)) λ b=>aB (b==0) (B9 K w) (aM (at_ w (aw a 4)) λ c=>bb ag (C2 .neq 86 (br 12) (bt aA) c aA) λ d=>aW (ax d) λ e=>aB e (B9 K w) (Hh K a w))
theorem Qm(n:Hi K a w):au ag 367 #[an (some a)] w K:=f0k Tryz.func367 [(2,[]),(3,[(1, .k .p)])] [⟨0,λ _=>B9 K⟩,⟨1,λ _=>Hh K⟩] n
def Qn(K:VP)(a:Int)(w:ak):Prop:=au ag 227 #[ah aj a] w λ b c=>aD af (ax b) λ d=>K (ah af d) c
theorem acD(n:Qn K a w):au ag 176 #[ah aj a] w K:=f0k Tryz.func176 [] [] n
def B_(K:VP)(a b:Int)(w:ak):Prop:=(0<=(aq aG a)/\(aq aG a)<((⟨#[0,1,2,2,3,3,3,3,4,4,4,4,4,4,4,4,5,5,5,5,5,5,5,5,5,5,5,5,5,5,5,5,6,6,6,6,6,6,6,6,6,6,6,6,6,6,6,6,6,6,6,6,6,6,6,6,6,6,6,6,6,6,6,6,7,7,7,7,7,7,7,7,7,7,7,7,7,7,7,7,7,7,7,7,7,7,7,7,7,7,7,7,7,7,7,7,7,7,7,7,7,7,7,7,7,7,7,7,7,7,7,7,7,7,7,7,7,7,7,7,7,7,7,7,7,7,7,7,8,8,8,8,8,8,8,8,8,8,8,8,8,8,8,8,8,8,8,8,8,8,8,8,8,8,8,8,8,8,8,8,8,8,8,8,8,8,8,8,8,8,8,8,8,8,8,8,8,8,8,8,8,8,8,8,8,8,8,8,8,8,8,8,8,8,8,8,8,8,8,8,8,8,8,8,8,8,8,8,8,8,8,8,8,8,8,8,8,8,8,8,8,8,8,8,8,8,8,8,8,8,8,8,8,8,8,8,8,8,8,8,8,8,8,8,8,8,8,8,8,8,8,8,8,8,8,8]⟩:ByteArray)).size)/\(K (ah af (aq af (b+(aq af ((((⟨#[0,1,2,2,3,3,3,3,4,4,4,4,4,4,4,4,5,5,5,5,5,5,5,5,5,5,5,5,5,5,5,5,6,6,6,6,6,6,6,6,6,6,6,6,6,6,6,6,6,6,6,6,6,6,6,6,6,6,6,6,6,6,6,6,7,7,7,7,7,7,7,7,7,7,7,7,7,7,7,7,7,7,7,7,7,7,7,7,7,7,7,7,7,7,7,7,7,7,7,7,7,7,7,7,7,7,7,7,7,7,7,7,7,7,7,7,7,7,7,7,7,7,7,7,7,7,7,7,8,8,8,8,8,8,8,8,8,8,8,8,8,8,8,8,8,8,8,8,8,8,8,8,8,8,8,8,8,8,8,8,8,8,8,8,8,8,8,8,8,8,8,8,8,8,8,8,8,8,8,8,8,8,8,8,8,8,8,8,8,8,8,8,8,8,8,8,8,8,8,8,8,8,8,8,8,8,8,8,8,8,8,8,8,8,8,8,8,8,8,8,8,8,8,8,8,8,8,8,8,8,8,8,8,8,8,8,8,8,8,8,8,8,8,8,8,8,8,8,8,8,8,8,8,8,8,8]⟩:ByteArray)).data.getD (aq aG a).toNat 0).toNat))))) w)
def Ca(K:VP)(a b:Int)(w:ak):Prop:=aB (decide (a>=256)) (B_ K (cZ aj a 8) (aq af (b+8)) w) (B_ K a b w)
def Cb(K:VP)(a b:Int)(w:ak):Prop:=aB (decide (a>=65536)) (Ca K (cZ aj a 16) (aq af (b+16)) w) (Ca K a b w)
def v227(K:VP)(a:Int)(w:ak):Prop:=aB (decide (a>=4294967296)) (Cb K (cZ aj a 32) 32 w) (Cb K a 0 w)
theorem acE(n:v227 K a w):au ag 227 #[ah aj a] w K:=f0k Tryz.func227 [(10,[(1, .k (.i aj)),(3, .k (.i af))]),(7,[(1, .k (.i aj)),(3, .k (.i af))]),(4,[(1, .k (.i aj)),(3, .k (.i af))])] [⟨0,λ _=>B_ K⟩,⟨1,λ _=>Ca K⟩,⟨2,λ _=>Cb K⟩] n
def Qo(K:VP)(a:OA)(b c:Nat)(d:OA)(e f:Nat)(w:ak):Prop:=aP ag (dq 26 9 (aa a b c)) w λ g h=>bg (ax g) λ i=>aP ag (dq 26 9 (aa d e f)) h λ j k=>bg (ax j) λ l=>K (aQ (i.toList==l.toList)) k
theorem acF(n:Qo K a b c d e f w):au ag 238 #[aa a b c,aa d e f] w K:=f0k Tryz.func238 [] [] n
def Qp(K:VP)(a:OA)(b c:Nat)(w:ak):Prop:=au ag 176 #[ah aj (aq aj (b:Int))] w λ d e=>aD af (ax d) λ f=>au ag 262 #[aa a b c,ah af 0,ah af (b:Int),ah af f] e λ g h=>K (aZ #[]) h
theorem acG(n:Qp K a b c w):au ag 237 #[aa a b c] w K:=f0k Tryz.func237 [] [] n
def Qq(K:VP)(a:Int)(w:ak):Prop:=au ag 176 #[ah aj (aq aj a)] w λ b c=>aD af (ax b) λ d=>((0:Int)<=d)/\(K (ah aj (bu aj 1 d)) c)
theorem acH(n:Qq K a w):au ag 255 #[ah af a] w K:=f0k Tryz.func255 [] [] n
def Qr(K:VP)(a:kd)(w:ak):Prop:=aD aj (at_ w.drew a) λ b=>aD aj (at_ w.drew a) λ c=>wr w.drew a (ah aj (gC aj b (bu aj c 13))) λ d=>aD aj (at_ d.drew a) λ e=>aD aj (at_ d.drew a) λ f=>wr d.drew a (ah aj (gC aj e (cZ aj f 7))) λ g=>aD aj (at_ g.drew a) λ h=>aD aj (at_ g.drew a) λ i=>wr g.drew a (ah aj (gC aj h (bu aj i 17))) λ j=>aD aj (at_ j a) λ k=>K (ah aj k) j
theorem acI(n:Qr K a w):au ag 256 #[an (some a)] w K:=f0k Tryz.func256 [] [] n
abbrev n_:bG:=[(1, .k .l),(2, .k (.i af)),(3, .k (.i af)),(4, .k (.i af)),(9, .k .b),(10, .k .b)]
def Qs(K:VP)(N2:T n_)(a:OA)(b c:Nat)(d e f:Int)(g h:Bool)(i:Int)(w:ak):Prop:=au ag 283 #[aa a b c,ah af d,ah af e,ah af i] w λ j k=>aD af (ax j) λ l=>N2 a b c l e f g h k
def xT(K:VP)(N2:T n_)(a:OA)(b c:Nat)(d e f g h:Int)(w:ak):Prop:=au ag 284 #[aa a b c,ah af d,ah af e,ah af h] w λ i j=>cR i λ k l=>aD af (ax k) λ m=>aW (ax l) λ o=>aB (decide ((aq af (m-d))<(aq af (e-m)))) (au ag 262 #[aa a b c,ah af d,ah af m,ah af f] j λ p q=>N2 a b c (aq af (m+1)) e f (decide ((aq af (m-d))>=(aq af (gi g 8)))) o q) (au ag 262 #[aa a b c,ah af (aq af (m+1)),ah af e,ah af f] j λ r s=>N2 a b c d m f (decide ((aq af (e-m))>=(aq af (gi g 8)))) o s)
def sm(K:VP)(N2:T n_)(a:OA)(b c:Nat)(d e f:Int)(g h:Bool)(i j:Int)(w:ak):Prop:=aB (decide (d>0)) (aU a b (aq af (d-1)) 1 λ k=>aD aL (at_ w.drew k) λ l=>aU a b j 1 λ m=>aD aL (at_ w.drew m) λ o=>au ag 282 #[ah aL l,ah aL o] w.drew λ p q=>aW (ax p) λ r=>aB (!r) (Qs K N2 a b c d e f g h j q) (xT K N2 a b c d e f i j q)) (xT K N2 a b c d e f i j w.drew)
def Hj(K:VP)(N2:T n_)(a:OA)(b c:Nat)(d e f:Int)(g h:Bool)(i j:Int)(w:ak):Prop:=au ag 281 #[aa a b c,ah af d,ah af e] w λ k l=>aW (ax k) λ m=>aB m (K (aZ #[]) l) (sm K N2 a b c d e f g h i j l)
def Cc(K:VP)(N2:T n_)(a:OA)(b c:Nat)(d e f:Int)(g h:Bool)(i j k:Int)(w:ak):Prop:=aB g (aB h (aB (k==1) (Hj K N2 a b c d e f g h i j w) (sm K N2 a b c d e f g h i j w)) (sm K N2 a b c d e f g h i j w)) (sm K N2 a b c d e f g h i j w)
def xU(K:VP)(N2:T n_)(a:OA)(b c:Nat)(d e f:Int)(g h:Bool)(i:Int)(w:ak):Prop:=au ag 279 #[aa a b c,ah af d,ah af e] w λ j k=>cR j λ l m=>aD af (ax l) λ o=>aD af (ax m) λ p=>aB (p==2) (au ag 280 #[aa a b c,ah af d,ah af e] k λ q r=>Cc K N2 a b c d e f g h i (aq af ((aq af (e-1))-(aq af (o-d)))) 1 r) (Cc K N2 a b c d e f g h i o p k)
def Cd(K:VP)(N2:T n_)(a:OA)(b c:Nat)(d e f:Int)(g h:Bool)(w:ak):Prop:=aB (decide ((aq af (e-d))<=12)) (au ag 276 #[aa a b c,ah af d,ah af e] w λ i j=>K (aZ #[]) j) (aB (f==0) (au ag 277 #[aa a b c,ah af d,ah af e] w λ k l=>K (aZ #[]) l) (aB (!g) (au ag 278 #[aa a b c,ah af d,ah af e] w λ m o=>xU K N2 a b c d e (aq af (f-1)) g h (aq af (e-d)) o) (xU K N2 a b c d e f g h (aq af (e-d)) w)))
def Qt(K:VP):=lp n_ (Cd K)
def Qu{K:VP}:=lpx (Qt K) rfl
def Hk(K:VP)(a:OA)(b c:Nat)(d e f:Int)(w:ak):Prop:=Qt K a b c d e f true true w
theorem Qv(n:Hk K a b c d e f w):au ag 262 #[aa a b c,ah af d,ah af e,ah af f] w K:=f0k Tryz.func262 [(18,[(1, .k .l),(2, .k (.i af)),(3, .k (.i af)),(4, .k (.i af)),(9, .k .b),(10, .k .b),(12, .k (.i af))]),(20,[(1, .k .l),(2, .k (.i af)),(3, .k (.i af)),(4, .k (.i af)),(11, .k (.i af)),(12, .k (.i af))]),(17,[(1, .k .l),(2, .k (.i af)),(3, .k (.i af)),(4, .k (.i af)),(9, .k .b),(10, .k .b),(11, .k (.i af)),(12, .k (.i af))]),(16,[(1, .k .l),(2, .k (.i af)),(3, .k (.i af)),(4, .k (.i af)),(9, .k .b),(10, .k .b),(11, .k (.i af)),(12, .k (.i af))]),(15,[(1, .k .l),(2, .k (.i af)),(3, .k (.i af)),(4, .k (.i af)),(9, .k .b),(10, .k .b),(11, .k (.i af)),(12, .k (.i af)),(13, .k (.i af))]),(10,[(1, .k .l),(2, .k (.i af)),(3, .k (.i af)),(4, .k (.i af)),(9, .k .b),(10, .k .b),(11, .k (.i af))]),(1000002,n_)] [⟨0,λ n=>Qs K (n 6)⟩,⟨1,λ n=>xT K (n 6)⟩,⟨2,λ n=>sm K (n 6)⟩,⟨3,λ n=>Hj K (n 6)⟩,⟨4,λ n=>Cc K (n 6)⟩,⟨5,λ n=>xU K (n 6)⟩,⟨6,λ n=>Cd K (n 6)⟩] n
abbrev qG:bG:=[(1, .k .l),(2, .k (.i af)),(3, .k (.i af)),(7, .k (.i af))]
abbrev xV:bG:=[(1, .k .l),(2, .k (.i af)),(3, .k (.i af)),(7, .k (.i af)),(8, .k (.i af))]
def xW(K:VP)(N1:T qG)(a:OA)(b c:Nat)(d e f:Int)(w:ak):Prop:=N1 a b c d e (aq af (f+1)) w
def Hl(K:VP)(N4:T xV)(a:OA)(b c:Nat)(d e f g:Int)(w:ak):Prop:=aU a b (aq af (g-1)) 1 λ h=>aD aL (at_ w.drew h) λ i=>aU a b g 1 λ j=>aD aL (at_ w.drew j) λ k=>aU a b g 1 λ l=>wr w.drew l (ah aL i) λ m=>aU a b (aq af (g-1)) 1 λ o=>wr m o (ah aL k) λ p=>N4 a b c d e f (aq af (g-1)) p
def Hm(K:VP)(N1:T qG)(N4:T xV)(a:OA)(b c:Nat)(d e f g:Int)(w:ak):Prop:=aB (decide (g>d)) (aU a b g 1 λ h=>aD aL (at_ w.drew h) λ i=>aU a b (aq af (g-1)) 1 λ j=>aD aL (at_ w.drew j) λ k=>au ag 282 #[ah aL i,ah aL k] w.drew λ l m=>aW (ax l) λ o=>aB o (Hl K N4 a b c d e f g m) (xW K N1 a b c d e f m)) (xW K N1 a b c d e f w.drew)
def Qw(K:VP)(N1:T qG):=lp xV (Hm K N1)
def acJ{K:VP}{N1:T qG}:=lpx (Qw K N1) rfl
def Ho(K:VP)(N1:T qG)(a:OA)(b c:Nat)(d e f:Int)(w:ak):Prop:=aB (decide (f<e)) (Qw K N1 a b c d e f f w) (K (aZ #[]) w)
def Qx(K:VP):=lp qG (Ho K)
def acK{K:VP}:=lpx (Qx K) rfl
def Qy(K:VP)(a:OA)(b c:Nat)(d e:Int)(w:ak):Prop:=Qx K a b c d e (aq af (d+1)) w
theorem acL(n:Qy K a b c d e w):au ag 276 #[aa a b c,ah af d,ah af e] w K:=f0k Tryz.func276 [(2,[(1, .k .l),(2, .k (.i af)),(3, .k (.i af)),(7, .k (.i af))]),(6,[(1, .k .l),(2, .k (.i af)),(3, .k (.i af)),(7, .k (.i af)),(8, .k (.i af))]),(1000004,xV),(1000001,qG)] [⟨0,λ n=>xW K (n 3)⟩,⟨1,λ n=>Hl K (n 2)⟩,⟨2,λ n=>Hm K (n 3) (n 2)⟩,⟨3,λ n=>Ho K (n 3)⟩] n
abbrev xX:bG:=[(1, .k .l),(2, .k (.i af)),(7, .k (.i af)),(8, .k .p),(9, .k (.i aj)),(10, .k (.i af))]
def xY(K:VP)(N5:T xX)(a:OA)(b c:Nat)(d e:Int)(f:kd)(g h i:Int)(w:ak):Prop:=aU a b (aq af (d+i)) 1 λ j=>aD aL (at_ w.drew j) λ k=>aU a b h 1 λ l=>aD aL (at_ w.drew l) λ m=>aU a b h 1 λ o=>wr w.drew o (ah aL k) λ p=>aU a b (aq af (d+i)) 1 λ q=>wr p q (ah aL m) λ r=>N5 a b c d e f g (aq af (h+1)) r
def Hp(K:VP)(N5:T xX)(a:OA)(b c:Nat)(d e:Int)(f:kd)(g h:Int)(w:ak):Prop:=aB (decide (h<=(aq af ((aq af (d+(aq af ((aq af (gi e 4))*2))))+1)))) (au ag 256 #[an (some f)] w λ i j=>aD aj (ax i) λ k=>aB (decide ((aq af (bR aj k (aq aj (g-1))))>=e)) (xY K N5 a b c d e f g h (aq af ((aq af (bR aj k (aq aj (g-1))))-e)) j) (xY K N5 a b c d e f g h (aq af (bR aj k (aq aj (g-1)))) j)) (K (aZ #[]) w)
def Qz(K:VP):=lp xX (Hp K)
def acM{K:VP}:=lpx (Qz K) rfl
def QA(K:VP)(a:OA)(b c:Nat)(d e:Int)(w:ak):Prop:=aB (decide ((aq af (e-d))>=8)) (a_ w (.cells #[ah aj 0] 397) λ f g=>wr g ⟨f,0,none⟩ (ah aj (aq aj (aq af (e-d)))) λ h=>au ag 255 #[ah af (aq af (e-d))] h λ i j=>aD aj (ax i) λ k=>Qz K a b c d (aq af (e-d)) ⟨f,0,none⟩ k (aq af ((aq af (d+(aq af ((aq af (gi (aq af (e-d)) 4))*2))))-1)) j) (K (aZ #[]) w)
theorem acN(n:QA K a b c d e w):au ag 278 #[aa a b c,ah af d,ah af e] w K:=f0k Tryz.func278 [(10,[(1, .k .l),(2, .k (.i af)),(7, .k (.i af)),(8, .k .p),(9, .k (.i aj)),(10, .k (.i af)),(11, .k (.i af))]),(1000005,xX)] [⟨0,λ n=>xY K (n 1)⟩,⟨1,λ n=>Hp K (n 1)⟩] n
def Ce(K:VP)(a:kd)(b:Int)(w:ak):Prop:=aD af (at_ w a) λ c=>aB (c==0) (K (aZ #[ah af b,ah af 1]) w) (aB (c==12) (K (aZ #[ah af b,ah af 2]) w) (K (aZ #[ah af b,ah af 0]) w))
def Cf(K:VP)(a:OA)(b c:Nat)(d:kd)(e f g:Int)(w:ak):Prop:=au ag 290 #[aa a b c,ah af e,ah af f,ah af g,an (some d)] w λ h i=>aD af (ax h) λ j=>Ce K d j i
def QB(K:VP)(a:OA)(b c:Nat)(d e:Int)(w:ak):Prop:=a_ w (.cells #[ah af 0] 3) λ f g=>aB (decide ((aq af (e-d))>=8)) (aB (decide ((aq af (e-d))>=50)) (au ag 289 #[aa a b c,ah af (aq af (d+(aq af ((aq af (gi (aq af (e-d)) 4))*1)))),an (some ⟨f,0,none⟩)] g λ h i=>aD af (ax h) λ j=>au ag 289 #[aa a b c,ah af (aq af (d+(aq af ((aq af (gi (aq af (e-d)) 4))*2)))),an (some ⟨f,0,none⟩)] i λ k l=>aD af (ax k) λ m=>au ag 289 #[aa a b c,ah af (aq af (d+(aq af ((aq af (gi (aq af (e-d)) 4))*3)))),an (some ⟨f,0,none⟩)] l λ o p=>aD af (ax o) λ q=>Cf K a b c ⟨f,0,none⟩ j m q p) (Cf K a b c ⟨f,0,none⟩ (aq af (d+(aq af ((aq af (gi (aq af (e-d)) 4))*1)))) (aq af (d+(aq af ((aq af (gi (aq af (e-d)) 4))*2)))) (aq af (d+(aq af ((aq af (gi (aq af (e-d)) 4))*3)))) g)) (Ce K ⟨f,0,none⟩ (aq af (d+(aq af ((aq af (gi (aq af (e-d)) 4))*2)))) g)
theorem acO(n:QB K a b c d e w):au ag 279 #[aa a b c,ah af d,ah af e] w K:=f0k Tryz.func279 [(12,[(10, .k .p),(12, .k (.i af))]),(11,[(1, .k .l),(10, .k .p),(11, .k (.i af)),(12, .k (.i af)),(13, .k (.i af))])] [⟨0,λ _=>Ce K⟩,⟨1,λ _=>Cf K⟩] n
abbrev ki:bG:=[(1, .k .l),(2, .k (.i af)),(3, .k (.i af)),(8, .k (.i af)),(9, .k (.i af))]
abbrev xZ:bG:=[(1, .k .l),(2, .k (.i af)),(3, .k (.i af)),(8, .k (.i af)),(9, .k (.i af))]
abbrev Cg:bG:=[(1, .k .l),(2, .k (.i af)),(3, .k (.i af)),(8, .k (.i af)),(9, .k (.i af)),(10, .k (.i af))]
abbrev Ch:bG:=[(1, .k .l),(2, .k (.i af)),(3, .k (.i af)),(8, .k (.i af)),(9, .k (.i af)),(11, .k (.i af))]
def Ci(K:VP)(N3:T ki)(a:OA)(b c:Nat)(d e f g:Int)(w:ak):Prop:=N3 a b c d e f (aq af (g+1)) w
def Hq(K:VP)(N5:T xZ)(a:OA)(b c:Nat)(d e f g:Int)(w:ak):Prop:=N5 a b c d e (aq af (f+1)) g w
def QC(K:VP)(N3:T ki)(wo:T Ch)(a:OA)(b c:Nat)(d e f g h:Int)(w:ak):Prop:=aB (decide (h<e)) (aU a b h 1 λ i=>aD aL (at_ w.drew i) λ j=>aU a b (aq af (h-1)) 1 λ k=>aD aL (at_ w.drew k) λ l=>au ag 282 #[ah aL j,ah aL l] w.drew λ m o=>aW (ax m) λ p=>aB (!p) (Ci K N3 a b c d e f g o) (aU a b (aq af (h-1)) 1 λ q=>aD aL (at_ o.drew q) λ r=>aU a b h 1 λ s=>aD aL (at_ o.drew s) λ t=>aU a b h 1 λ u=>wr o.drew u (ah aL r) λ v=>aU a b (aq af (h-1)) 1 λ x=>wr v x (ah aL t) λ y=>wo a b c d e f g (aq af (h+1)) y)) (Ci K N3 a b c d e f g w)
def QE(K:VP)(N3:T ki):=lp Ch (QC K N3)
def aoQ{K:VP}{N3:T ki}:=lpx (QE K N3) rfl
def Cj(K:VP)(N3:T ki)(a:OA)(b c:Nat)(d e f g:Int)(w:ak):Prop:=aB (decide ((aq af (e-f))>=2)) (QE K N3 a b c d e f g (aq af (f+1)) w) (Ci K N3 a b c d e f g w)
def QF(K:VP)(N3:T ki)(N14:T Cg)(a:OA)(b c:Nat)(d e f g h:Int)(w:ak):Prop:=aB (decide (h>=1)) (aU a b h 1 λ i=>aD aL (at_ w.drew i) λ j=>aU a b (aq af (h-1)) 1 λ k=>aD aL (at_ w.drew k) λ l=>au ag 282 #[ah aL j,ah aL l] w.drew λ m o=>aW (ax m) λ p=>aB (!p) (Cj K N3 a b c d e f g o) (aU a b (aq af (h-1)) 1 λ q=>aD aL (at_ o.drew q) λ r=>aU a b h 1 λ s=>aD aL (at_ o.drew s) λ t=>aU a b h 1 λ u=>wr o.drew u (ah aL r) λ v=>aU a b (aq af (h-1)) 1 λ x=>wr v x (ah aL t) λ y=>N14 a b c d e f g (aq af (h-1)) y)) (Cj K N3 a b c d e f g w)
def QG(K:VP)(N3:T ki):=lp Cg (QF K N3)
def aoR{K:VP}{N3:T ki}:=lpx (QG K N3) rfl
def x7(K:VP)(N3:T ki)(a:OA)(b c:Nat)(d e f g:Int)(w:ak):Prop:=aB (f==e) (K (aQ true) w) (aB (decide ((aq af (e-d))<50)) (K (aQ false) w) (aU a b (aq af (f-1)) 1 λ h=>aD aL (at_ w.drew h) λ i=>aU a b f 1 λ j=>aD aL (at_ w.drew j) λ k=>aU a b f 1 λ l=>wr w.drew l (ah aL i) λ m=>aU a b (aq af (f-1)) 1 λ o=>wr m o (ah aL k) λ p=>aB (decide ((aq af (f-d))>=2)) (QG K N3 a b c d e f g (aq af (f-1)) p) (Cj K N3 a b c d e f g p)))
def Hr(K:VP)(N3:T ki)(N5:T xZ)(a:OA)(b c:Nat)(d e f g:Int)(w:ak):Prop:=aB (decide (f<e)) (aU a b f 1 λ h=>aD aL (at_ w.drew h) λ i=>aU a b (aq af (f-1)) 1 λ j=>aD aL (at_ w.drew j) λ k=>au ag 282 #[ah aL i,ah aL k] w.drew λ l m=>aW (ax l) λ o=>aB (!o) (Hq K N5 a b c d e f g m) (x7 K N3 a b c d e f g m)) (x7 K N3 a b c d e f g w.drew)
def QH(K:VP)(N3:T ki):=lp xZ (Hr K N3)
def acP{K:VP}{N3:T ki}:=lpx (QH K N3) rfl
def Hs(K:VP)(N3:T ki)(a:OA)(b c:Nat)(d e f g:Int)(w:ak):Prop:=aB (decide (g<5)) (QH K N3 a b c d e f g w) (K (aQ false) w)
def QK(K:VP):=lp ki (Hs K)
def acQ{K:VP}:=lpx (QK K) rfl
def QL(K:VP)(a:OA)(b c:Nat)(d e:Int)(w:ak):Prop:=QK K a b c d e (aq af (d+1)) 0 w
theorem acR(n:QL K a b c d e w):au ag 281 #[aa a b c,ah af d,ah af e] w K:=f0k Tryz.func281 [(4,[(1, .k .l),(2, .k (.i af)),(3, .k (.i af)),(8, .k (.i af)),(9, .k (.i af))]),(6,[(1, .k .l),(2, .k (.i af)),(3, .k (.i af)),(8, .k (.i af)),(9, .k (.i af))]),(1000020,Ch),(18,[(1, .k .l),(2, .k (.i af)),(3, .k (.i af)),(8, .k (.i af)),(9, .k (.i af))]),(1000014,Cg),(7,[(1, .k .l),(2, .k (.i af)),(3, .k (.i af)),(8, .k (.i af)),(9, .k (.i af))]),(1000005,xZ),(1000003,ki)] [⟨0,λ n=>Ci K (n 7)⟩,⟨1,λ n=>Hq K (n 6)⟩,⟨2,λ n=>QC K (n 7) (n 2)⟩,⟨3,λ n=>Cj K (n 7)⟩,⟨4,λ n=>QF K (n 7) (n 4)⟩,⟨5,λ n=>x7 K (n 7)⟩,⟨6,λ n=>Hr K (n 7) (n 6)⟩,⟨7,λ n=>Hs K (n 7)⟩] n
def QM(K:VP)(a b:Int)(w:ak):Prop:=au ag 291 #[ah aL a] w λ c d=>aW (ax c) λ e=>aB e (au ag 291 #[ah aL b] d λ f g=>aW (ax f) λ h=>aB (!h) (K (aQ true) g) (K (aQ (decide (a<b))) g)) (K (aQ (decide (a<b))) d)
theorem acS(n:QM K a b w):au ag 282 #[ah aL a,ah aL b] w K:=f0k Tryz.func282 [] [] n
abbrev x8:bG:=[(1, .k .l),(2, .k (.i af)),(11, .k (.i af)),(12, .k (.i af))]
abbrev x9:bG:=[(1, .k .l),(2, .k (.i af)),(11, .k (.i af)),(12, .k (.i af))]
abbrev x_:bG:=[(1, .k .l),(2, .k (.i af)),(11, .k (.i af)),(12, .k (.i af))]
abbrev ya:bG:=[(1, .k .l),(2, .k (.i af)),(11, .k (.i af)),(12, .k (.i af))]
abbrev mc:bG:=[(1, .k .l),(2, .k (.i af)),(11, .k (.i af)),(12, .k (.i af))]
def Ht(K:VP)(N3:T x8)(a:OA)(b c:Nat)(d e f:Int)(w:ak):Prop:=N3 a b c d (aq af (e+1)) f w
def Hu(K:VP)(N5:T x9)(a:OA)(b c:Nat)(d e f:Int)(w:ak):Prop:=N5 a b c d e (aq af (f-1)) w
def Hv(K:VP)(mP:T x_)(a:OA)(b c:Nat)(d e f:Int)(w:ak):Prop:=mP a b c d (aq af (e+1)) f w
def Hw(K:VP)(Hx:T ya)(a:OA)(b c:Nat)(d e f:Int)(w:ak):Prop:=Hx a b c d e (aq af (f-1)) w
def yb(K:VP)(jr:T mc)(a:OA)(b c:Nat)(d e f:Int)(w:ak):Prop:=aB (decide (e>f)) (aU a b d 1 λ g=>aD aL (at_ w.drew g) λ h=>aU a b f 1 λ i=>aD aL (at_ w.drew i) λ j=>aU a b f 1 λ k=>wr w.drew k (ah aL h) λ l=>aU a b d 1 λ m=>wr l m (ah aL j) λ o=>K (aZ #[ah af f,aQ false]) o) (aU a b f 1 λ p=>aD aL (at_ w.drew p) λ q=>aU a b e 1 λ r=>aD aL (at_ w.drew r) λ s=>aU a b e 1 λ t=>wr w.drew t (ah aL q) λ u=>aU a b f 1 λ v=>wr u v (ah aL s) λ x=>jr a b c d (aq af (e+1)) (aq af (f-1)) x)
def Hy(K:VP)(jr:T mc)(Hx:T ya)(a:OA)(b c:Nat)(d e f:Int)(w:ak):Prop:=aB (decide (e<=f)) (aU a b f 1 λ g=>aD aL (at_ w.drew g) λ h=>aU a b d 1 λ i=>aD aL (at_ w.drew i) λ j=>au ag 282 #[ah aL h,ah aL j] w.drew λ k l=>aW (ax k) λ m=>aB (!m) (Hw K Hx a b c d e f l) (yb K jr a b c d e f l)) (yb K jr a b c d e f w.drew)
def QN(K:VP)(jr:T mc):=lp ya (Hy K jr)
def acT{K:VP}{jr:T mc}:=lpx (QN K jr) rfl
def yd(K:VP)(jr:T mc)(a:OA)(b c:Nat)(d e f:Int)(w:ak):Prop:=QN K jr a b c d e f w
def Hz(K:VP)(jr:T mc)(mP:T x_)(a:OA)(b c:Nat)(d e f:Int)(w:ak):Prop:=aB (decide (e<=f)) (aU a b e 1 λ g=>aD aL (at_ w.drew g) λ h=>aU a b d 1 λ i=>aD aL (at_ w.drew i) λ j=>au ag 282 #[ah aL h,ah aL j] w.drew λ k l=>aW (ax k) λ m=>aB m (Hv K mP a b c d e f l) (yd K jr a b c d e f l)) (yd K jr a b c d e f w.drew)
def QO(K:VP)(jr:T mc):=lp x_ (Hz K jr)
def acU{K:VP}{jr:T mc}:=lpx (QO K jr) rfl
def HA(K:VP)(jr:T mc)(a:OA)(b c:Nat)(d e f:Int)(w:ak):Prop:=QO K jr a b c d e f w
def HB(K:VP):=lp mc (HA K)
def acV{K:VP}:=lpx (HB K) rfl
def ye(K:VP)(a:OA)(b c:Nat)(d e f:Int)(w:ak):Prop:=aB (decide (e>f)) (aU a b d 1 λ g=>aD aL (at_ w.drew g) λ h=>aU a b f 1 λ i=>aD aL (at_ w.drew i) λ j=>aU a b f 1 λ k=>wr w.drew k (ah aL h) λ l=>aU a b d 1 λ m=>wr l m (ah aL j) λ o=>K (aZ #[ah af f,aQ true]) o) (aU a b f 1 λ p=>aD aL (at_ w.drew p) λ q=>aU a b e 1 λ r=>aD aL (at_ w.drew r) λ s=>aU a b e 1 λ t=>wr w.drew t (ah aL q) λ u=>aU a b f 1 λ v=>wr u v (ah aL s) λ x=>HB K a b c d (aq af (e+1)) (aq af (f-1)) x)
def HC(K:VP)(N5:T x9)(a:OA)(b c:Nat)(d e f:Int)(w:ak):Prop:=aB (decide (e<=f)) (aU a b f 1 λ g=>aD aL (at_ w.drew g) λ h=>aU a b d 1 λ i=>aD aL (at_ w.drew i) λ j=>au ag 282 #[ah aL h,ah aL j] w.drew λ k l=>aW (ax k) λ m=>aB (!m) (Hu K N5 a b c d e f l) (ye K a b c d e f l)) (ye K a b c d e f w.drew)
def QP(K:VP):=lp x9 (HC K)
def acW{K:VP}:=lpx (QP K) rfl
def yf(K:VP)(a:OA)(b c:Nat)(d e f:Int)(w:ak):Prop:=QP K a b c d e f w
def HD(K:VP)(N3:T x8)(a:OA)(b c:Nat)(d e f:Int)(w:ak):Prop:=aB (decide (e<=f)) (aU a b e 1 λ g=>aD aL (at_ w.drew g) λ h=>aU a b d 1 λ i=>aD aL (at_ w.drew i) λ j=>au ag 282 #[ah aL h,ah aL j] w.drew λ k l=>aW (ax k) λ m=>aB m (Ht K N3 a b c d e f l) (yf K a b c d e f l)) (yf K a b c d e f w.drew)
def QQ(K:VP):=lp x8 (HD K)
def acX{K:VP}:=lpx (QQ K) rfl
def QR(K:VP)(a:OA)(b c:Nat)(d e f:Int)(w:ak):Prop:=aU a b f 1 λ g=>aD aL (at_ w.drew g) λ h=>aU a b d 1 λ i=>aD aL (at_ w.drew i) λ j=>aU a b d 1 λ k=>wr w.drew k (ah aL h) λ l=>aU a b f 1 λ m=>wr l m (ah aL j) λ o=>QQ K a b c d (aq af (d+1)) (aq af (e-1)) o
theorem acY(n:QR K a b c d e f w):au ag 284 #[aa a b c,ah af d,ah af e,ah af f] w K:=f0k Tryz.func284 [(4,[(1, .k .l),(2, .k (.i af)),(11, .k (.i af)),(12, .k (.i af))]),(6,[(1, .k .l),(2, .k (.i af)),(11, .k (.i af)),(12, .k (.i af))]),(14,[(1, .k .l),(2, .k (.i af)),(11, .k (.i af)),(12, .k (.i af))]),(16,[(1, .k .l),(2, .k (.i af)),(11, .k (.i af)),(12, .k (.i af))]),(17,[(1, .k .l),(2, .k (.i af)),(11, .k (.i af)),(12, .k (.i af))]),(1000015,ya),(15,[(1, .k .l),(2, .k (.i af)),(11, .k (.i af)),(12, .k (.i af))]),(1000013,x_),(1005013,mc),(7,[(1, .k .l),(2, .k (.i af)),(11, .k (.i af)),(12, .k (.i af))]),(1000005,x9),(5,[(1, .k .l),(2, .k (.i af)),(11, .k (.i af)),(12, .k (.i af))]),(1000003,x8)] [⟨0,λ n=>Ht K (n 12)⟩,⟨1,λ n=>Hu K (n 10)⟩,⟨2,λ n=>Hv K (n 7)⟩,⟨3,λ n=>Hw K (n 5)⟩,⟨4,λ n=>yb K (n 8)⟩,⟨5,λ n=>Hy K (n 8) (n 5)⟩,⟨6,λ n=>yd K (n 8)⟩,⟨7,λ n=>Hz K (n 8) (n 7)⟩,⟨8,λ n=>HA K (n 8)⟩,⟨9,λ _=>ye K⟩,⟨10,λ n=>HC K (n 10)⟩,⟨11,λ _=>yf K⟩,⟨12,λ n=>HD K (n 12)⟩] n
def QS(K:VP)(a:OA)(b c:Nat)(d e f:Int)(g:OA)(w:ak):Prop:=au ag 293 #[aa a b c,ah af d,ah af e,an g] w λ h i=>cR h λ j k=>aD af (ax j) λ l=>aD af (ax k) λ m=>au ag 293 #[aa a b c,ah af m,ah af f,an g] i λ o p=>cR o λ q r=>aD af (ax q) λ s=>aD af (ax r) λ t=>au ag 293 #[aa a b c,ah af l,ah af s,an g] p λ u v=>cR u λ x y=>aD af (ax x) λ z=>aD af (ax y) λ A=>K (ah af A) v
theorem acZ(n:QS K a b c d e f g w):au ag 290 #[aa a b c,ah af d,ah af e,ah af f,an g] w K:=f0k Tryz.func290 [] [] n
def QT(K:VP)(a:Int)(w:ak):Prop:=K (aQ (a !=a)) w
theorem ac0(n:QT K a w):au ag 291 #[ah aL a] w K:=f0k Tryz.func291 [] [] n
def QU(K:VP)(a:OA)(b c:Nat)(d e:Int)(f:OA)(w:ak):Prop:=aU a b e 1 λ g=>aD aL (at_ w.drew g) λ h=>aU a b d 1 λ i=>aD aL (at_ w.drew i) λ j=>au ag 282 #[ah aL h,ah aL j] w.drew λ k l=>aW (ax k) λ m=>aB m (nn f λ o=>aD af (at_ l o) λ p=>nn f λ q=>wr l q (ah af (aq af (p+1))) λ r=>K (aZ #[ah af e,ah af d]) r) (K (aZ #[ah af d,ah af e]) l)
theorem ac1(n:QU K a b c d e f w):au ag 293 #[aa a b c,ah af d,ah af e,an f] w K:=f0k Tryz.func293 [] [] n
def v143(K:VP)(w:ak):Prop:=K (cG 312 (aV #[aA])) w
theorem ac2(n:v143 K w):au ag 143 #[] w K:=f0k Tryz.func143 [] [] n
def QV(K:VP)(a:OA)(b c:Nat)(w:ak):Prop:=a_ w (.cells #[] 111) λ d e=>aB ((b:Int)==0) (au ag 143 #[] e λ f g=>aM (ax f) λ h=>K h g) (aB ((b:Int)==1) (aU a b 0 1 λ i=>aM (at_ e i) λ j=>K j e) (au ag 199 #[aa a b c] e λ k l=>cR k λ m o=>bf (ax m) λ p=>aW (ax o) λ q=>aB (!q) (au ag 143 #[] l λ r s=>aM (ax r) λ t=>K t s) (K (cG 313 (an p)) l)))
theorem ac3(n:QV K a b c w):au ag 144 #[aV #[],aa a b c] w K:=f0k Tryz.func144 [] [] n
end Go.Proofs
namespace Go.V
section
variable{α β:Type}[DecidableEq α]{P:bU}
structure oe(d:TypeDesc)(kc:α->ay):Prop where
 key:∀a,MapKept.IsKey d (kc a)
 inj:∀a b,kc a=kc b->a=b
def me(kc:α->ay)(vc:β->ay)(e:α×β×Nat):MapEntry:=⟨kc e.1,vc e.2.1,e.2.2⟩
structure kH(kc:α->ay)(vc:β->ay)(w:ak)(r:Nat)(l:List (α×β×Nat))(clock:Nat):Prop where
 obj:w.heap[r]? =some (.map (l.map (me kc vc)).toArray clock)
 uv:(l.map (·.2.2)).Pairwise (·<·)
 lt:∀e∈l,e.2.2<clock
 nodup:(l.map (·.1)).Nodup
def oh(l:List (α×β×Nat))(f:α->Option β):Prop:=∀k v,f k=some v↔∃b,(k,v,b)∈l
def dY(kc:α->ay)(vc:β->ay)(w:ak)(r:Nat)(f:α->Option β):Prop:=
 ∃l clock,kH kc vc w r l clock/\oh l f
def cU(f:α->Option β)(k:α)(v:β):α->Option β:=λ x=>if x=k then some v else f x
theorem ac4{w:ak}{r:Nat}{o:Obj}(h:w.heap[r]? =some o)(q:∀c e f,o≠ .cells c e f)(p:Nat):view w r p=some (.inr o):=by
 unfold view;rw[h];cases o with
 |cells c e f=>exact absurd rfl (q c e f)
 |_=>rfl
theorem ac5{w:ak}{r p:Nat}{o:Obj}(h:view w r p=some (.inr o)):w.heap[r]? =some o:=by
 unfold view at h;cases c:w.heap[r]? with
 |none=>rw[c] at h;simp at h
 |some x=>
  rw[c] at h;cases x<;>simp at h<;>subst h<;>rfl
theorem Fr.obj{S:Nat->Nat->Prop}{w w':ak}(y:Fr S w w'){r:Nat}{o:Obj}(h:w.heap[r]? =some o)(x:∀c e f,o≠ .cells c e f)(p:Nat)(E:¬S r p):w'.heap[r]? =some o:=by
 have q:r<w.heap.size:=(rD.1 h).1;have u:=y.cell r p q E;rw[ac4 h x] at u;exact ac5 u
theorem kH.fr{S:Nat->Nat->Prop}{kc:α->ay}{vc:β->ay}{w w':ak}{r:Nat}{l:List (α×β×Nat)}{c:Nat}(h:kH kc vc w r l c)(q:Fr S w w')(p:Nat)(u:¬S r p):kH kc vc w' r l c:=
 ⟨q.obj h.obj (by intros;simp) p u,h.uv,h.lt,h.nodup⟩
theorem dY.fr{S:Nat->Nat->Prop}{kc:α->ay}{vc:β->ay}{w w':ak}{r:Nat}{f:α->Option β}(h:dY kc vc w r f)(x:Fr S w w')(p:Nat)(y:¬S r p):dY kc vc w' r f:=by
 obtain⟨l,c,u,q⟩:=h;exact⟨l,c,u.fr x p y,q⟩
theorem dY.aH{kc:α->ay}{vc:β->ay}{w w':ak}{r:Nat}{f:α->Option β}(h:dY kc vc w r f)(c:aS w w'):dY kc vc w' r f:=h.fr c 0 (λ x=>x)
theorem kH.fT{kc:α->ay}{vc:β->ay}{w:ak}{r:Nat}{l:List (α×β×Nat)}{c:Nat}(h:kH kc vc w r l c):r<w.heap.size:=(rD.1 h.obj).1
theorem dY.fT{kc:α->ay}{vc:β->ay}{w:ak}{r:Nat}{f:α->Option β}(h:dY kc vc w r f):r<w.heap.size:=by
 obtain⟨l,c,q,_⟩:=h;exact q.fT
theorem yg{w:ak}{r:Nat}{o o':Obj}(h:w.heap[r]? =some o):Fr (λ b _=>b=r) w {w with heap:=w.heap.setIfInBounds r o'}:=by
 refine⟨rfl,rfl,rfl,by simp,λ b p q c=> ?_⟩;unfold view;rw[Array.getElem?_setIfInBounds_ne (λ e=>c e.symm)]
theorem HF{d:TypeDesc}{kc:α->ay}(c:oe d kc)(a b:α):Instr.sameNow d (kc a) (kc b)=some (decide (a=b)):=by
 obtain⟨r,q,h⟩:=MapKept.sameNow_of_keys (c.key a) (c.key b);rw[q];congr 1;cases r with
 |true=>have:=c.inj _ _ (h.1 rfl);simp[this]
 |false=>
  have:a≠b:=λ e=>by subst e;exact absurd (h.2 rfl) (by simp)
  simp[this]
theorem Ck{d:TypeDesc}{kc:α->ay}{vc:β->ay}(q:oe d kc){k:α}{v:β}{b:Nat}{c:List (α×β×Nat)}:∀(a:List (α×β×Nat)) (i:Nat),(∀e∈a,e.1≠k)->
  Instr.findNow d (kc k) ((a++(k,v,b)::c).map (me kc vc)) i=some (some (i+a.length,vc v)):=by
 intro a;induction a with
 |nil=>intro i _;simp[Instr.findNow,me,HF q]
 |cons x a w=>
  intro i h;have u:k≠x.1:=λ e=>h x (by simp) e.symm
  simp only[List.cons_append,hW,Instr.findNow,me,HF q,u,decide_false];refine(w (i+1) (λ e r=>h e (by simp[r]))).trans ?_;simp;omega
theorem QW{d:TypeDesc}{kc:α->ay}{vc:β->ay}(q:oe d kc){k:α}:∀(a:List (α×β×Nat)) (i:Nat),(∀e∈a,e.1≠k)->
  Instr.findNow d (kc k) (a.map (me kc vc)) i=some none:=by
 intro a;induction a with
 |nil=>intro i _;rfl
 |cons x a u=>
  intro i h;have r:k≠x.1:=λ e=>h x (by simp) e.symm
  simp only[hW,Instr.findNow,me,HF q,r,decide_false];exact u (i+1) (λ e c=>h e (by simp[c]))
theorem Cl(l:List (α×β×Nat))(r:(l.map (·.1)).Nodup)(k:α):(∃a v b c,l=a++(k,v,b)::c/\(∀e∈a,e.1≠k)/\∀e∈c,e.1≠k)\/∀e∈l,e.1≠k:=by
 by_cases h:∃e∈l,e.1=k
 ·left;obtain⟨⟨E,v,b⟩,u,rfl⟩:=h;obtain⟨a,c,rfl⟩:=List.append_of_mem u;refine⟨a,v,b,c,rfl, ?_, ?_⟩
  ·intro e w q;rw[iE,List.nodup_append] at r;exact r.2.2 e.1 (dt.2 ⟨e,w,rfl⟩) E (by simp) q
  ·intro e x q;rw[iE,List.nodup_append] at r;have:=r.2.1;rw[hW,aq9] at this;exact this.1 (dt.2 ⟨e,x,q⟩)
 ·right;intro e u y;exact h ⟨e,u,y⟩
theorem ac6{a c:List (α×β×Nat)}{k:α}{v:β}{b:Nat}{f:α->Option β}(h:oh (a++(k,v,b)::c) f):f k=some v:=(h k v).2 ⟨b,by simp⟩
theorem QX{l:List (α×β×Nat)}{k:α}{f:α->Option β}(r:oh l f)(h:∀e∈l,e.1≠k):f k=none:=by
 cases q:f k with
 |none=>rfl
 |some v=>
  obtain⟨b,c⟩:=(r k v).1 q;exact absurd rfl (h _ c)
theorem HG{a c:List (α×β×Nat)}{k:α}{v u:β}{b:Nat}{f:α->Option β}(G:oh (a++(k,v,b)::c) f)(w:∀e∈a,e.1≠k)(E:∀e∈c,e.1≠k):oh (a++(k,u,b)::c) (cU f k u):=by
 intro x y;unfold cU;by_cases r:x=k
 ·subst r;simp only[if_true];constructor
  ·intro h;cases h;exact⟨b,by simp⟩
  ·rintro⟨q,h⟩;rcases mG.1 h with h|h
   ·exact absurd rfl (w _ h)
   ·rcases dX.1 h with h|h
    ·cases h;rfl
    ·exact absurd rfl (E _ h)
 ·simp only[r,if_false];rw[G];constructor
  ·rintro⟨q,h⟩;refine⟨q, ?_⟩;simp only[mG,dX,Prod.mk.injEq,r,false_and,false_or] at h⊢;exact h
  ·rintro⟨q,h⟩;refine⟨q, ?_⟩;simp only[mG,dX,Prod.mk.injEq,r,false_and,false_or] at h⊢;exact h
theorem ac7{l:List (α×β×Nat)}{k:α}{u:β}{b:Nat}{f:α->Option β}(q:oh l f)(h:∀e∈l,e.1≠k):oh (l++[(k,u,b)]) (cU f k u):=by
 intro x y;unfold cU;by_cases c:x=k
 ·subst c;simp only[if_true];constructor
  ·intro h;cases h;exact⟨b,by simp⟩
  ·rintro⟨r,h'⟩;rcases mG.1 h' with h'|h'
   ·exact absurd rfl (h _ h')
   ·simp at h';simp[h'.1]
 ·simp only[c,if_false];rw[q];simp[c]
theorem kH.HH{kc:α->ay}{vc:β->ay}{w:ak}{r:Nat}{a c:List (α×β×Nat)}{k:α}{v u:β}{b clock:Nat}(h:kH kc vc w r (a++(k,v,b)::c) clock):
  kH kc vc {w with heap:=w.heap.setIfInBounds r (.map ((a++(k,u,b)::c).map (me kc vc)).toArray clock)} r (a++(k,u,b)::c) clock:=by
 refine⟨(MapKept.heap_set h.obj).1,by simpa using h.uv, ?_,by simpa using h.nodup⟩;intro e q;rcases mG.1 q with q|q
 ·exact h.lt e (by simp[q])
 ·rcases dX.1 q with rfl|q
  ·exact h.lt (k,v,b) (by simp)
  ·exact h.lt e (by simp[q])
theorem kH.ac8{kc:α->ay}{vc:β->ay}{w:ak}{r:Nat}{l:List (α×β×Nat)}{k:α}{u:β}{clock:Nat}(h:kH kc vc w r l clock)(G:∀e∈l,e.1≠k):
  kH kc vc {w with heap:=w.heap.setIfInBounds r (.map ((l++[(k,u,clock)]).map (me kc vc)).toArray (clock+1))} r (l++[(k,u,clock)]) (clock+1):=by
 refine⟨(MapKept.heap_set h.obj).1, ?_, ?_, ?_⟩
 ·rw[iE,List.pairwise_append];refine⟨h.uv,by simp, ?_⟩;intro x E y q;simp at q;subst q;obtain⟨e,c,rfl⟩:=dt.1 E;exact h.lt e c
 ·intro e c;rcases mG.1 c with c|c
  ·have:=h.lt e c;omega
  ·simp at c;subst c;simp
 ·rw[iE,List.nodup_append];refine⟨h.nodup,by simp, ?_⟩;intro x E y q;simp at q;subst q;obtain⟨e,c,rfl⟩:=dt.1 E;exact G e c
theorem HI{kc:α->ay}{vc:β->ay}{a c:List (α×β×Nat)}{k:α}{v:β}{b:Nat}(g:MapEntry->MapEntry)(u:β)(q:g (me kc vc (k,v,b))=me kc vc (k,u,b)):
  (((a++(k,v,b)::c).map (me kc vc)).toArray.modify a.length g)=((a++(k,u,b)::c).map (me kc vc)).toArray:=by
 apply nG;rw[Array.toList_modify];simp only[iE,hW];apply List.ext_getElem?;intro i;rw[List.getElem?_modify];by_cases hi:a.length=i
 ·subst hi;simp[q]
 ·simp only[hi,if_false,id_map'];rcases Nat.lt_or_gt_of_ne hi with h|h
  ·rw[rE (by simp;omega),rE (by simp;omega)];have:i-(a.map (me kc vc)).length=(i-a.length-1)+1:=by simp;omega
   rw[this];simp
  ·rw[oT (by simpa using h),oT (by simpa using h)]
def mS(P:bU)(t c et:cK)(d:TypeDesc):Prop:=P.underlying t=some (.map c et)/\P.underlying c=some d
theorem QY{d:TypeDesc}{t H et:cK}(u:P.underlying t=some (.map H et))(h:P.underlying H=some d){k z:ay}(E:MapKept.IsKey d k)(I:∀w,(zeroValue et).run P w= .ok z w){w:ak}{r:Nat}{q:Array MapEntry}{c:Nat}
  (G:w.heap[r]? =some (.map q c)){a:Option (Nat×ay)}(y:Instr.findNow d k q.toList 0=some a):
  (dJ t (.map (some r)) k true).run P w= .ok (.tuple #[(a.map (·.2)).getD z, .bool a.isSome]) w/\(dJ t (.map (some r)) k false).run P w= .ok ((a.map (·.2)).getD z) w:=by
 cases a with
 |none=>constructor<;>simp[dJ,iN u,MapKept.run_getObj_map G,MapKept.run_checkKey h E,MapKept.run_findKey h y,iV,I]
 |some x=>obtain⟨i,v⟩:=x;constructor<;>simp[dJ,iN u,MapKept.run_getObj_map G,MapKept.run_checkKey h E,MapKept.run_findKey h y,iV]
theorem ac9{d:TypeDesc}{t x et:cK}(y:P.underlying t=some (.map x et))(q:P.underlying x=some d){k v:ay}(G:MapKept.IsKey d k){w:ak}{r:Nat}{h:Array MapEntry}{c:Nat}
  (u:w.heap[r]? =some (.map h c))(E:Instr.findNow d k h.toList 0=some none):
  (fF t (.map (some r)) k v).run P w= .ok () {w with heap:=w.heap.setIfInBounds r (.map (h.push ⟨k,v,c⟩) (c+1))}:=by
 simp[fF,iN y,MapKept.run_getObj_map u,MapKept.run_checkKey q G,MapKept.run_findKey q E,MapKept.run_setObj_map _ u,iV]
theorem HJ{d:TypeDesc}{t E et:cK}(G:P.underlying t=some (.map E et))(u:P.underlying E=some d){k v v0:ay}(x:MapKept.IsKey d k){w:ak}{r i:Nat}{h:Array MapEntry}{c:Nat}
  (y:w.heap[r]? =some (.map h c))(I:Instr.findNow d k h.toList 0=some (some (i,v0))){e:MapEntry}(H:h[i]? =some e)(q:e.key=k):
  (fF t (.map (some r)) k v).run P w= .ok () {w with heap:=w.heap.setIfInBounds r (.map (h.modify i λ e=>{e with key:=k,val:=v}) c)}:=by
 subst q;simp[fF,iN G,MapKept.run_getObj_map y,MapKept.run_checkKey u x,MapKept.run_findKey u I,H,MapKept.run_keyThatStays x,MapKept.run_setObj_map _ y,iV]
theorem ac_{kc:α->ay}{vc:β->ay}(l:List (α×β×Nat))(k:α)(v:β)(c:Nat):(l.map (me kc vc)).toArray.push ⟨kc k,vc v,c⟩=((l++[(k,v,c)]).map (me kc vc)).toArray:=by
 simp[me]
theorem HK{kc:α->ay}{vc:β->ay}(a c:List (α×β×Nat))(x:α×β×Nat):((a++x::c).map (me kc vc)).toArray[a.length]? =some (me kc vc x):=by
 simp
theorem uw(kc:α->ay)(vc:β->ay)(t:cK)(w:ak):(iM t none).run P w= .ok (.map (some w.heap.size)) (w.alloc (.map #[] 0))/\dY kc vc (w.alloc (.map #[] 0)) w.heap.size (λ _=>none):=by
 refine⟨by simp[iM],[],0,⟨heap_alloc_new w _,by simp,by simp,by simp⟩,by intro k v;simp⟩
theorem ac'(kc:α->ay)(vc:β->ay){t h et:cK}(c:P.underlying t=some (.map h et))(w:ak)(k:IntKind)(n:Int):(iM t (some (.int k n))).run P w= .ok (.map (some w.heap.size)) (w.alloc (.map #[] 0))/\dY kc vc (w.alloc (.map #[] 0)) w.heap.size (λ _=>none):=by
 refine⟨by simp[iM,iN c,asInt,asIntOf],[],0,⟨heap_alloc_new w _,by simp,by simp,by simp⟩,by intro k v;simp⟩
theorem pg{kc:α->ay}{vc:β->ay}{d:TypeDesc}{t I et:cK}(q:mS P t I et d)(u:oe d kc){z:ay}(G:∀w,(zeroValue et).run P w= .ok z w){w:ak}{r:Nat}{f:α->Option β}(h:dY kc vc w r f)(k:α):
  (dJ t (.map (some r)) (kc k) true).run P w= .ok (.tuple #[((f k).map vc).getD z, .bool (f k).isSome]) w/\(dJ t (.map (some r)) (kc k) false).run P w= .ok (((f k).map vc).getD z) w:=by
 obtain⟨l,c,x,E⟩:=h;rcases Cl l x.nodup k with⟨a,v,b,J,rfl,H,K⟩|y
 ·rw[ac6 E];exact QY q.1 q.2 (u.key k) G x.obj (Ck u a 0 H)
 ·rw[QX E y];exact QY q.1 q.2 (u.key k) G x.obj (QW u l 0 y)
theorem sn{kc:α->ay}{vc:β->ay}{d:TypeDesc}{t N et:cK}(y:mS P t N et d)(E:oe d kc){w:ak}{r:Nat}{f:α->Option β}(h:dY kc vc w r f)(k:α)(v:β):
  ∃w',(fF t (.map (some r)) (kc k) (vc v)).run P w= .ok () w'/\dY kc vc w' r (cU f k v)/\Fr (λ b _=>b=r) w w':=by
 obtain⟨l,c,q,J⟩:=h;rcases Cl l q.nodup k with⟨a,v0,b,H,rfl,I,K⟩|G
 ·have x:=HJ (v:=vc v) y.1 y.2 (E.key k) q.obj (Ck E a 0 I) (by rw[Nat.zero_add];exact HK a H _) rfl;rw[Nat.zero_add,HI (kc:=kc) (vc:=vc) (a:=a) (c:=H) (k:=k) (v:=v0) (b:=b) (λ e=>{e with key:=kc k,val:=vc v}) v rfl] at x;exact⟨_,x,⟨_,_,q.HH (u:=v),HG J I K⟩,yg q.obj⟩
 ·have x:=ac9 (v:=vc v) y.1 y.2 (E.key k) q.obj (QW E l 0 G);rw[ac_] at x;exact⟨_,x,⟨_,_,q.ac8 (k:=k) (u:=v) G,ac7 J G⟩,yg q.obj⟩
theorem Cm{kc:α->ay}{vc:β->ay}{t ty:cK}{I et:cK}(E:P.underlying t=some (.map I et)){w:ak}{r:Nat}{f:α->Option β}(h:dY kc vc w r f):
  ∃ks:List α,ks.Nodup/\(∀k,k∈ks↔(f k).isSome)/\(Builtin.len_ #[t] ty #[.map (some r)]).run P w= .ok (.int .i64 (ks.length:Int)) w:=by
 obtain⟨l,c,q,x⟩:=h;refine⟨l.map (·.1),q.nodup, ?_, ?_⟩
 ·intro k;constructor
  ·intro u;obtain⟨⟨H,v,b⟩,y,rfl⟩:=dt.1 u;simp[(x H v).2 ⟨b,y⟩]
  ·intro u;obtain⟨v,G⟩:=Option.isSome_iff_exists.1 u;obtain⟨b,q⟩:=(x k v).1 G;exact dt.2 ⟨_,q,rfl⟩
 ·simp[Builtin.len_,iN E,MapKept.run_getObj_map q.obj,iV,goInt]
def gK(kc:α->ay)(vc:β->ay)(w:ak)(it r:Nat)(f:α->Option β)(rest:List α):Prop:=
 ∃l clock seen,kH kc vc w r l clock/\oh l f/\w.heap[it]? =some (.mapIter (some r) clock seen clock)/\rest=(l.filter λ e=>!seen.contains e.2.2).map (·.1)
def ph(kc:α->ay)(vc:β->ay)(w:ak)(it r:Nat)(f:α->Option β)(rest:List α)(k:α):Prop:=
 ∃l clock seen b v,kH kc vc w r l clock/\oh l f/\w.heap[it]? =some (.mapIter (some r) clock seen clock)/\rest=(l.filter λ e=>!seen.contains e.2.2).map (·.1)/\seen.back? =some b/\(k,v,b)∈l
theorem ph.it{kc:α->ay}{vc:β->ay}{w:ak}{it r:Nat}{f:α->Option β}{rest:List α}{k:α}(h:ph kc vc w it r f rest k):gK kc vc w it r f rest:=by
 obtain⟨l,c,seen,b,v,q,u,x,y,_⟩:=h;exact⟨l,c,seen,q,u,x,y⟩
theorem gK.fr{S:Nat->Nat->Prop}{kc:α->ay}{vc:β->ay}{w w':ak}{it r:Nat}{f:α->Option β}{rest:List α}(h:gK kc vc w it r f rest)(u:Fr S w w')(p q:Nat)(H:¬S r p)(hi:¬S it q):gK kc vc w' it r f rest:=by
 obtain⟨l,c,seen,x,y,E,G⟩:=h;exact⟨l,c,seen,x.fr u p H,y,u.obj E (by intros;simp) q hi,G⟩
theorem gK.nodup{kc:α->ay}{vc:β->ay}{w:ak}{it r:Nat}{f:α->Option β}{rest:List α}(h:gK kc vc w it r f rest):rest.Nodup:=by
 obtain⟨l,c,seen,q,u,x,rfl⟩:=h;exact List.Nodup.sublist (List.Sublist.map _ List.filter_sublist) q.nodup
theorem gK.ada{kc:α->ay}{vc:β->ay}{w:ak}{it r:Nat}{f:α->Option β}{rest:List α}(h:gK kc vc w it r f rest){k:α}(x:k∈rest):∃v,f k=some v:=by
 obtain⟨l,c,seen,E,q,G,rfl⟩:=h;obtain⟨⟨y,v,b⟩,u,rfl⟩:=dt.1 x;exact⟨v,(q y v).2 ⟨b,(oN.1 u).1⟩⟩
theorem yh{kc:α->ay}{vc:β->ay}{t H et:cK}(I:P.underlying t=some (.map H et)){w:ak}{r:Nat}{f:α->Option β}(h:dY kc vc w r f):
  ∃ks w',(Instr.range t (.map (some r))).run P w= .ok (.pointer (some ⟨w.heap.size,0,none⟩)) w'/\gK kc vc w' w.heap.size r f ks/\ks.Nodup/\(∀k,k∈ks↔(f k).isSome)/\aS w w'/\w'.heap.size=w.heap.size+1:=by
 obtain⟨l,c,q,G⟩:=h;have u:gK kc vc (w.alloc (.mapIter (some r) c #[] c)) w.heap.size r f (l.map (·.1)):=
  ⟨l,c,#[],q.fr (bA w _) 0 (λ x=>x),G,heap_alloc_new w _,by simp[List.filter_eq_self.2]⟩
 refine⟨l.map (·.1),_,run_range_map w t H et r _ c I q.obj,u,q.nodup, ?_,bA w _,by simp⟩;intro k;constructor
 ·intro y;obtain⟨v,E⟩:=u.ada y;simp[E]
 ·intro y;obtain⟨v,E⟩:=Option.isSome_iff_exists.1 y;obtain⟨b,q⟩:=(G k v).1 E;exact dt.2 ⟨_,q,rfl⟩
theorem yi{kc:α->ay}{vc:β->ay}{ty:cK}{w:ak}{it r:Nat}{f:α->Option β}{rest:List α}(h:gK kc vc w it r f rest):
  (rest=[]/\(Instr.next (.pointer (some ⟨it,0,none⟩)) false ty).run P w= .ok (nR false dU dU) w)\/
  ∃k v a b w',rest=a++k::b/\f k=some v/\(Instr.next (.pointer (some ⟨it,0,none⟩)) false ty).run P w= .ok (nR true (kc k) (vc v)) w'/\ph kc vc w' it r f (a++b) k/\Fr (λ b _=>b=it) w w':=by
 obtain⟨l,c,seen,H,hs,hi,rfl⟩:=h;have eY:it≠r:=by
  intro e;subst e;rw[H.obj] at hi;cases hi
 have N:=next_test_false seen (l.map (me kc vc)).toArray c c (by
  intro x J;simp at J;obtain⟨k,v,b,G,rfl⟩:=J;exact H.lt _ G) (bB _)
 have W:((l.map (me kc vc)).toArray.filter λ e=>!seen.contains e.born)=((l.filter λ e=>!seen.contains e.2.2).map (me kc vc)).toArray:=by
  rw[List.filter_toArray,List.filter_map];rfl
 have hold:((l.filter λ e=>!seen.contains e.2.2).map (me kc vc)).toArray.filter (λ e=>decide (e.born<c))=((l.filter λ e=>!seen.contains e.2.2).map (me kc vc)).toArray:=by
  rw[Array.filter_eq_self];intro x J;simp only[List.mem_toArray,dt] at J;obtain⟨e,G,rfl⟩:=J;have:=H.lt e (oN.1 G).1;simp only[me];exact decide_eq_true this
 have Cn:((l.filter λ e=>!seen.contains e.2.2).map (me kc vc)).toArray.filter (λ e=>decide (e.born>=c))=#[]:=by
  rw[Array.filter_eq_empty_iff];intro x J;simp only[List.mem_toArray,dt] at J;obtain⟨e,G,rfl⟩:=J;have:=H.lt e (oN.1 G).1;simp[me];omega
 simp only[Instr.next,getObj,nH,Sem.run,hi,H.obj,iV,N,Bool.false_eq_true,if_false,W,hold,Cn,Array.append_empty];generalize hL:(l.filter λ e=>!seen.contains e.2.2)=L;have Co:∀e∈L,e∈l/\seen.contains e.2.2=false:=by
  intro e G;rw[<-hL] at G;have:=oN.1 G;exact⟨this.1,by simpa using this.2⟩
 cases L with
 |nil=>
  left;refine⟨rfl, ?_⟩;simp[choose,Sem.run,Question.forced,nR]
 |cons u q=>
  right;have ade:((u::q).map (me kc vc)).toArray.isEmpty=false:=by simp[Array.isEmpty]
  simp only[ade,Bool.false_eq_true,if_false,Array.empty_append,Array.size_map];have Cp:∃(j:Nat) (I:ak),j<(u::q).length/\I.heap=w.heap/\I.os=w.os/\I.tape=w.tape/\I.output=w.output/\(choose (Question.mapNext ((u::q).map (me kc vc)).toArray.size)).run P w= .ok j I:=by
   by_cases hf:((u::q).map (me kc vc)).toArray.size<=1
   ·exact⟨0,w,by simp,rfl,rfl,rfl,rfl,by simp only[choose,Sem.run,Question.forced,decide_eq_true_eq,hf,if_true]⟩
   ·refine⟨_,w.drew, ?_,rfl,rfl,rfl,rfl,by
     simp only[choose,Sem.run,Question.forced,decide_eq_true_eq,hf,if_false,Question.cut];rfl⟩
    have:(u::q).length=((u::q).map (me kc vc)).toArray.size:=by simp
    rw[this];exact Nat.mod_lt _ (by simp)
  obtain⟨j,I,hj,X,ho,htp,aqX,aqI⟩:=Cp;have hk:((u::q).map (me kc vc)).toArray[j]? =some (me kc vc (u::q)[j]):=by
   simp only[List.getElem?_toArray,List.getElem?_map,gH hj,Option.map_some]
  have E:I.heap[it]? =some (.mapIter (some r) c seen c):=by rw[X];exact hi
  generalize G:(u::q)[j]=e at hk;obtain⟨k,v,b⟩:=e;have Z:(k,v,b)∈(u::q):=by rw[<-G];exact iy hj
  have U:=(Co _ Z).1;refine⟨k,v,((u::q).take j).map (·.1),((u::q).drop (j+1)).map (·.1),{I with heap:=I.heap.setIfInBounds it (.mapIter (some r) c (seen.push b) c)}, ?_,(hs k v).2 ⟨b,U⟩, ?_, ?_, ?_⟩
  ·have R:(u::q)=(u::q).take j++(k,v,b)::(u::q).drop (j+1):=by
    rw[<-G,<-gS hj,kC]
   conv=>lhs;rw[R]
   simp
  ·simp only[aqI,Array.getElem?_map,hk,Option.map_some,nH,setObj,Sem.run,E,iV];rfl
  ·refine⟨l,c,seen.push b,b,v,⟨?_,H.uv,H.lt,H.nodup⟩,hs,(MapKept.heap_set E).1, ?_,by simp,U⟩
   ·rw[(MapKept.heap_set E).2 r (λ e=>eY e.symm),X];exact H.obj
   ·rw[<-iE];congr 1;have h2:(l.filter λ e=>!(seen.push b).contains e.2.2)=(u::q).filter λ e=>!(e.2.2==b):=by
     rw[<-hL,List.filter_filter];apply List.filter_congr;intro e _;simp only[Array.contains_push];cases seen.contains e.2.2<;>cases Q:(e.2.2==b)<;>simp
    have y:((u::q).map (·.2.2)).Pairwise (·<·):=by
     rw[<-hL];exact List.Pairwise.sublist (List.Sublist.map _ List.filter_sublist) H.uv
    rw[h2];have R:(u::q)=(u::q).take j++(k,v,b)::(u::q).drop (j+1):=by
     rw[<-G,<-gS hj,kC]
    generalize (u::q).take j=A at R⊢;generalize (u::q).drop (j+1)=B at R⊢;rw[R] at y⊢;rw[iE,hW,List.pairwise_append,iF] at y;rw[List.filter_append,List.filter_cons];simp only[beq_self_eq_true,Bool.not_true,Bool.false_eq_true,if_false];have hA:A.filter (λ e=>!(e.2.2==b))=A:=by
     rw[List.filter_eq_self];intro e K;have:=y.2.2 e.2.2 (dt.2 ⟨e,K,rfl⟩) b (by simp);simp;exact Nat.ne_of_lt this
    have hB:B.filter (λ e=>!(e.2.2==b))=B:=by
     rw[List.filter_eq_self];intro e K;have:=y.2.1.1 e.2.2 (dt.2 ⟨e,K,rfl⟩);simp;exact Nat.ne_of_gt this
    rw[hA,hB]
  ·have Q:=yg (w:=I) (o':= .mapIter (some r) c (seen.push b) c) E;refine⟨Q.os.trans ho,Q.tape.trans htp,Q.output.trans aqX,by simpa[X] using Q.size,λ b' o gD yj=> ?_⟩;rw[Q.cell b' o (by rw[X];exact gD) yj];unfold view;rw[X]
theorem yk{kc:α->ay}{vc:β->ay}{w:ak}{it r:Nat}{f:α->Option β}{rest:List α}{k:α}(h:ph kc vc w it r f rest k):
  ∃v,f k=some v/\(Instr.entry (.pointer (some ⟨it,0,none⟩))).run P w= .ok (.tuple #[kc k,vc v]) w:=by
 obtain⟨l,c,seen,b,v,x,G,hi,_,u,q⟩:=h;refine⟨v,(G k v).2 ⟨b,q⟩, ?_⟩;have y:(l.map (me kc vc)).toArray.find? (·.born==b)=some (me kc vc (k,v,b)):=by
  rw[List.find?_toArray];have E:((l.map (me kc vc)).map (·.born)).Nodup:=by
   rw[List.map_map];exact x.uv.imp (λ h=>Nat.ne_of_lt h)
  exact find_born (me kc vc (k,v,b)) _ E (dt.2 ⟨_,q,rfl⟩)
 simp only[Instr.entry,getObj,nH,Sem.run,hi,x.obj,iV,u,bne_self_eq_false,Bool.false_eq_true,if_false,y];rfl
end
structure gW{α:Type}(P:bU)(t e:cK)(enc:α->List ay)(z fA:Nat)(c:List ay):Prop where
 ty:nV P t e z fA c
 len:∀x,(enc x).length=z
 one:∀x,∀u∈enc x,u.oneCell'=true
theorem gW.QZ{α:Type}{P:bU}{t e:cK}{enc:α->List ay}{z fA:Nat}{r:List ay}(h:gW P t e enc z fA r)(l:List α):∀u∈l.flatMap enc,u.oneCell'=true:=by
 intro u c;obtain⟨x,_,q⟩:=jJ.1 c;exact h.one x u q
abbrev cP{α:Type}(enc:α->List ay)(z:Nat)(w:ak)(v:ay)(l:List α):Prop:=Own w z v l.length (l.flatMap enc)
theorem oi{α:Type}{P:bU}{t e:cK}{enc:α->List ay}{z fA:Nat}{U:List ay}(y:gW P t e enc z fA U){w:ak}{v x:ay}{l m:List α}{K:OA->Nat->Nat->ak->Prop}(h:cP enc z w v l)(Q:Sl enc z w x m)
  (J:(l.length+m.length)*fA<=140737488355328)(G:l.length+m.length<=4611686018427387904)
  (I:∀p c w',cP enc z w' (aa p (l.length+m.length) c) (l++m)->Fr (λ b o=>aN v=some b/\l.length*z<=o) w w'->(aN (aa p (l.length+m.length) c)=aN v\/∃g,aN (aa p (l.length+m.length) c)=some g/\w.heap.size<=g)->K p (l.length+m.length) c w'):
  aP P (cM #[t,t] t #[v,x]) w λ r R=>az (ax r) λ p n c=>K p n c R:=by
 have q:=aX.src (P:=P) (tx:=t) (d:=e) y.ty.1 Q (y.QZ m);obtain⟨v',w',N,u,H,E⟩:=Own.append (ty:=t) y.ty h q J G;obtain⟨p,c,rfl,_⟩:=u.ex;refine⟨_,w',N,_,_,_,rfl,I _ _ _ ?_ H E⟩;show Own _ _ _ (l++m).length _;rw[aY,jK];exact u
theorem HL{α:Type}{P:bU}{t e:cK}{enc:α->List ay}{z fA:Nat}{zs:List ay}(H:gW P t e enc z fA zs){w:ak}{v G:ay}{l:List α}{x:α}{K:OA->Nat->Nat->ak->Prop}
  (N:(bw t 1 #[(0,G)]).run P w= .ok (aa (some ⟨w.heap.size,0,none⟩) 1 1) (w.alloc (.cells ⟨enc x⟩ e)))(h:cP enc z w v l)
  (U:(l.length+1)*fA<=140737488355328)(y:l.length+1<=4611686018427387904)
  (R:∀p c w',cP enc z w' (aa p (l.length+1) c) (l++[x])->Fr (λ b o=>aN v=some b/\l.length*z<=o) w w'->(aN (aa p (l.length+1) c)=aN v\/∃g,aN (aa p (l.length+1) c)=some g/\w.heap.size<=g)->K p (l.length+1) c w'):
  aP P (bw t 1 #[(0,G)]) w λ r w1=>az (ax r) λ sP Z X=>aP P (cM #[t,t] t #[v,aa sP Z X]) w1 λ r2 w2=>az (ax r2) λ p n c=>K p n c w2:=by
 refine⟨_,_,N,_,_,_,rfl, ?_⟩;have q:=bA w (.cells ⟨enc x⟩ e);have W:Sl enc z (w.alloc (.cells ⟨enc x⟩ e)) (aa (some ⟨w.heap.size,0,none⟩) 1 1) [x]:=by
  show aX _ _ _ 1 _;rw[show [x].flatMap enc=enc x by simp];exact aX.new w z (enc x) e 1 1 (by rw[H.len];omega) (bB _)
 refine oi H (h.aH q) W U y (λ p c w' I J u=>R p c w' I ?_ ?_)
 ·exact(Fr.mono q (λ _ _ _ x=>x.elim)).step J (λ _ _ h _=>h)
 ·rcases u with u|⟨g,Q,E⟩
  ·exact .inl u
  ·exact .inr ⟨g,Q,eX q.size E⟩
theorem aX.away{S:Nat->Nat->Prop}{w w':ak}{z n:Nat}{v:ay}{vs:List ay}(h:aX w z v n vs)(r:Fr S w w')(q:∀g,aN v=some g->∀o,¬S g o):aX w' z v n vs:=
 h.fr r (λ a l c e o _ _=>q a.block (by rw[e];rfl) o)
def pj{α:Type}(enc:α->List ay)(z:Nat)(base:Nat)(w:ak)(v:ay)(l:List α):Prop:=cP enc z w v l/\∀g,aN v=some g->base<=g
theorem pj.sl{α:Type}{enc:α->List ay}{z base:Nat}{w:ak}{v:ay}{l:List α}(h:pj enc z base w v l):Sl enc z w v l:=h.1.cV
theorem pj.aH{α:Type}{enc:α->List ay}{z base:Nat}{w w':ak}{v:ay}{l:List α}(h:pj enc z base w v l)(c:aS w w'):pj enc z base w' v l:=⟨h.1.aH c,h.2⟩
theorem pj.nil{α:Type}(enc:α->List ay)(z base:Nat)(w:ak):pj enc z base w (aa none 0 0) []:=⟨Own.nil w z,λ g h=>by cases h⟩
theorem wrap_u8(x:Int):aq aG x=x % 256:=rfl
theorem wrap_u32(x:Int):aq aL x=x % 4294967296:=rfl
theorem wrap_u64(x:Int):aq aj x=x % 18446744073709551616:=rfl
theorem wrap_i64(x:Int):aq af x=if x % 18446744073709551616>=9223372036854775808 then x % 18446744073709551616-18446744073709551616 else x % 18446744073709551616:=by
 have h:aq af x=if(true&&decide (x % 18446744073709551616>=9223372036854775808))=true then x % 18446744073709551616-18446744073709551616 else x % 18446744073709551616:=rfl
 rw[h];simp only[Bool.true_and,decide_eq_true_eq]
theorem bk{x:Int}(c: -9223372036854775808<=x)(h:x<9223372036854775808):aq af x=x:=by
 rw[wrap_i64];split<;>omega
theorem dV{x:Int}(c:0<=x)(h:x<18446744073709551616):aq aj x=x:=by rw[wrap_u64];omega
theorem iY{x:Int}(c:0<=x)(h:x<4294967296):aq aL x=x:=by rw[wrap_u32];omega
theorem adg{x:Int}(c:0<=x)(h:x<256):aq aG x=x:=by rw[wrap_u8];omega
theorem HM(k:IntKind)(x:Int)(n:Nat)(h:n<=k.bits):cZ k x n=x/2^n:=by
 unfold cZ;rw[fH,Nat.min_eq_left h];exact Int.fdiv_eq_ediv_of_nonneg _ (Int.le_of_lt (by exact_mod_cast Nat.two_pow_pos n))
theorem Q0(x:Int):cZ aj x 7=x/128:=HM aj x 7 (by decide)
theorem adh(n:Nat)(h:n<256):bE aG (n:Int) 128=((n % 128+128:Nat):Int):=by
 have:=(by decide+kernel:∀m:Fin 256,bE aG ((m.val:Nat):Int) 128=((m.val % 128+128:Nat):Int)) ⟨n,h⟩;exact this
theorem adi(n:Nat)(h:n<18446744073709551616):gC aj (aq8 aj) (n:Int)=((18446744073709551615-n:Nat):Int):=by
 have e:gC aj (aq8 aj) (n:Int)=aq aj (((BitVec.allOnes 64^^^lY 64 n).toNat:Nat):Int):=by kernel_rfl
 rw[e,BitVec.allOnes_xor,BitVec.toNat_not,mI,lC (by omega),wrap_u64];omega
theorem Q3(a b s:Nat)(h:a<2^s):a|||b*2^s=a+b*2^s:=by
 have:=Nat.shiftLeft_add_eq_or_of_lt h b;rw[Nat.shiftLeft_eq] at this;rw[Nat.or_comm,<-this,Nat.add_comm]
theorem HN(a b s:Nat)(h:a<2^s)(r:a+b*2^s<4294967296)(q:s<=32:=by omega):bE aL (a:Int) (bu aL (b:Int) (s:Int))=((a+b*2^s:Nat):Int):=by
 have c:bu aL (b:Int) (s:Int)=((b*2^s:Nat):Int):=by
  unfold bu;rw[fH,Nat.min_eq_left (by exact q)];have:((b:Int)*2^s)=((b*2^s:Nat):Int):=by simp
  rw[this];exact iY (by omega) (by omega)
 have e:bE aL (a:Int) ((b*2^s:Nat):Int)=aq aL (((lY 32 a|||lY 32 (b*2^s)).toNat:Nat):Int):=by kernel_rfl
 rw[c,e,BitVec.toNat_or,mI,mI,lC (by omega),lC (by omega),Q3 a b s h];exact iY (by omega) (by omega)
theorem HO(a b s:Nat)(h:a<2^s)(r:a+b*2^s<18446744073709551616)(q:s<=64:=by omega):bE aj (a:Int) (bu aj (b:Int) (s:Int))=((a+b*2^s:Nat):Int):=by
 have c:bu aj (b:Int) (s:Int)=((b*2^s:Nat):Int):=by
  unfold bu;rw[fH,Nat.min_eq_left (by exact q)];have:((b:Int)*2^s)=((b*2^s:Nat):Int):=by simp
  rw[this];exact dV (by omega) (by omega)
 have e:bE aj (a:Int) ((b*2^s:Nat):Int)=aq aj (((lY 64 a|||lY 64 (b*2^s)).toNat:Nat):Int):=by kernel_rfl
 rw[c,e,BitVec.toNat_or,mI,mI,lC (by omega),lC (by omega),Q3 a b s h];exact dV (by omega) (by omega)
def bm(n:Nat):List UInt8:=
 if h:n<128 then [gw n] else gw (n % 128+128)::bm (n/128)
termination_by n
decreasing_by omega
theorem Cq{n:Nat}(h:n<128):bm n=[gw n]:=by rw[bm];simp[h]
theorem Cr{n:Nat}(h:¬n<128):bm n=gw (n % 128+128)::bm (n/128):=by rw[bm];simp[h]
theorem jB(n:Nat):0<(bm n).length:=by rw[bm];split<;>simp
theorem fw:∀(k n:Nat),n<2^(7*k)->0<k->(bm n).length<=k:=by
 intro k;induction k with
 |zero=>intro n _ h;exact absurd h (Nat.lt_irrefl _)
 |succ k u=>
  intro n h _;by_cases c:n<128
  ·rw[Cq c];simp
  ·rw[Cr c,dH];have e:2^(7*(k+1))=2^(7*k)*128:=by rw[Nat.mul_add,Nat.pow_add]
   have q:n/128<2^(7*k):=by rw[e] at h;exact Nat.div_lt_of_lt_mul (by omega)
   have r:0<k:=by
    cases k with
    |zero=>simp at h;omega
    |succ k=>omega
   have:=u (n/128) q r;omega
def be(k:Nat)(n:Nat):List UInt8:=(lZ k).map λ i=>gw (n/256^(k-1-i))
theorem cH(k n:Nat):(be k n).length=k:=by simp[be]
theorem HP(n:Nat):be 4 n=[gw (n/16777216),gw (n/65536),gw (n/256),gw n]:=by
 simp[be,List.range_succ]
theorem Q4(n:Nat):be 8 n=[gw (n/72057594037927936),gw (n/281474976710656),gw (n/1099511627776),gw (n/4294967296),gw (n/16777216),gw (n/65536),gw (n/256),gw n]:=by
 simp[be,List.range_succ]
theorem yl(n:Nat):((gw n).toNat:Int)=(n:Int) % 256:=by
 simp[UInt8.toNat_ofNat']
end Go.V
namespace Go.Proofs
open Go Go.V
theorem qH:nV ag 26 5 1 1 [ah aG 0]:=
 ⟨by kernel_rfl,by kernel_rfl,rfl,by decide⟩
def cD(l:List UInt8):List ay:=l.flatMap fK
theorem pk(a b:List UInt8):cD (a++b)=cD a++cD b:=by simp[cD]
theorem js(l:List UInt8):(cD l).length=l.length:=by rw[cD,kF (z:=1) (λ _=>rfl)];omega
abbrev Fa(a:kd)(n:Nat)(w w':ak):Prop:=Fr (λ b o=>b=a.block/\a.off<=o/\o<a.off+n) w w'
theorem HQ{a:kd}{cs:List ay}{n:Nat}{w:ak}(Z:Ob w a cs)(hl:cs.length=10)(X:n<18446744073709551616):
  au ag 155 #[aa (some a) 10 10,ah aj (n:Int)] w λ v w'=>
   v=ah af ((bm n).length:Int)/\Ob w' a (cD (bm n)++cs.drop (bm n).length)/\(bm n).length<=10/\Fa a 10 w w':=by
 apply Za;unfold Ny;refine Y' (λ q c y x i w'=>q=some a/\c=10/\∃(m j:Nat) (done:List UInt8),x=(m:Int)/\i=(j:Int)/\done.length=j/\j<=9/\m<2^(64-7*j)/\bm n=done++bm m/\Ob w' a (cD done++cs.drop j)/\Fa a 10 w w') (λ _ _ _ x _ _=>x.toNat) ?_ ?_
 ·exact⟨rfl,rfl,n,0,[],rfl,rfl,rfl,by omega,by simpa using X,rfl,by simpa[cD] using Z,Fr.refl _ w⟩
 ·rintro q c y x i I ⟨rfl,rfl,m,j,done,rfl,rfl,hd,hj,N,H,r,U⟩;unfold FR;have K:(cD done++cs.drop j).length=10:=by
   rw[aY,js,hY];omega
  have G:∀b:UInt8,(cD done++cs.drop j).set j (ah aG (b.toNat:Int))=cD (done++[b])++cs.drop (j+1):=by
   intro b;rw[pk];have u:(cD done).length=j:=by rw[js,hd]
   rw[List.set_append_right _ _ (by omega),u,Nat.sub_self];have Q:cs.drop j=cs[j]'(by omega)::cs.drop (j+1):=gS (by omega);rw[Q,oU];simp[cD,fK]
  have step:∀b:UInt8,Ob (I.setCell (a.add j) (ah aG (b.toNat:Int))) a (cD (done++[b])++cs.drop (j+1))/\Fa a 10 w (I.setCell (a.add j) (ah aG (b.toNat:Int))):=by
   intro b;have u:=r.set j (by omega) (ah aG (b.toNat:Int));rw[G] at u;refine⟨u,U.step (Fr.set I (a.add j) _) ?_⟩;intro b o h _;rw[cT,fJ] at h;omega
  by_cases J:m<128
  ·refine aT (by simp;omega) ?_;refine⟨⟨by omega,by omega⟩,⟨trivial,by simpa using r.can j (by omega)⟩, ?_⟩;have e:(aq aG (m:Int))=((gw m).toNat:Int):=by rw[yl,wrap_u8]
   rw[e];have E:=step (gw m);rw[Cq J] at H;rw[H];refine⟨?_, ?_, ?_, ?_⟩
   ·rw[bk (by omega) (by omega)];simp[hd]
   ·have:=E.1;simp only[mH,fH,aY,List.length_singleton,hd] at this⊢;exact this
   ·simp;omega
   ·have:=E.2;simpa using this
  ·refine cJ (by simp;omega) ?_;refine⟨⟨by omega,by omega⟩,⟨trivial,by simpa using r.can j (by omega)⟩, ?_⟩;have e:bE aG (aq aG (m:Int)) 128=((gw (m % 128+128)).toNat:Int):=by
    have u:aq aG (m:Int)=((m % 256:Nat):Int):=by rw[wrap_u8];omega
    rw[u,adh _ (by omega),yl];omega
   rw[e];have E:=step (gw (m % 128+128));have W:j<=8:=by
    by_cases R:j=9
    ·subst R;simp at N;omega
    ·omega
   refine⟨⟨rfl,rfl,m/128,j+1,done++[gw (m % 128+128)], ?_, ?_,by simp[hd],by omega, ?_, ?_, ?_, ?_⟩, ?_⟩
   ·rw[Q0];omega
   ·rw[bk (by omega) (by omega)];omega
   ·have:2^(64-7*j)=2^(64-7*(j+1))*128:=by
     rw[show 64-7*j=64-7*(j+1)+7 by omega,Nat.pow_add]
    rw[this] at N;exact Nat.div_lt_of_lt_mul (by omega)
   ·rw[H,Cr J];simp
   ·simpa using E.1
   ·simpa using E.2
   ·rw[Q0];simp;omega
def dA(w:ak)(e:kd)(v:ay)(l:List UInt8):Prop:=
 e.spot=none/\(∃cs,Ob w e (v::cs)/\cs.length=10/\∀c∈cs,∃n,c=ah aG n)/\Own w 1 v l.length (cD l)/\aN v≠some e.block/\l.length<=1073741824
def pn(e:kd)(v:ay):Nat->Nat->Prop:=λ b o=>(b=e.block/\e.off<=o/\o<e.off+11)\/aN v=some b
def fe(w:ak)(e:kd)(v:ay)(w':ak)(l':List UInt8):Prop:=
 ∃v',dA w' e v' l'/\Fr (pn e v) w w'/\(aN v'=aN v\/∃g,aN v'=some g/\w.heap.size<=g)
theorem fe.trans{w y G:ak}{e:kd}{v v1:ay}{l1 l2:List UInt8}(K:dA y e v1 l1)(E:Fr (pn e v) w y)(r:aN v1=aN v\/∃g,aN v1=some g/\w.heap.size<=g)
  (H:fe y e v1 G l2):fe w e v G l2:=by
 obtain⟨v2,I,u,c⟩:=H;refine⟨v2,I,E.step u ?_, ?_⟩
 ·rintro b o (h|h) J
  ·exact .inl h
  ·rcases r with r|⟨g,x,q⟩
   ·exact .inr (r▸h)
   ·rw[x] at h;cases h;omega
 ·rcases c with c|⟨g,x,q⟩
  ·rw[c];exact r
  ·exact .inr ⟨g,x,eX E.size q⟩
theorem dA.aH{w w':ak}{e:kd}{v:ay}{l:List UInt8}(h:dA w e v l)(r:aS w w'):dA w' e v l:=by
 obtain⟨y,⟨cs,x,u,hi⟩,E,c,q⟩:=h;exact⟨y,⟨cs,x.aH r,u,hi⟩,E.aH r,c,q⟩
theorem fe.pre{w u y:ak}{e:kd}{v:ay}{l:List UInt8}(r:aS w u)(h:fe u e v y l):fe w e v y l:=by
 obtain⟨v',E,G,c⟩:=h;refine⟨v',E,(Fr.mono r (λ _ _ _ x=>x.elim)).step G (λ _ _ h _=>h), ?_⟩;rcases c with c|⟨g,H,q⟩
 ·exact .inl c
 ·exact .inr ⟨g,H,eX r.size q⟩
theorem HR{w:ak}{e:kd}{v x:ay}{l m:List UInt8}{tx ty:cK}{K:ak->Prop}(h:dA w e v l)(hx:Src w ag tx 1 x m.length (cD m))(X:l.length+m.length<=1073741824)
  (U:∀w',fe w e v w' (l++m)->K w'):
  aP ag (cM #[26,tx] ty #[v,x]) w λ r w1=>az (ax r) λ p n c=>wr w1 e (aa p n c) λ w2=>K w2:=by
 obtain⟨hs,⟨cs,N,R,hi⟩,hv,y,lJ⟩:=h;obtain⟨v',w',hr,G,J,q⟩:=Own.append (tx:=tx) (ty:=ty) qH hv hx (by omega) (by omega);refine⟨v',w',hr, ?_⟩;obtain⟨p,c,rfl,Z⟩:=G.ex;have W:e.block<w.heap.size:=N.lt (by simp);have E:Ob w' e (v::cs):=N.fr J (λ o _ _ h=>y h.1);refine⟨p,_,c,rfl,⟨trivial,by simpa using E.can 0 (by simp)⟩,U _ ⟨aa p (l.length+m.length) c,⟨hs,⟨cs, ?_,R,hi⟩, ?_, ?_,by simpa using X⟩, ?_,q⟩⟩
 ·have:=E.set 0 (by simp) (aa p (l.length+m.length) c);simpa using this
 ·have Q:=G.fr (Fr.set w' e (aa p (l.length+m.length) c)) (by
   intro b u o h;obtain⟨rfl,_⟩:=h;rcases q with q|⟨g,H,I⟩
   ·exact y (q▸u)
   ·rw[H] at u;cases u;omega)
  rw[aY,pk];exact Q
 ·intro h;rcases q with q|⟨g,H,I⟩
  ·exact y (q▸h)
  ·rw[H] at h;cases h;omega
 ·refine(J.mono (λ b o _ h=> .inr h.1)).step (Fr.set w' e _) ?_;rintro b o ⟨rfl,rfl⟩ _;exact .inl ⟨rfl,bB _,by omega⟩
theorem dA.at{w:ak}{e:kd}{v:ay}{l:List UInt8}(h:dA w e v l):at_ w e v:=by
 obtain⟨r,⟨cs,c,q,hi⟩,_⟩:=h;simpa using c.at 0 (v:=v) rfl
theorem dA.sl{w:ak}{e:kd}{v:ay}{l:List UInt8}(h:dA w e v l):∃p c,v=aa p l.length c:=by
 obtain⟨p,c,h,_⟩:=h.2.2.1.ex;exact⟨p,c,h⟩
theorem Q5(l:List UInt8):∀u∈cD l,u.oneCell'=true:=by
 intro u c;simp only[cD,jJ,fK,oO] at c;obtain⟨b,_,rfl⟩:=c;rfl
theorem cz.src{w:ak}{v:ay}{l:List UInt8}(h:cz w v l):Src w ag 26 1 v l.length (cD l):=
 aX.src (d:=5) (by kernel_rfl) h (Q5 l)
theorem k72{w:ak}{e:kd}{v:ay}{l:List UInt8}{c:UInt8}(h:dA w e v l)(u:l.length+1<=1073741824):
  au ag 72 #[an (some e),ah aG (c.toNat:Int)] w λ _ w'=>fe w e v w' (l++[c]):=by
 apply YV;unfold v72;obtain⟨p,y,rfl⟩:=h.sl;refine⟨_,_,_,h.at, ?_⟩;have r:(bw 26 1 #[(0,ah aG (c.toNat:Int))]).run ag w= .ok (aa (some ⟨w.heap.size,0,none⟩) 1 1) (w.alloc (.cells ⟨[ah aG (c.toNat:Int)]⟩ 5)):=by
  kernel_rfl
 refine⟨_,_,r,_,_,_,rfl, ?_⟩;have q:=bA w (.cells ⟨[ah aG (c.toNat:Int)]⟩ 5);refine HR (m:=[c]) (h.aH q) (cz.src (aX.new w 1 [ah aG (c.toNat:Int)] 5 1 1 rfl (bB _))) u (λ w' x=>fe.pre q x)
theorem adl{w:ak}{a:kd}{cs:List ay}(h:Ob w a cs){n:Nat}{l:List UInt8}(r:cs.take n=cD l)(x:l.length=n)(y:cs.length=10)(c:n<=10):cz w (aa (some a) n 10) l:=by
 subst x;refine⟨_,_,rfl,c,by rw[kF (z:=1) (λ _=>rfl)],λ j u q=>⟨a,rfl,h.1,h.at j ?_⟩⟩;have:(cs.take l.length)[j]? =some u:=by rw[r];exact q
 rw[List.getElem?_take] at this;split at this
 ·exact this
 ·cases this
theorem dA.tail{w:ak}{e:kd}{v:ay}{l:List UInt8}(h:dA w e v l):∃cs,Ob w (e.add 1) cs/\cs.length=10/\(∀c∈cs,∃n,c=ah aG n)/\
  ∀w' q,Ob w' (e.add 1) q->q.length=10->(∀c∈q,∃n,c=ah aG n)->Fa (e.add 1) 10 w w'->dA w' e v l:=by
 obtain⟨x,⟨cs,N,U,hi⟩,W,r,K⟩:=h;refine⟨cs,⟨rT _ _ x,λ i u y=> ?_⟩,U,hi,λ w' q J G I H=>⟨x,⟨q,⟨x,λ i u y=> ?_⟩,G,I⟩, ?_,r,K⟩⟩
 ·rw[add_add _ _ _ x,Nat.add_comm];exact N.2 (i+1) u (by simpa using y)
 ·cases i with
  |zero=>
   have Q:v=u:=by simpa using y
   subst Q;have E:=N.2 0 v rfl;rw[add_zero] at E⊢;exact⟨H.at E.1 (by simp;omega),H.can E.2 e.off (by simp;omega)⟩
  |succ i=>
   have:=J.2 i u (by simpa using y);rw[add_add _ _ _ x,Nat.add_comm] at this;exact this
 ·exact W.fr H (λ b R o h=>r (by rw[R,h.1,cT]))
theorem Cs{w E:ak}{e:kd}{v:ay}{l m:List UInt8}{rest:List ay}{K:ak->Prop}(h:dA w e v l)(I:dA E e v l)(N:Fa (e.add 1) 10 w E)(U:Ob E (e.add 1) (cD m++rest))(J:(cD m++rest).length=10)
  (R:l.length+m.length<=1073741824)(Q:∀w',fe w e v w' (l++m)->K w'):
  bb ag (dw 147 (an (some (e.add 1))) none (some (ah af (m.length:Int))) none) λ H=>az (ax H) λ y x u=>
   aP ag (cM #[26,26] 26 #[v,aa y x u]) E.drew λ r w2=>az (ax r) λ p n c=>wr w2 e (aa p n c) λ w3=>K w3:=by
 have q:m.length<=10:=by rw[aY,js] at J;omega
 refine⟨_,λ w=>wi (e:=5) (n:=10) (by kernel_rfl) (z:=1) (by kernel_rfl) _ 0 m.length (dO _) q none _ (.inl ⟨rfl,rfl⟩) (.inr ⟨_,rfl⟩) w,_,_,_,rfl, ?_⟩;have W:cz E.drew (aa (some (e.add 1)) m.length 10) m:=(adl U (by rw[List.take_append_of_le_length (by rw[js];omega),<-js m,fY]) rfl J q).aH (cu _);have hd:=I.aH (cu _);have Z:=cz.src W;refine HR hd Z R (λ w' X=>Q w' ?_);have G:=fe.pre (cu _) X;refine fe.trans I (N.mono ?_) (.inl rfl) G;intro b o _ h;rw[cT,fJ] at h;exact .inl ⟨h.1,by omega,by omega⟩
theorem mf{w:ak}{e:kd}{v:ay}{l:List UInt8}{n:Nat}(h:dA w e v l)(I:n<18446744073709551616)(R:l.length+10<=1073741824):
  au ag 81 #[an (some e),ah aj (n:Int)] w λ _ w'=>fe w e v w' (l++bm n):=by
 apply Y1;unfold No;obtain⟨cs,J,q,hi,r⟩:=h.tail;obtain⟨p,H,rfl⟩:=h.sl;refine⟨_,λ w=>wi (e:=5) (n:=10) (by kernel_rfl) (z:=1) (by kernel_rfl) _ 0 10 (dO _) (bB _) none _ (.inl ⟨rfl,rfl⟩) (.inl ⟨rfl,rfl⟩) w,_,_,_,rfl, ?_⟩;refine aF (HQ J q I) ?_;rintro _ N ⟨rfl,x,Q,G⟩;have u:(cD (bm n)++cs.drop (bm n).length).length=10:=by rw[aY,js,hY];omega
 have y:∀c∈cD (bm n)++cs.drop (bm n).length,∃n,c=ah aG n:=by
  intro c q;rcases mG.1 q with q|q
  ·simp only[cD,jJ,fK,oO] at q;obtain⟨b,_,rfl⟩:=q;exact⟨_,rfl⟩
  ·exact hi c (List.mem_of_mem_drop q)
 have E:=r N _ x u y G;refine⟨_,rfl,p,_,H,(E.aH (cu _)).at, ?_⟩;exact Cs h E G x u (by omega) (λ w' K=>K)
theorem HS(l:List UInt8)(cs:List ay)(n:Nat)(hi:∀c∈cs,∃n,c=ah aG n):∀c∈cD l++cs.drop n,∃n,c=ah aG n:=by
 intro c h;rcases mG.1 h with h|h
 ·simp only[cD,jJ,fK,oO] at h;obtain⟨b,_,rfl⟩:=h;exact⟨_,rfl⟩
 ·exact hi c (List.mem_of_mem_drop h)
def eO(x:Int):Nat:=if x<0 then(-2*x-1).toNat else(2*x).toNat
theorem adm(x:Int)(h:x<0)(q: -9223372036854775808<=x):gC aj (aq8 aj) (bu aj (aq aj x) 1)=(eO x:Int):=by
 have c:min (1:Int).toNat (IntKind.bits aj)=1:=by decide
 have e:bu aj (aq aj x) 1=(((2*x) % 18446744073709551616).toNat:Int):=by
  unfold bu;rw[wrap_u64,wrap_u64,c];omega
 rw[e,adi _ (by omega)];unfold eO;rw[if_pos h];omega
theorem adn(x:Int)(h:¬x<0)(c:x<9223372036854775808):bu aj (aq aj x) 1=(eO x:Int):=by
 unfold bu eO;rw[wrap_u64,if_neg h,wrap_u64];have:min (1:Int).toNat (IntKind.bits aj)=1:=by decide
 rw[this];omega
theorem ado{a:kd}{cs:List ay}{x:Int}{w:ak}(q:Ob w a cs)(c:cs.length=10)(u: -9223372036854775808<=x)(y:x<9223372036854775808):
  au ag 156 #[aa (some a) 10 10,ah af x] w λ v w'=>
   v=ah af ((bm (eO x)).length:Int)/\Ob w' a (cD (bm (eO x))++cs.drop (bm (eO x)).length)/\(bm (eO x)).length<=10/\Fa a 10 w w':=by
 apply Zb;unfold Nz;have r:eO x<18446744073709551616:=by unfold eO;split<;>omega
 refine bn (λ h=> ?_) (λ h=> ?_)
 ·rw[adm x (by simpa using h) u];unfold wZ;refine aF (HQ q c r) ?_;rintro _ w' ⟨rfl,h⟩;exact⟨_,rfl,rfl,h⟩
 ·rw[adn x (by simpa using h) y];unfold wZ;refine aF (HQ q c r) ?_;rintro _ w' ⟨rfl,h⟩;exact⟨_,rfl,rfl,h⟩
theorem Q6{w:ak}{e:kd}{v:ay}{l:List UInt8}{x:Int}(h:dA w e v l)(G: -9223372036854775808<=x)(H:x<9223372036854775808)(R:l.length+10<=1073741824):
  au ag 82 #[an (some e),ah af x] w λ _ w'=>fe w e v w' (l++bm (eO x)):=by
 apply Y2;unfold Np;obtain⟨cs,J,I,hi,c⟩:=h.tail;obtain⟨p,E,rfl⟩:=h.sl;refine⟨_,λ w=>wi (e:=5) (n:=10) (by kernel_rfl) (z:=1) (by kernel_rfl) _ 0 10 (dO _) (bB _) none _ (.inl ⟨rfl,rfl⟩) (.inl ⟨rfl,rfl⟩) w,_,_,_,rfl, ?_⟩;refine aF (ado J I G H) ?_;rintro _ N ⟨rfl,r,Q,y⟩;have q:(cD (bm (eO x))++cs.drop (bm (eO x)).length).length=10:=by rw[aY,js,hY];omega
 have u:=c N _ r q (HS _ _ _ hi) y;refine⟨_,rfl,p,_,E,(u.aH (cu _)).at, ?_⟩;exact Cs h u y r q (by omega) (λ w' K=>K)
theorem oj{w:ak}{e:kd}{v:ay}{l:List UInt8}{n:Nat}(h:dA w e v l)(q:n<9223372036854775808)(c:l.length+10<=1073741824):
  au ag 79 #[an (some e),ah af (n:Int)] w λ _ w'=>fe w e v w' (l++bm n):=by
 apply YZ;unfold Nn;rw[dV (by omega) (by omega)];exact aF (mf h (by omega) c) (λ _ _ h=>h)
theorem Q7{w:ak}{e:kd}{v:ay}{l:List UInt8}{n:Nat}(h:dA w e v l)(q:n<4294967296)(c:l.length+10<=1073741824):
  au ag 80 #[an (some e),ah aL (n:Int)] w λ _ w'=>fe w e v w' (l++bm n):=by
 apply Y0;unfold v80;rw[dV (by omega) (by omega)];exact aF (mf h (by omega) c) (λ _ _ h=>h)
theorem k85{w:ak}{e:kd}{v:ay}{l:List UInt8}{s:ByteArray}(h:dA w e v l)(c:l.length+s.size<=1073741824):
  au ag 85 #[an (some e),aC s] w λ _ w'=>fe w e v w' (l++s.data.toList):=by
 apply Y4;unfold v85;obtain⟨p,r,rfl⟩:=h.sl;refine⟨_,_,_,h.at, ?_⟩;exact HR (m:=s.data.toList) h (XF (tx:=9) (by kernel_rfl) w s) c (λ w' q=>q)
def b8(s:List UInt8):List UInt8:=bm s.length++s
theorem ux{w:ak}{e:kd}{v:ay}{l:List UInt8}{s:ByteArray}(h:dA w e v l)(y:l.length+s.size+10<=1073741824):
  au ag 83 #[an (some e),aC s] w λ _ w'=>fe w e v w' (l++b8 s.data.toList):=by
 apply Y3;unfold Nq;refine aF (oj h (n:=s.size) (by omega) (by omega)) ?_;rintro _ E ⟨v1,c,u,r⟩;have x:(l++bm s.size).length<=l.length+10:=by
  rw[aY];have:=fw 10 s.size (by omega) (by omega);omega
 refine aF (k85 c (by omega)) ?_;intro _ G q;have:=fe.trans c u r q;rw[dx] at this;exact this
theorem iZ{w:ak}{e:kd}{v:ay}{l:List UInt8}(h:dA w e v l):
  au ag 126 #[an (some e)] w λ _ w'=>fe w e v w' []:=by
 apply Y6;unfold Ns;obtain⟨R,⟨cs,u,K,hi⟩,G,q,U⟩:=h;obtain⟨p,c,rfl,N⟩:=G.ex;refine⟨_,_,_,by simpa using u.at 0 rfl, ?_⟩;refine⟨_,λ w=>gV (e:=5) (by kernel_rfl) (z:=1) (by kernel_rfl) _ _ c 0 0 (bB _) (dO _) none _ (.inl ⟨rfl,rfl⟩) (.inr ⟨_,rfl⟩) w,_,_,_,rfl, ?_⟩;have Q:C4 p 0 c 1=p:=by
  unfold C4;split
  ·rfl
  ·cases p<;>simp
 rw[Q,nJ];refine⟨⟨trivial,by simpa using u.can 0 (by simp)⟩,⟨aa p 0 c,⟨R,⟨cs, ?_,K,hi⟩, ?_, ?_,by simp⟩, ?_, ?_⟩⟩
 ·have:=u.set 0 (by simp) (aa p 0 c);simpa using this
 ·have x:Own w 1 (aa p 0 c) 0 []:=by
   refine⟨by simp, ?_⟩;rcases G.2 with⟨r,y⟩|⟨g,cap,cur,H,r,y,W,I,J,X⟩
   ·simp only[Value.slice.injEq] at r;obtain⟨rfl,_,rfl⟩:=r;exact .inl ⟨rfl,rfl⟩
   ·cases r;exact .inr ⟨g,c,cur,H,rfl,y,dO _,I,J,by simp⟩
  refine x.fr (Fr.set w e _) ?_;intro b E o h;apply q;cases p with
  |none=>cases E
  |some a=>cases E;simp[aN,h.1]
 ·cases p with
  |none=>simp[aN]
  |some a=>exact q
 ·refine(Fr.set w e _).mono ?_;rintro b o _ ⟨rfl,rfl⟩;exact .inl ⟨rfl,bB _,by omega⟩
 ·cases p with
  |none=>exact .inl rfl
  |some a=>exact .inl rfl
theorem Q8{w:ak}{e:kd}{v:ay}{l:List UInt8}(h:dA w e v l):
  au ag 134 #[an (some e)] w λ r w'=>r=ah af (l.length:Int)/\w'=w:=by
 apply Y7;unfold Nt;obtain⟨p,c,rfl⟩:=h.sl;exact⟨_,_,_,h.at,rfl,rfl⟩
theorem om{w:ak}{e:kd}{v:ay}{l:List UInt8}(h:dA w e v l):
  au ag 86 #[an (some e)] w λ r w'=>r=v/\w'=w:=by
 apply Y5;unfold Nr;obtain⟨p,c,rfl⟩:=h.sl;exact⟨_,_,_,h.at,rfl,rfl⟩
end Go.Proofs
namespace Go.V
theorem Ct(a b:Nat)(c:a<4294967296)(h:b<4294967296):gC aL (a:Int) (b:Int)=((a^^^b:Nat):Int):=by
 have e:gC aL (a:Int) (b:Int)=aq aL (((lY 32 a^^^lY 32 b).toNat:Nat):Int):=by kernel_rfl
 rw[e,BitVec.toNat_xor,mI,mI,lC c,lC h];have:a^^^b<4294967296:=Nat.xor_lt_two_pow (n:=32) c h;exact iY (by omega) (by omega)
theorem adq(a b:Nat)(c:a<4294967296)(h:b<4294967296):bR aL (a:Int) (b:Int)=((a&&&b:Nat):Int):=by
 have e:bR aL (a:Int) (b:Int)=aq aL (((lY 32 a&&&lY 32 b).toNat:Nat):Int):=by kernel_rfl
 rw[e,BitVec.toNat_and,mI,mI,lC c,lC h];have:a&&&b<4294967296:=Nat.lt_of_le_of_lt Nat.and_le_left c;exact iY (by omega) (by omega)
theorem Q9:aq8 aL=((4294967295:Nat):Int):=rfl
def qI(c:Nat):Nat:=if c % 2=1 then c/2^^^2197175160 else c/2
def uy:Nat->Nat->Nat
 |0,c=>c
 |k+1,c=>uy k (qI c)
def Cu(c:Nat)(b:UInt8):Nat:=uy 8 (c^^^b.toNat)
def so(c:Nat)(l:List UInt8):Nat:=l.foldl Cu c
def cI(c:Nat)(l:List UInt8):Nat:=4294967295^^^so (4294967295^^^c) l
theorem HT{c:Nat}(h:c<4294967296):qI c<4294967296:=by
 unfold qI;split
 ·exact Nat.xor_lt_two_pow (n:=32) (by omega) (by omega)
 ·omega
theorem adr:∀(k c:Nat),c<4294967296->uy k c<4294967296:=by
 intro k;induction k with
 |zero=>intro c h;exact h
 |succ k q=>intro c h;exact q _ (HT h)
theorem ads{c:Nat}(b:UInt8)(h:c<4294967296):Cu c b<4294967296:=by
 have:=b.toNat_lt;exact adr 8 _ (Nat.xor_lt_two_pow (n:=32) h (by omega))
theorem adt:∀(l:List UInt8) {c:Nat},c<4294967296->so c l<4294967296:=by
 intro l;induction l with
 |nil=>intro c h;exact h
 |cons b l q=>intro c h;exact q (ads b h)
theorem uz(l:List UInt8){c:Nat}(h:c<4294967296):cI c l<4294967296:=
 Nat.xor_lt_two_pow (n:=32) (by omega) (adt l (Nat.xor_lt_two_pow (n:=32) (by omega) h))
theorem adu(c:Nat)(a b:List UInt8):cI (cI c a) b=cI c (a++b):=by
 unfold cI so;rw[<-Nat.xor_assoc,Nat.xor_self,Nat.zero_xor,List.foldl_append]
end Go.V
namespace Go.Proofs
open Go Go.V
def lK(w:ak)(t:kd):Prop:=at_ w t (ah aL 2197175160)
theorem Q_{w:ak}{c:Nat}{t:kd}{x:ay}{l:List UInt8}(hc:c<4294967296)(ht:lK w t)(hx:cz w x l)(hl:l.length<=1073741824):
  au ag 215 #[ah aL (c:Int),an (some t),x] w λ r w'=>r=ah aL (cI c l:Int)/\w'=w:=by
 obtain⟨p,cp,rfl,hcp⟩:=aX.ex hx;apply ZI;unfold NX;have hm:gC aL (aq8 aL) (c:Int)=((4294967295^^^c:Nat):Int):=by rw[Q9];exact Ct _ _ (by omega) hc
 have W:4294967295^^^c<4294967296:=Nat.xor_lt_two_pow (n:=32) (by omega) hc;refine ZH (λ crc t' pP pL pC y u w'=>t'=some t/\p=pP/\pL=l.length/\cp=pC/\y=(l.length:Int)/\w=w'/\∃(k:Nat) (m:Nat),u=(k:Int)/\k<=l.length/\crc=(m:Int)/\m<4294967296/\m=so (4294967295^^^c) (l.take k)) (λ _ _ _ _ _ y u _=>(y-u).toNat) ?_ ?_
 ·exact⟨rfl,rfl,rfl,rfl,rfl,rfl,0,_,rfl,by omega,hm,W,by simp[so]⟩
 ·rintro crc _ _ _ _ _ u _ ⟨rfl,rfl,rfl,rfl,rfl,rfl,k,m,rfl,hk,rfl,H,K⟩;unfold FY;refine bn (λ h=> ?_) (λ h=> ?_)
  ·have G:k<l.length:=by simpa using h
   refine Sl.ix (enc:=fK) (z:=1) (λ _=>rfl) (by omega) hx (by omega) (by omega) (λ a hs ha=> ?_);have hb:=ha 0 _ rfl;simp only[fH,add_zero] at hb;refine⟨_,hb, ?_⟩;dsimp only;have jN:=(l[k]).toNat_lt;have e1:gC aL (m:Int) (aq aL ((l[k]).toNat:Int))=((m^^^(l[k]).toNat:Nat):Int):=by
    rw[iY (by omega) (by omega)];exact Ct _ _ H (by omega)
   have Z:m^^^(l[k]).toNat<4294967296:=Nat.xor_lt_two_pow (n:=32) H (by omega);rw[e1];refine ZG (λ crc t' pP pL pC y u E w'=>t'=some t/\p=pP/\pL=l.length/\cp=pC/\y=(l.length:Int)/\u=(k:Int)/\w=w'/\∃(j:Nat) (q:Nat),E=(j:Int)/\j<=8/\crc=(q:Int)/\q<4294967296/\uy (8-j) q=Cu m l[k]) (λ _ _ _ _ _ _ _ E _=>(8-E).toNat) ?_ ?_
   ·exact⟨rfl,rfl,rfl,rfl,rfl,rfl,rfl,0,_,rfl,by omega,rfl,Z,rfl⟩
   ·rintro crc _ _ _ _ _ _ E _ ⟨rfl,rfl,rfl,rfl,rfl,rfl,rfl,j,q,rfl,hj,rfl,R,I⟩;unfold FX;refine bn (λ h=> ?_) (λ h=> ?_)
    ·have J:j<8:=by simp at h;omega
     have e2:uy (8-j) q=uy (8-(j+1)) (qI q):=by
      rw[show 8-j=(8-(j+1))+1 by omega];rfl
     have e3:bR aL (q:Int) 1=((q % 2:Nat):Int):=by
      have:=adq q 1 R (by omega);rw[Nat.and_one_is_mod] at this;exact this
     have e4:cZ aL (q:Int) 1=((q/2:Nat):Int):=by
      have:=HM aL (q:Int) 1 (by decide);rw[show((1:Nat):Int)=1 from rfl] at this;rw[this];omega
     have Q:aq af ((j:Int)+1)=((j+1:Nat):Int):=by rw[bk (by omega) (by omega)];omega
     rw[e3,e4];refine bn (λ h=> ?_) (λ h=> ?_)
     ·have N:q % 2=1:=by simp at h;omega
      refine⟨_,ht, ?_⟩;dsimp only;have U:=Ct (q/2) 2197175160 (by omega) (by omega);unfold xh;rw[Q];refine⟨⟨rfl,rfl,rfl,rfl,rfl,rfl,rfl,j+1,qI q,rfl,by omega, ?_,HT R, ?_⟩,by omega⟩
      ·unfold qI;rw[if_pos N];exact U
      ·rw[<-e2];exact I
     ·have X:¬q % 2=1:=by simp at h;omega
      unfold xh;rw[Q];refine⟨⟨rfl,rfl,rfl,rfl,rfl,rfl,rfl,j+1,qI q,rfl,by omega, ?_,HT R, ?_⟩,by omega⟩
      ·unfold qI;rw[if_neg X]
      ·rw[<-e2];exact I
    ·have J:j=8:=by simp at h;omega
     subst J;have Q:aq af ((k:Int)+1)=((k+1:Nat):Int):=by rw[bk (by omega) (by omega)];omega
     rw[Q];refine⟨⟨rfl,rfl,rfl,rfl,rfl,rfl,k+1,q,rfl,by omega,rfl,R, ?_⟩,by omega⟩;have U:q=Cu m l[k]:=I;rw[U,K,jm G,so,so,List.foldl_append];rfl
  ·have G:k=l.length:=by simp at h;omega
   subst G;refine⟨?_,rfl⟩;rw[Q9,Ct _ _ (by omega) H,K,fY];rfl
theorem Q'{w:ak}{t:kd}{x:ay}{l:List UInt8}(y:lK w t)(h:cz w x l)(u:l.length<=1073741824):
  au ag 170 #[x,an (some t)] w λ r w'=>r=ah aL (cI 0 l:Int)/\w'=w:=by
 obtain⟨p,E,rfl,q⟩:=aX.ex h;apply ZE;unfold NU;refine aF (Q_ (c:=0) (by omega) y h u) ?_;rintro _ _ ⟨rfl,rfl⟩;exact⟨_,rfl,rfl,rfl⟩
theorem sq{w:ak}:au ag 102 #[] w λ r w'=>∃t:kd,r=an (some t)/\w.heap.size<=t.block/\t.spot=none/\lK w' t/\aS w w':=by
 apply ZN;unfold N';apply ZF;unfold v171;exact⟨_,rfl,_,rfl,bB _,rfl,tM rfl,bA _ _⟩
def fL(w:ak)(d t:kd)(l:List UInt8):Prop:=Ob w d [ah aL (cI 0 l:Int),an (some t)]/\lK w t/\t.block≠d.block/\d.spot=none
theorem fL.fr{S:Nat->Nat->Prop}{w w':ak}{d t:kd}{l:List UInt8}(h:fL w d t l)(c:Fr S w w')(q:∀o,¬S d.block o)(r:¬S t.block t.off):fL w' d t l:=
 ⟨h.1.fr c (λ o _ _=>q o),c.at h.2.1 r,h.2.2⟩
theorem fL.aH{w w':ak}{d t:kd}{l:List UInt8}(h:fL w d t l)(c:aS w w'):fL w' d t l:=h.fr c (λ _ x=>x) (λ x=>x)
theorem adw:cI 0 []=0:=by decide
theorem adx{w:ak}:au ag 229 #[] w λ r w'=>∃d t:kd,r=cG 420 (an (some d))/\w.heap.size<=d.block/\w.heap.size<=t.block/\fL w' d t []/\aS w w':=by
 apply ZO;unfold v229;refine aF sq ?_;rintro _ u ⟨t,rfl,h,x,c,q⟩;refine⟨_,rfl, ?_⟩;apply ZJ;unfold NY;have y:=iH c;refine⟨_,rfl,_,t,rfl,q.size,h,⟨Ob.new u [ah aL 0,an (some t)] 422,(bA _ _).at c, ?_,rfl⟩,q.trans (bA _ _)⟩;show t.block≠u.heap.size;omega
theorem Ra{w:ak}{d t:kd}{l:List UInt8}(h:fL w d t l):au ag 370 #[an (some d)] w λ _ w'=>fL w' d t []/\Fa d 1 w w':=by
 apply ZK;unfold NZ;obtain⟨q,u,c,r⟩:=h;refine⟨⟨trivial,by simpa using q.can 0 (by simp)⟩,⟨?_,(Fr.set w d _).at u (λ x=>c x.1),c,r⟩,(Fr.set w d _).mono ?_⟩
 ·have:=q.set 0 (by simp) (ah aL 0);simpa[adw] using this
 ·rintro b o _ ⟨rfl,rfl⟩;exact⟨rfl,bB _,by omega⟩
theorem ady{w:ak}{d t:kd}{l m:List UInt8}{x:ay}(h:fL w d t l)(y:cz w x m)(G:m.length<=1073741824):
  au ag 374 #[an (some d),x] w λ r w'=>r=aZ #[ah af (m.length:Int),aA]/\fL w' d t (l++m)/\Fa d 1 w w':=by
 obtain⟨p,I,rfl,E⟩:=aX.ex y;apply ZM;unfold N_;obtain⟨q,u,c,H⟩:=h.aH (cu w);refine⟨_,by simpa using q.at 0 rfl,_,q.at 1 rfl, ?_⟩;refine aF (Q_ (uz l (by omega)) u (Sl.aH y (cu w)) G) ?_;rintro _ _ ⟨rfl,rfl⟩;refine⟨_,rfl,⟨trivial,by simpa using q.can 0 (by simp)⟩,rfl,⟨?_,(Fr.set w.drew d _).at u (λ x=>c x.1),c,H⟩, ?_⟩
 ·have:=q.set 0 (by simp) (ah aL (cI 0 (l++m):Int));rw[adu];simpa using this
 ·refine Fr.step (Fr.mono (cu w) (λ _ _ _ x=>x.elim)) (Fr.set w.drew d _) ?_;rintro b o ⟨rfl,rfl⟩ _;exact⟨rfl,bB _,by omega⟩
theorem jO(x:Int)(n:Nat)(h:x=(n:Int)):ah aG (aq aG x)=ah aG ((gw n).toNat:Int):=by
 rw[yl,wrap_u8,h]
theorem kT(k:IntKind)(n s:Nat)(h:s<=k.bits):cZ k (n:Int) (s:Int)=((n/2^s:Nat):Int):=by
 rw[HM k _ s h];simp
theorem dB{w w0:ak}{a:kd}{cs:List ay}{m:Nat}(h:Ob w a cs)(r:Fa a m w0 w)(i:Nat)(hi:i<cs.length)(y:i<m)(v:ay)(x:gj v){K:ak->Prop}
  (u:∀w',Ob w' a (cs.set i v)->Fa a m w0 w'->K w'):wr w (a.add i) v K:=by
 refine⟨⟨x,h.can i hi⟩,u _ (h.set i hi v) (r.step (Fr.set w _ v) ?_)⟩;rintro b o ⟨c,q⟩ _;rw[cT] at c;rw[fJ] at q;exact⟨c,by omega,by omega⟩
theorem kj{a:kd}{n:Nat}{i:Int}{K:kd->Prop}(c:0<=i)(h:i<n)(q:K (a.add i.toNat)):aU (some a) n i 1 K:=by
 refine⟨⟨c,h⟩, ?_⟩;show K _;rw[mH];exact q
theorem adz{w:ak}{a:kd}{cs:List ay}{n:Nat}(I:Ob w a cs)(R:cs.length=10)(hi:∀c∈cs,∃n,c=ah aG n)(X:n<4294967296):
  au ag 151 #[aV #[],aa (some a) 10 10,ah aL (n:Int)] w λ _ w'=>Ob w' a (cD (be 4 n)++cs.drop 4)/\Fa a 10 w w':=by
 apply Y9;unfold Nv
 match cs,R,I,hi with
 |[c0,c1,c2,c3,c4,W,c6,c7,c8,c9],_,I,hi=>
 obtain⟨U,Q⟩:=hi c3 (by simp);subst Q;have h:=bA w (.cells #[] 179);have q:=I.aH h;have u:Fa a 10 w (w.alloc (.cells #[] 179)):=Fr.mono h (λ _ _ _ x=>x.elim);show aU _ _ _ _ _;refine kj (by decide) (by decide) ⟨U,q.at 3 rfl, ?_⟩;refine kj (by decide) (by decide) (dB q u 0 (by simp) (by omega) _ (by trivial) (λ Z J y=> ?_));refine kj (by decide) (by decide) (dB J y 1 (by simp) (by omega) _ (by trivial) (λ w3 K E=> ?_));refine kj (by decide) (by decide) (dB K E 2 (by simp) (by omega) _ (by trivial) (λ w4 N G=> ?_));refine kj (by decide) (by decide) (dB N G 3 (by simp) (by omega) _ (by trivial) (λ w5 r H=>⟨?_,H⟩));rw[jO (cZ aL (n:Int) 24) (n/16777216) (kT aL n 24 (by decide)),jO (cZ aL (n:Int) 16) (n/65536) (kT aL n 16 (by decide)),jO (cZ aL (n:Int) 8) (n/256) (kT aL n 8 (by decide)),jO (n:Int) n rfl] at r;rw[HP];exact r
theorem adA{w:ak}{a:kd}{cs:List ay}{n:Nat}(Q:Ob w a cs)(hl:cs.length=10)(hi:∀c∈cs,∃n,c=ah aG n)(hn:n<18446744073709551616):
  au ag 152 #[aV #[],aa (some a) 10 10,ah aj (n:Int)] w λ _ w'=>Ob w' a (cD (be 8 n)++cs.drop 8)/\Fa a 10 w w':=by
 apply Y_;unfold v152
 match cs,hl,Q,hi with
 |[c0,c1,c2,c3,c4,c5,c6,c7,c8,c9],_,Q,hi=>
 obtain⟨m7,h7⟩:=hi c7 (by simp);subst h7;have h:=bA w (.cells #[] 179);have q:=Q.aH h;have u:Fa a 10 w (w.alloc (.cells #[] 179)):=Fr.mono h (λ _ _ _ x=>x.elim);show aU _ _ _ _ _;refine kj (by decide) (by decide) ⟨m7,q.at 7 rfl, ?_⟩;refine kj (by decide) (by decide) (dB q u 0 (by simp) (by omega) _ (by trivial) (λ w2 R y=> ?_));refine kj (by decide) (by decide) (dB R y 1 (by simp) (by omega) _ (by trivial) (λ w3 U E=> ?_));refine kj (by decide) (by decide) (dB U E 2 (by simp) (by omega) _ (by trivial) (λ w4 W G=> ?_));refine kj (by decide) (by decide) (dB W G 3 (by simp) (by omega) _ (by trivial) (λ w5 X H=> ?_));refine kj (by decide) (by decide) (dB X H 4 (by simp) (by omega) _ (by trivial) (λ w6 Z I=> ?_));refine kj (by decide) (by decide) (dB Z I 5 (by simp) (by omega) _ (by trivial) (λ w7 pw J=> ?_));refine kj (by decide) (by decide) (dB pw J 6 (by simp) (by omega) _ (by trivial) (λ w8 mV K=> ?_));refine kj (by decide) (by decide) (dB mV K 7 (by simp) (by omega) _ (by trivial) (λ w9 r N=>⟨?_,N⟩));rw[jO (cZ aj (n:Int) 56) (n/72057594037927936) (kT aj n 56 (by decide)),jO (cZ aj (n:Int) 48) (n/281474976710656) (kT aj n 48 (by decide)),jO (cZ aj (n:Int) 40) (n/1099511627776) (kT aj n 40 (by decide)),jO (cZ aj (n:Int) 32) (n/4294967296) (kT aj n 32 (by decide)),jO (cZ aj (n:Int) 24) (n/16777216) (kT aj n 24 (by decide)),jO (cZ aj (n:Int) 16) (n/65536) (kT aj n 16 (by decide)),jO (cZ aj (n:Int) 8) (n/256) (kT aj n 8 (by decide)),jO (n:Int) n rfl] at r;rw[Q4];exact r
theorem yn{w:ak}{e:kd}{v:ay}{l:List UInt8}{n:Nat}(h:dA w e v l)(J:n<4294967296)(R:l.length+10<=1073741824):
  au ag 73 #[an (some e),ah aL (n:Int)] w λ _ w'=>fe w e v w' (l++be 4 n):=by
 apply YW;unfold Nk;obtain⟨cs,N,H,hi,c⟩:=h.tail;obtain⟨p,y,rfl⟩:=h.sl;refine⟨_,λ w=>wi (e:=5) (n:=10) (by kernel_rfl) (z:=1) (by kernel_rfl) _ 0 10 (dO _) (bB _) none _ (.inl ⟨rfl,rfl⟩) (.inl ⟨rfl,rfl⟩) w,_,_,_,rfl, ?_⟩;refine aF (adz (N.aH (cu w)) H hi J) ?_;rintro _ G ⟨u,I⟩;have q:(cD (be 4 n)++cs.drop 4).length=10:=by rw[aY,js,cH,hY];omega
 have r:Fa (e.add 1) 10 w G:=Fr.step (Fr.mono (cu w) (λ _ _ _ x=>x.elim)) I (λ _ _ h _=>h);have E:=c G _ u q (HS _ _ _ hi) r;refine⟨p,_,y,(E.aH (cu _)).at, ?_⟩;have:=Cs (m:=be 4 n) (K:=λ w'=>fe w e (aa p l.length y) w' (l++be 4 n)) h E r u q (by rw[cH];omega) (λ w' Q=>Q);rw[cH] at this;exact this
theorem uA{w:ak}{e:kd}{v:ay}{l:List UInt8}{n:Nat}(h:dA w e v l)(J:n<18446744073709551616)(R:l.length+10<=1073741824):
  au ag 74 #[an (some e),ah aj (n:Int)] w λ _ w'=>fe w e v w' (l++be 8 n):=by
 apply YX;unfold Nl;obtain⟨cs,N,H,hi,c⟩:=h.tail;obtain⟨p,y,rfl⟩:=h.sl;refine⟨_,λ w=>wi (e:=5) (n:=10) (by kernel_rfl) (z:=1) (by kernel_rfl) _ 0 10 (dO _) (bB _) none _ (.inl ⟨rfl,rfl⟩) (.inl ⟨rfl,rfl⟩) w,_,_,_,rfl, ?_⟩;refine aF (adA (N.aH (cu w)) H hi J) ?_;rintro _ G ⟨u,I⟩;have q:(cD (be 8 n)++cs.drop 8).length=10:=by rw[aY,js,cH,hY];omega
 have r:Fa (e.add 1) 10 w G:=Fr.step (Fr.mono (cu w) (λ _ _ _ x=>x.elim)) I (λ _ _ h _=>h);have E:=c G _ u q (HS _ _ _ hi) r;refine⟨p,_,y,(E.aH (cu _)).at, ?_⟩;have:=Cs (m:=be 8 n) (K:=λ w'=>fe w e (aa p l.length y) w' (l++be 8 n)) h E r u q (by rw[cH];omega) (λ w' Q=>Q);rw[cH] at this;exact this
theorem oo{w:ak}{e:kd}{v:ay}{l:List UInt8}{n:Nat}(h:dA w e v l)(q:n<4294967296)(c:l.length+10<=1073741824):
  au ag 75 #[an (some e),ah af (n:Int)] w λ _ w'=>fe w e v w' (l++be 4 n):=by
 apply YY;unfold v75;rw[iY (by omega) (by omega)];exact aF (yn h q c) (λ _ _ h=>h)
theorem Rb{w:ak}{d:kd}{K:ay->ak->Prop}(h:au ag 370 #[an (some d)] w K):cS ag (cG 420 (an (some d))) "Reset" #[] w K:=
 ⟨370,#[an (some d)],by kernel_rfl,h⟩
theorem adB{w:ak}{d:kd}{p:OA}{l c:Nat}{K:ay->ak->Prop}(h:au ag 374 #[an (some d),aa p l c] w K):cS ag (cG 420 (an (some d))) "Write" #[aa p l c] w K:=
 ⟨374,#[an (some d),aa p l c],by kernel_rfl,h⟩
theorem adC{w:ak}{d:kd}{p:OA}{l c:Nat}{K:ay->ak->Prop}(h:au ag 372 #[an (some d),aa p l c] w K):cS ag (cG 420 (an (some d))) "Sum" #[aa p l c] w K:=
 ⟨372,#[an (some d),aa p l c],by kernel_rfl,h⟩
theorem adD{w:ak}{d t:kd}{l m:List UInt8}{x:ay}(h:fL w d t l)(K:Own w 1 x m.length (cD m))(hm:m.length<=1073741820):
  au ag 372 #[an (some d),x] w λ r w'=>Own w' 1 r (m++be 4 (cI 0 l)).length (cD (m++be 4 (cI 0 l)))/\Fr (λ b _=>aN x=some b) w w'/\(aN r=aN x\/∃g,aN r=some g/\w.heap.size<=g):=by
 obtain⟨p,cp,rfl,Q⟩:=K.ex;apply ZL;unfold N0;have N:=h.1.at 0 rfl;refine⟨_,by simpa using N, ?_⟩;have W:=uz l (c:=0) (by omega);generalize hN:cI 0 l=n at W;have u:(bw 26 4 #[(0,(ah aG (aq aG (cZ aL n 24)))),(1,(ah aG (aq aG (cZ aL n 16)))),(2,(ah aG (aq aG (cZ aL n 8)))),(3,(ah aG (aq aG n)))]).run ag w=
   .ok (aa (some ⟨w.heap.size,0,none⟩) 4 4) (w.alloc (.cells ⟨[ah aG (aq aG (cZ aL n 24)),ah aG (aq aG (cZ aL n 16)),ah aG (aq aG (cZ aL n 8)),ah aG (aq aG n)]⟩ 5)):=by kernel_rfl
 refine⟨_,_,u,_,_,_,rfl, ?_⟩;have H:=bA w (.cells ⟨[ah aG (aq aG (cZ aL n 24)),ah aG (aq aG (cZ aL n 16)),ah aG (aq aG (cZ aL n 8)),ah aG (aq aG n)]⟩ 5);have y:=aX.new w 1 [ah aG (aq aG (cZ aL n 24)),ah aG (aq aG (cZ aL n 16)),ah aG (aq aG (cZ aL n 8)),ah aG (aq aG n)] 5 4 4 rfl (bB _);have J:[ah aG (aq aG (cZ aL n 24)),ah aG (aq aG (cZ aL n 16)),ah aG (aq aG (cZ aL n 8)),ah aG (aq aG n)]=cD (be 4 n):=by
  rw[jO (cZ aL (n:Int) 24) (n/16777216) (kT aL n 24 (by decide)),jO (cZ aL (n:Int) 16) (n/65536) (kT aL n 16 (by decide)),jO (cZ aL (n:Int) 8) (n/256) (kT aL n 8 (by decide)),jO (n:Int) n rfl,HP];rfl
 rw[J] at y;have E:Src (w.alloc (.cells ⟨[ah aG (aq aG (cZ aL n 24)),ah aG (aq aG (cZ aL n 16)),ah aG (aq aG (cZ aL n 8)),ah aG (aq aG n)]⟩ 5)) ag 26 1 (aa (some ⟨w.heap.size,0,none⟩) 4 4) 4 (cD (be 4 n)):=aX.src (d:=5) (by kernel_rfl) (by rw[J];exact y) (Q5 _);obtain⟨v',w',Z,G,R,u⟩:=Own.append (ty:=26) qH (K.aH H) E (by omega) (by omega);obtain⟨q,c,rfl,X⟩:=G.ex;refine⟨_,w',Z,_,_,_,rfl, ?_, ?_, ?_⟩
 ·rw[pk,aY,cH];exact G
 ·exact Fr.step (Fr.mono H (λ _ _ _ x=>x.elim)) R (λ b o h _=>h.1)
 ·rcases u with u|⟨g,U,I⟩
  ·exact .inl u
  ·exact .inr ⟨g,U,eX H.size I⟩
theorem HU{w:ak}{e d t:kd}{v:ay}{l m:List UInt8}(h:dA w e v l)(hd:fL w d t m):
  au ag 190 #[an (some e),cG 420 (an (some d))] w λ _ w'=>fL w' d t (m++l)/\Fa d 1 w w':=by
 apply Zd;unfold NA;have c:=h.aH (cu w);obtain⟨p,u,rfl⟩:=h.sl;refine⟨_,_,_,c.at,⟨_,_,rfl,λ w=>by kernel_rfl⟩,adB ?_⟩;refine aF (ady (hd.aH (cu w)) c.2.2.1.cV c.2.2.2.2) ?_;rintro _ y ⟨rfl,q,r⟩;refine⟨_,_,rfl,_,rfl,_,rfl,⟨aQ false,λ w=>by kernel_rfl,_,rfl,aT rfl ⟨q, ?_⟩⟩⟩;exact Fr.step (Fr.mono (cu w) (λ _ _ _ x=>x.elim)) r (λ _ _ h _=>h)
theorem Rc{w:ak}{e d t:kd}{v:ay}{l m:List UInt8}(h:dA w e v l)(hd:fL w d t m)(X:l.length+4<=1073741824):
  au ag 191 #[an (some e),cG 420 (an (some d))] w λ _ w'=>fe w e v w' (l++be 4 (cI 0 m)):=by
 apply Ze;unfold NB;have I:=h.aH (cu w);obtain⟨p,cp,rfl⟩:=h.sl;refine⟨_,_,_,I.at,⟨_,_,rfl,λ w=>by kernel_rfl⟩,adC ?_⟩;refine aF (adD (hd.aH (cu w)) I.2.2.1 (by omega)) ?_;rintro r U ⟨R,N,y⟩;obtain⟨q,c,rfl,Z⟩:=R.ex;obtain⟨hs,⟨cs,Q,W,hi⟩,hv,G,lJ⟩:=I;have H:=Q.fr N (λ o _ _ h=>G h);have u:aN (aa q (l++be 4 (cI 0 m)).length c)≠some e.block:=by
  intro h;rcases y with y|⟨g,K,E⟩
  ·exact G (y▸h)
  ·rw[K] at h;cases h;have:=Q.lt (by simp);omega
 refine⟨_,_,_,rfl,⟨trivial,by simpa using H.can 0 (by simp)⟩,aa q _ c,⟨hs,⟨cs, ?_,W,hi⟩, ?_,u,by rw[aY,cH];exact X⟩, ?_, ?_⟩
 ·have:=H.set 0 (by simp) (aa q (l++be 4 (cI 0 m)).length c);simpa using this
 ·exact R.fr (Fr.set U e _) (λ b J o h=>u (by rw[J,h.1]))
 ·refine Fr.step (Fr.step (Fr.mono (cu w) (λ _ _ _ x=>x.elim)) N (λ b o h _=> .inr h)) (Fr.set U e _) ?_;rintro b o ⟨rfl,rfl⟩ _;exact .inl ⟨rfl,bB _,by omega⟩
 ·rcases y with y|⟨g,K,E⟩
  ·exact .inl y
  ·exact .inr ⟨g,K,E⟩
def Cv(e:kd)(v:ay)(d t:kd):Prop:=e.block≠d.block/\aN v≠some d.block/\e.block≠t.block/\aN v≠some t.block
theorem fL.enc{w w':ak}{e d t:kd}{v:ay}{m:List UInt8}(h:fL w d t m)(r:Fr (pn e v) w w')(c:Cv e v d t):fL w' d t m:=
 h.fr r (λ o q=>q.elim (λ x=>c.1 x.1.symm) c.2.1) (λ q=>q.elim (λ x=>c.2.2.1 x.1.symm) c.2.2.2)
theorem dA.dig{w w':ak}{e d:kd}{v:ay}{l:List UInt8}{n:Nat}(h:dA w e v l)(r:Fa d n w w')(u:e.block≠d.block)(x:aN v≠some d.block):dA w' e v l:=by
 obtain⟨H,⟨cs,G,E,hi⟩,I,c,q⟩:=h;exact⟨H,⟨cs,G.fr r (λ o _ _ h=>u h.1),E,hi⟩,I.fr r (λ b y o h=>x (by rw[y,h.1])),c,q⟩
theorem Re{w:ak}{e d t:kd}{v:ay}{l m:List UInt8}(h:dA w e v l)(hd:fL w d t m)(u:Cv e v d t)(N:l.length+4<=1073741824):
  au ag 135 #[an (some e),cG 420 (an (some d))] w λ _ w'=>
   ∃v',dA w' e v' (l++be 4 (cI 0 l))/\fL w' d t l/\Fr (λ b o=>pn e v b o\/b=d.block) w w'/\(aN v'=aN v\/∃g,aN v'=some g/\w.heap.size<=g):=by
 apply Y8;unfold Nu;refine Rb (aF (Ra hd) ?_);rintro _ Q ⟨E,q⟩;have G:=h.dig q u.1 u.2.1;refine aF (HU G E) ?_;rintro _ R ⟨c,r⟩;have I:=G.dig r u.1 u.2.1;refine aF (Rc I c N) ?_;rintro _ U ⟨v',H,x,y⟩;rw[oS] at H c;refine⟨v',H,c.enc x u, ?_, ?_⟩
 ·exact Fr.step (Fr.step (Fr.mono q (λ b o _ h=> .inr h.1)) r (λ b o h _=> .inr h.1)) x (λ b o h _=> .inl h)
 ·rcases y with y|⟨g,J,K⟩
  ·exact .inl y
  ·exact .inr ⟨g,J,by have:=q.size;have:=r.size;omega⟩
def dT(w:ak)(d:kd)(v:ay)(l:List UInt8):Prop:=Ob w d [v,aA]/\cz w v l/\aN v≠some d.block/\l.length<=1073741824
def gE(w:ak)(d:kd)(v:ay)(w':ak)(l':List UInt8):Prop:=∃v',dT w' d v' l'/\Fa d 2 w w'/\aN v'=aN v
theorem dT.fr{S:Nat->Nat->Prop}{w w':ak}{d:kd}{v:ay}{l:List UInt8}(h:dT w d v l)(q:Fr S w w')(r:∀o,¬S d.block o)(u:∀b,aN v=some b->∀o,¬S b o):dT w' d v l:=
 ⟨h.1.fr q (λ o _ _=>r o),aX.fr h.2.1 q (λ a k c x o _ _=>u a.block (by rw[x];rfl) o),h.2.2⟩
theorem dT.aH{w w':ak}{d:kd}{v:ay}{l:List UInt8}(h:dT w d v l)(c:aS w w'):dT w' d v l:=h.fr c (λ _ x=>x) (λ _ _ _ x=>x)
theorem dT.sl{w:ak}{d:kd}{v:ay}{l:List UInt8}(h:dT w d v l):∃p c,v=aa p l.length c/\l.length<=c:=aX.ex h.2.1
theorem gE.trans{w c q:ak}{d:kd}{v v1:ay}{l2:List UInt8}(G:Fa d 2 w c)(E:aN v1=aN v)(h:gE c d v1 q l2):gE w d v q l2:=by
 obtain⟨v',r,u,y⟩:=h;exact⟨v',r,G.step u (λ _ _ x _=>x),y.trans E⟩
theorem gE.pre{w c q:ak}{d:kd}{v:ay}{l2:List UInt8}(E:aS w c)(h:gE c d v q l2):gE w d v q l2:=by
 obtain⟨v',r,u,y⟩:=h;exact⟨v',r,Fr.step (Fr.mono E (λ _ _ _ x=>x.elim)) u (λ _ _ x _=>x),y⟩
theorem Rg(l:List UInt8)(n:Nat):(cD l).drop n=cD (l.drop n):=by
 have:cD l=l.map λ b=>ah aG (b.toNat:Int):=qA _ _
 have c:cD (l.drop n)=(l.drop n).map λ b=>ah aG (b.toNat:Int):=qA _ _
 rw[this,c,List.map_drop]
theorem Rh(l:List UInt8)(n:Nat):(cD l).take n=cD (l.take n):=by
 have:cD l=l.map λ b=>ah aG (b.toNat:Int):=qA _ _
 have c:cD (l.take n)=(l.take n).map λ b=>ah aG (b.toNat:Int):=qA _ _
 rw[this,c,List.map_take]
theorem qJ{w:ak}{p:OA}{len c:Nat}{l:List UInt8}(h:cz w (aa p len c) l)(lo hi:Nat)(q:lo<=hi)(r:hi<=l.length):
  cz w (aa (C4 p lo c 1) (hi-lo) (c-lo)) ((l.drop lo).take (hi-lo)):=by
 have:=aX.sub h lo hi q r;rw[mH,mH,show l.flatMap fK=cD l from rfl,Rg,Rh] at this;have u:((l.drop lo).take (hi-lo)).length=hi-lo:=by rw[fS,hY];omega
 show aX w 1 _ _ (cD _);rw[u];exact this
theorem mg(p:OA)(lo c l c2 l2 c3:Nat):aN (aa (C4 p lo c 1) l c2)=aN (aa p l2 c3):=by
 unfold C4;split
 ·cases p<;>rfl
 ·cases p with
  |none=>rfl
  |some a=>simp[aN]
theorem Cw{w:ak}{p:OA}{len c:Nat}{l:List UInt8}(h:cz w (aa p len c) l)(n:Nat)(q:n<=l.length):cz w (aa (C4 p n c 1) (l.length-n) (c-n)) (l.drop n):=by
 have:=qJ h n l.length q (bB _);rwa[lD (by rw[hY];omega)] at this
theorem su{w:ak}{d:kd}{p:OA}{len c:Nat}{l:List UInt8}{K:ak->Prop}(h:dT w d (aa p len c) l)(k:IntKind)(n:Nat)(I:n<=l.length)(Q:∀w',gE w d (aa p len c) w' (l.drop n)->K w'):
  bb ag (dw 26 (aa p len c) (some (ah k (n:Int))) none none) λ r=>az (ax r) λ R l' G=>wr w d (aa R l' G) λ w'=>K w':=by
 obtain⟨J,H,u,W⟩:=h;obtain⟨q,U,y,E⟩:=aX.ex H;cases y;refine⟨_,λ w=>gV (e:=5) (by kernel_rfl) (z:=1) (by kernel_rfl) p l.length c n l.length I E _ none (.inr ⟨k,rfl⟩) (.inl ⟨rfl,rfl⟩) w,_,_,_,rfl,⟨trivial,by simpa using J.can 0 (by simp)⟩,Q _ ?_⟩;have x:=Cw H n I;refine⟨aa (C4 p n c 1) (l.length-n) (c-n),⟨?_, ?_, ?_,by rw[hY];omega⟩, ?_,mg _ _ _ _ _ _ _⟩
 ·have:=J.set 0 (by simp) (aa (C4 p n c 1) (l.length-n) (c-n));simpa using this
 ·exact aX.fr x (Fr.set w d _) (λ a k G y o _ _ N=>u (by rw[<-mg p n c (l.length-n) (c-n) l.length c,y,<-N.1];rfl))
 ·rw[mg p n c (l.length-n) (c-n) l.length c];exact u
 ·refine(Fr.set w d _).mono ?_;rintro b o _ ⟨rfl,rfl⟩;exact⟨rfl,bB _,by omega⟩
theorem dT.v{w:ak}{d:kd}{v:ay}{l:List UInt8}(h:dT w d v l):at_ w d v:=by simpa using h.1.at 0 rfl
theorem dT.e{w:ak}{d:kd}{v:ay}{l:List UInt8}(h:dT w d v l):at_ w (d.add 1) aA:=h.1.at 1 rfl
theorem jC{w:ak}{d:kd}{v:ay}{l:List UInt8}(h:dT w d v l):au ag 107 #[an (some d)] w λ r w'=>r=ah af (l.length:Int)/\w'=w:=by
 obtain⟨p,c,rfl,_⟩:=h.sl;apply Zl;exact⟨_,_,_,h.v,rfl,rfl⟩
theorem fU{w:ak}{d:kd}{v:ay}{l:List UInt8}(h:dT w d v l):au ag 105 #[an (some d)] w λ r w'=>r=aA/\w'=w:=by
 apply Zj;exact⟨_,h.e,rfl,rfl⟩
theorem Cx{w:ak}{d:kd}{v:ay}{l:List UInt8}(h:dT w d v l):au ag 115 #[an (some d)] w λ r w'=>r=v/\w'=w:=by
 obtain⟨p,c,rfl,_⟩:=h.sl;apply Zs;exact⟨_,_,_,h.v,rfl,rfl⟩
theorem mT{w:ak}{d:kd}{v:ay}{l:List UInt8}{n:Nat}(h:dT w d v l)(q:n<=l.length):au ag 208 #[an (some d),ah af (n:Int)] w λ _ w'=>gE w d v w' (l.drop n):=by
 obtain⟨p,c,rfl,_⟩:=h.sl;apply Zy;unfold v208;refine⟨_,_,_,h.v,aT (by simp;omega) ⟨_,_,_,h.v,su h af n q (λ w' r=>r)⟩⟩
def sx:Prop:=∀{w:ak} {x:ay} {n:Nat} {rest:List UInt8},cz w x (bm n++rest)->n<18446744073709551616->
  au ag 173 #[x] w λ r w'=>r=aZ #[ah aj (n:Int),ah af ((bm n).length:Int)]/\w'=w
theorem mh(H:sx){w:ak}{d:kd}{v:ay}{n:Nat}{rest:List UInt8}(h:dT w d v (bm n++rest))(q:n<18446744073709551616):
  au ag 111 #[an (some d)] w λ r w'=>r=ah aj (n:Int)/\gE w d v w' rest:=by
 obtain⟨p,c,rfl,_⟩:=h.sl;apply Zp;unfold NI;refine⟨_,h.e,aQ false,λ w=>by kernel_rfl,_,rfl,aT rfl ⟨_,_,_,h.v,aF (H h.2.1 q) ?_⟩⟩;rintro _ _ ⟨rfl,rfl⟩;have x:=jB n;refine⟨_,_,rfl,_,rfl,_,rfl,aT (by simp;omega) ⟨_,_,_,h.v, ?_⟩⟩;refine su h af (bm n).length (by simp) (λ w' u=>⟨rfl, ?_⟩);rwa[iz] at u
theorem kI(H:sx){w:ak}{d:kd}{v:ay}{n:Nat}{rest:List UInt8}(h:dT w d v (bm n++rest))(q:n<9223372036854775808):
  au ag 109 #[an (some d)] w λ r w'=>r=ah af (n:Int)/\gE w d v w' rest:=by
 apply Zn;unfold v109;refine aF (mh H h (by omega)) ?_;rintro _ w' ⟨rfl,c⟩;refine⟨_,rfl, ?_,c⟩;rw[bk (by omega) (by omega)]
theorem jD(H:sx){w:ak}{d:kd}{v:ay}{s rest:List UInt8}(h:dT w d v (b8 s++rest)):
  au ag 110 #[an (some d)] w λ r w'=>cz w' r s/\aN r=aN v/\gE w d v w' rest:=by
 have E:=h.2.2.2;rw[b8,dx] at h;rw[b8,dx,aY,aY] at E;apply Zo;unfold NH;refine aF (mh H h (by omega)) ?_;rintro _ Z ⟨rfl,v1,q,I,x⟩;obtain⟨p,c,rfl,U⟩:=q.sl;have J:¬((s++rest).length:Int)<(s.length:Int):=by simp;omega
 refine⟨_,rfl,_,q.e,aQ false,λ w=>by kernel_rfl,_,rfl,aT rfl ⟨_,_,_,q.v, ?_⟩⟩;rw[bk (by omega) (by omega)];refine aT (by simpa using J) ⟨_,_,_,q.v, ?_⟩;refine⟨_,λ w=>gV (e:=5) (by kernel_rfl) (z:=1) (by kernel_rfl) p (s++rest).length c 0 s.length (dO _) (by rw[aY] at U;omega) none _ (.inl ⟨rfl,rfl⟩) (.inr ⟨_,rfl⟩) w,_,_,_,rfl,_,_,_,q.v, ?_⟩;have u:=qJ q.2.1 0 s.length (dO _) (by simp);refine su q aj s.length (by simp) (λ w' K=> ?_);rw[iz] at K;obtain⟨v',Q,y,G⟩:=K;have N:(List.take (s.length-0) (List.drop 0 (s++rest)))=s:=by simp
 rw[N] at u;refine⟨?_,(mg p 0 c _ _ _ _).trans x,gE.trans I x ⟨v',Q,y,G⟩⟩;refine aX.fr u y (λ a k X W o _ _ R=>q.2.2.1 ?_);rw[<-mg p 0 c (s.length-0) (c-0) (s++rest).length c,W,<-R.1];rfl
theorem mU{h:ak}{p:OA}{c:Nat}{s:List UInt8}(x:cz h (aa p s.length c) s):(dq 26 9 (aa p s.length c)).run ag h= .ok (aC ⟨⟨s⟩⟩) h:=by
 cases p with
 |none=>
  obtain⟨_,_,u,_,_,w⟩:=x;cases u;cases s with
  |nil=>kernel_rfl
  |cons b s=>
   obtain⟨a,q,_⟩:=w 0 (ah aG (b.toNat:Int)) rfl;cases q
 |some a=>
  refine run_convert_bytes_back h 26 9 5 a c s (by kernel_rfl) (by kernel_rfl) (by kernel_rfl) (λ j y=> ?_);obtain⟨_,_,u,_,_,w⟩:=x;cases u;have e:(s.flatMap fK)[j]? =some (ah aG (s[j].toNat:Int)):=by
   have:=wh (enc:=fK) (z:=1) (λ _=>rfl) s j y 0 (by omega);rw[mH,Nat.add_zero] at this;exact this
  obtain⟨E,q,_,r⟩:=w j _ e;cases q;exact r
theorem adE(H:sx){w:ak}{d:kd}{v:ay}{s rest:List UInt8}(h:dT w d v (b8 s++rest)):
  au ag 216 #[an (some d)] w λ r w'=>r=aC ⟨⟨s⟩⟩/\gE w d v w' rest:=by
 apply Zz;unfold NQ;refine aF (jD H h) ?_;rintro r G ⟨u,y,x⟩;obtain⟨p,c,rfl,E⟩:=aX.ex u;refine⟨_,_,_,rfl, ?_⟩;have q:=mU u;exact⟨_,_,q,_,rfl,rfl,x⟩
def cW(v:ay):ay:=cG 162 v
theorem kU{w:ak}{p:OA}{l c:Nat}{K:ay->ak->Prop}(h:K (ah af (l:Int)) w):cS ag (cW (aa p l c)) "Len" #[] w K:=
 ⟨313,#[aa p l c],by kernel_rfl,ZQ h⟩
theorem mi{w:ak}{p:OA}{l:List UInt8}{c lo hi:Nat}{K:ay->ak->Prop}(G:cz w (aa p l.length c) l)(r:lo<=hi)(u:hi<=l.length)
  (h:∀q,aN q=aN (aa p l.length c)->(∀w',cz w' (aa p l.length c) l->cz w' q ((l.drop lo).take (hi-lo)))->K q w):cS ag (cW (aa p l.length c)) "Range" #[ah af (lo:Int),ah af (hi:Int)] w K:=by
 obtain⟨_,_,x,y⟩:=aX.ex G;cases x;refine⟨314,#[aa p l.length c,ah af (lo:Int),ah af (hi:Int)],by kernel_rfl,ZS ?_⟩;refine⟨_,λ w=>gV (e:=5) (by kernel_rfl) (z:=1) (by kernel_rfl) p l.length c lo hi r (by omega) _ _ (.inr ⟨_,rfl⟩) (.inr ⟨_,rfl⟩) w,_,_,_,rfl, ?_⟩;exact h _ (mg _ _ _ _ _ _ _) (λ w' E=>qJ E lo hi r u)
theorem adF{w:ak}{v:ay}{l:List UInt8}(h:cz w v l){p:OA}{len c:Nat}(y:v=aa p len c){i:Int}(q:0<=i)(r:i<l.length){K:kd->Prop}
  (x:∀a:kd,at_ w a (ah aG ((l[i.toNat]'(by omega)).toNat:Int))->K a):aU p len i 1 K:=by
 subst y;refine Sl.ix (enc:=fK) (z:=1) (λ _=>rfl) (by omega) h q r (λ a E u=>x a ?_);simpa using u 0 _ rfl
theorem km{w:ak}{v:ay}{l:List UInt8}(h:cz w v l){p:OA}{len c:Nat}(r:v=aa p len c)(i:Nat){x:Int}(e:x=(i:Int))(u:i<l.length){K:kd->Prop}
  (q:∀a:kd,at_ w a (ah aG ((l[i]).toNat:Int))->K a):aU p len x 1 K:=by
 subst e;exact adF h r (by omega) (by omega) q
theorem sz{w:ak}{v:ay}{n:Nat}{rest:List UInt8}(h:cz w v (be 4 n++rest))(K:n<4294967296):au ag 100 #[aV #[],v] w λ r w'=>r=ah aL (n:Int)/\aS w w':=by
 obtain⟨p,c,rfl,J⟩:=aX.ex h;apply Zf;unfold NC;have I:=bA w (.cells #[] 179);have y:=Sl.aH h I;have u:=Sl.aH y (cu _);rw[HP] at h y u;show aU _ _ _ _ _;refine km y rfl 3 rfl (by simp) (λ a q=>⟨_,q, ?_⟩);refine km u rfl 3 rfl (by simp) (λ a q=>⟨_,q, ?_⟩);refine km u rfl 2 rfl (by simp) (λ a q=>⟨_,q, ?_⟩);refine km u rfl 1 rfl (by simp) (λ a q=>⟨_,q, ?_⟩);refine km u rfl 0 rfl (by simp) (λ a q=>⟨_,q, ?_,I.trans (cu _)⟩);simp only[List.cons_append,List.getElem_cons_succ,List.getElem_cons_zero,UInt8.toNat_ofNat'];have x:∀m:Nat,aq aL ((m % 2^8:Nat):Int)=((m % 2^8:Nat):Int):=λ m=>iY (by omega) (by omega)
 rw[x,x,x,x];have E:=HN (n % 2^8) (n/256 % 2^8) 8 (by omega) (by omega);have G:=HN (n % 2^8+n/256 % 2^8*2^8) (n/65536 % 2^8) 16 (by omega) (by omega);have H:=HN (n % 2^8+n/256 % 2^8*2^8+n/65536 % 2^8*2^16) (n/16777216 % 2^8) 24 (by omega) (by omega);rw[show((8:Nat):Int)=8 from rfl] at E;rw[show((16:Nat):Int)=16 from rfl] at G;rw[show((24:Nat):Int)=24 from rfl] at H;rw[E,G,H];congr 2;omega
theorem sA(n s:Nat)(h:s+8<=64):bE aj ((n % 2^s:Nat):Int) (bu aj ((n/2^s % 256:Nat):Int) (s:Int))=((n % 2^(s+8):Nat):Int):=by
 have e:n % 2^(s+8)=n % 2^s+n/2^s % 256*2^s:=by
  rw[Nat.pow_add,Nat.mod_mul,Nat.mul_comm (2^s)]
 have c:n % 2^s<2^s:=Nat.mod_lt _ (Nat.two_pow_pos s);have q:n % 2^(s+8)<2^(s+8):=Nat.mod_lt _ (Nat.two_pow_pos _);have r:2^(s+8)<=2^64:=Nat.pow_le_pow_right (by omega) h;rw[HO _ _ s c (by rw[<-e];omega) (by omega),e]
theorem adG{w:ak}{v:ay}{n:Nat}{rest:List UInt8}(h:cz w v (be 8 n++rest))(U:n<18446744073709551616):au ag 172 #[aV #[],v] w λ r w'=>r=ah aj (n:Int)/\aS w w':=by
 obtain⟨p,c,rfl,R⟩:=aX.ex h;apply Zu;unfold NK;have E:=bA w (.cells #[] 179);have y:=Sl.aH h E;have u:=Sl.aH y (cu _);rw[Q4] at h y u;show aU _ _ _ _ _;refine km y rfl 7 rfl (by simp) (λ a q=>⟨_,q, ?_⟩);refine km u rfl 7 rfl (by simp) (λ a q=>⟨_,q, ?_⟩);refine km u rfl 6 rfl (by simp) (λ a q=>⟨_,q, ?_⟩);refine km u rfl 5 rfl (by simp) (λ a q=>⟨_,q, ?_⟩);refine km u rfl 4 rfl (by simp) (λ a q=>⟨_,q, ?_⟩);refine km u rfl 3 rfl (by simp) (λ a q=>⟨_,q, ?_⟩);refine km u rfl 2 rfl (by simp) (λ a q=>⟨_,q, ?_⟩);refine km u rfl 1 rfl (by simp) (λ a q=>⟨_,q, ?_⟩);refine km u rfl 0 rfl (by simp) (λ a q=>⟨_,q, ?_,E.trans (cu _)⟩);simp only[List.cons_append,List.getElem_cons_succ,List.getElem_cons_zero,UInt8.toNat_ofNat'];have x:∀m:Nat,aq aj ((m % 2^8:Nat):Int)=((m % 2^8:Nat):Int):=λ m=>dV (by omega) (by omega)
 rw[x,x,x,x,x,x,x,x];have G:bE aj ((n % 2^8:Nat):Int) (bu aj ((n/256 % 2^8:Nat):Int) 8)=((n % 2^16:Nat):Int):=sA n 8 (by omega);have H:bE aj ((n % 2^16:Nat):Int) (bu aj ((n/65536 % 2^8:Nat):Int) 16)=((n % 2^24:Nat):Int):=sA n 16 (by omega);have I:bE aj ((n % 2^24:Nat):Int) (bu aj ((n/16777216 % 2^8:Nat):Int) 24)=((n % 2^32:Nat):Int):=sA n 24 (by omega);have J:bE aj ((n % 2^32:Nat):Int) (bu aj ((n/4294967296 % 2^8:Nat):Int) 32)=((n % 2^40:Nat):Int):=sA n 32 (by omega);have K:bE aj ((n % 2^40:Nat):Int) (bu aj ((n/1099511627776 % 2^8:Nat):Int) 40)=((n % 2^48:Nat):Int):=sA n 40 (by omega);have N:bE aj ((n % 2^48:Nat):Int) (bu aj ((n/281474976710656 % 2^8:Nat):Int) 48)=((n % 2^56:Nat):Int):=sA n 48 (by omega);have Q:bE aj ((n % 2^56:Nat):Int) (bu aj ((n/72057594037927936 % 2^8:Nat):Int) 56)=((n % 2^64:Nat):Int):=sA n 56 (by omega);rw[G,H,I,J,K,N,Q,lC (by omega)]
theorem HV{w:ak}{d t:kd}{v:ay}{l:List UInt8}(h:dT w d v l)(q:lK w t):au ag 101 #[an (some d),an (some t)] w λ r w'=>r=ah aL (cI 0 l:Int)/\w'=w:=by
 obtain⟨p,c,rfl,_⟩:=h.sl;apply Zh;refine⟨_,_,_,h.v,aF (Q' q h.2.1 h.2.2.2) ?_⟩;rintro _ _ ⟨rfl,rfl⟩;exact⟨_,rfl,rfl,rfl⟩
theorem Cy{w:ak}{d:kd}{v:ay}{n:Nat}{rest:List UInt8}(h:dT w d v (be 4 n++rest))(E:n<4294967296):au ag 108 #[an (some d)] w λ r w'=>r=ah aL (n:Int)/\gE w d v w' rest:=by
 obtain⟨p,c,rfl,_⟩:=h.sl;apply Zm;unfold NG;have q:=h.aH (cu w);refine⟨_,h.e,aQ false,λ w=>by kernel_rfl,_,rfl,aT rfl ⟨_,_,_,h.v,aT (by simp[cH];omega) ⟨_,_,_,q.v,aF (sz q.2.1 E) ?_⟩⟩⟩;rintro _ G ⟨rfl,x⟩;have u:=q.aH x;refine⟨_,rfl,_,_,_,u.v, ?_⟩;refine su u af 4 (by simp[cH]) (λ w' y=>⟨rfl, ?_⟩);rw[qn (cH 4 n)] at y;exact gE.pre ((cu w).trans x) y
theorem yo{w:ak}{d:kd}{v:ay}{n:Nat}{rest:List UInt8}(h:dT w d v (be 4 n++rest))(c:n<4294967296):au ag 160 #[an (some d)] w λ r w'=>r=ah af (n:Int)/\gE w d v w' rest:=by
 apply Zt;unfold v160;refine aF (Cy h c) ?_;rintro _ w' ⟨rfl,q⟩;refine⟨_,rfl, ?_,q⟩;rw[bk (by omega) (by omega)]
theorem qK{w:ak}{d:kd}{v:ay}{n:Nat}{rest:List UInt8}(h:dT w d v (be 8 n++rest))(E:n<18446744073709551616):au ag 104 #[an (some d)] w λ r w'=>r=ah aj (n:Int)/\gE w d v w' rest:=by
 obtain⟨p,c,rfl,_⟩:=h.sl;apply Zi;unfold ND;have q:=h.aH (cu w);refine⟨_,h.e,aQ false,λ w=>by kernel_rfl,_,rfl,aT rfl ⟨_,_,_,h.v,aT (by simp[cH];omega) ⟨_,_,_,q.v,aF (adG q.2.1 E) ?_⟩⟩⟩;rintro _ G ⟨rfl,x⟩;have u:=q.aH x;refine⟨_,rfl,_,_,_,u.v, ?_⟩;refine su u af 8 (by simp[cH]) (λ w' y=>⟨rfl, ?_⟩);rw[qn (cH 8 n)] at y;exact gE.pre ((cu w).trans x) y
end Go.Proofs
namespace Go.V
theorem adH(n:Nat)(h:n<18446744073709551616):bR aj (n:Int) 1=((n % 2:Nat):Int):=by
 have e:bR aj (n:Int) 1=aq aj (((lY 64 n&&&lY 64 1).toNat:Nat):Int):=by kernel_rfl
 rw[e,BitVec.toNat_and,mI,mI,lC (by omega),lC (by omega),Nat.and_one_is_mod];exact dV (by omega) (by omega)
theorem adI(n:Nat)(h:n<9223372036854775808):gC af (-1) (n:Int)= -(n:Int)-1:=by
 have e:gC af (-1) (n:Int)=aq af (((BitVec.allOnes 64^^^lY 64 n).toNat:Nat):Int):=by kernel_rfl
 rw[e,BitVec.allOnes_xor,BitVec.toNat_not,mI,lC (by omega),wrap_i64];split<;>omega
end Go.V
namespace Go.Proofs
open Go Go.V
theorem Cz(H:sx){w:ak}{d:kd}{v:ay}{x:Int}{rest:List UInt8}(h:dT w d v (bm (eO x)++rest))(J: -9223372036854775808<=x)(K:x<9223372036854775808):
  au ag 253 #[an (some d)] w λ r w'=>r=ah af x/\gE w d v w' rest:=by
 have E:eO x<18446744073709551616:=by unfold eO;split<;>omega
 obtain⟨p,c,rfl,_⟩:=h.sl;apply ZD;unfold NT;refine⟨_,h.e,aQ false,λ w=>by kernel_rfl,_,rfl,aT rfl ⟨_,_,_,h.v,aF (H h.2.1 E) ?_⟩⟩;rintro _ w ⟨rfl,rfl⟩;have N:=jB (eO x);refine⟨_,_,rfl,_,rfl,_,rfl,aT (by simp;omega) ?_⟩;have G:cZ aj (eO x:Int) 1=((eO x/2:Nat):Int):=kT aj (eO x) 1 (by decide);have fin:∀y:Int,y=x->xf (λ r w'=>r=ah af x/\gE w d (aa p (bm (eO x)++rest).length c) w' rest) d ((bm (eO x)).length:Int) y w:=by
  rintro y rfl;unfold xf;refine⟨_,_,_,h.v, ?_⟩;refine su h af (bm (eO y)).length (by simp) (λ w' I=>⟨rfl, ?_⟩);rwa[iz] at I
 rw[adH _ E,G];refine bn (λ u=> ?_) (λ u=> ?_)
 ·apply fin;rw[bk (by omega) (by omega),adI _ (by omega)];have q:eO x % 2≠0:=by simp at u;omega
  unfold eO at q⊢;split at q<;>split<;>omega
 ·apply fin;have q:eO x % 2=0:=by simp at u;omega
  rw[bk (by omega) (by omega)];unfold eO at q⊢;split at q<;>split<;>omega
def yq(d:kd)(w:ak):Nat:=
 match w.cell? d with
 |some (aa _ l _)=>l
 |_=>0
theorem dT.left{w:ak}{d:kd}{v:ay}{l:List UInt8}(h:dT w d v l):yq d w=l.length:=by
 obtain⟨p,c,rfl,_⟩:=h.sl;have:=h.v;unfold at_ at this;unfold yq;rw[this]
theorem Ri{w:ak}{d:kd}{v:ay}{k:Nat}{b:UInt8}{rest:List UInt8}(h:dT w d v (jx k 0++b::rest))(N:b≠0):
  au ag 235 #[an (some d)] w λ _ w'=>gE w d v w' (b::rest):=by
 apply ZC;unfold NS;refine⟨_,h.e,aQ false,λ w=>by kernel_rfl,_,rfl,aT rfl ?_⟩;refine ZB (λ y w'=>y=d/\∃j v',dT w' d v' (jx j 0++b::rest)/\Fa d 2 w w'/\aN v'=aN v) (λ y w'=>yq y w') ?_ ?_
 ·exact⟨rfl,k,v,h,Fr.refl _ w,rfl⟩
 ·rintro d U ⟨rfl,j,v1,q,J,u⟩;have r:=q.left;unfold FW;obtain⟨p,c,rfl,W⟩:=q.sl;have stop:j=0->xe (λ _ w'=>gE w d v w' (b::rest)) d U:=by
   rintro rfl;unfold xe;exact⟨_,_,_,q.v,aT (by simp;omega) ⟨_,q,J,u⟩⟩
  refine⟨_,_,_,q.v,bn (λ Q=> ?_) (λ I=> ?_)⟩
  ·refine⟨_,_,_,q.v, ?_⟩;refine km q.2.1 rfl 0 rfl (by simp;omega) (λ a K=>⟨_,K, ?_⟩);cases j with
   |zero=>
    refine aT ?_ (stop rfl);have:b.toNat≠0:=λ e=>N (UInt8.toNat_inj.1 e)
    simpa using this
   |succ j=>
    refine cJ (by simp[List.replicate_succ]) ?_;unfold FV;refine⟨_,_,_,q.v,su q af 1 (by simp;omega) (λ w' R=> ?_)⟩;obtain⟨v2,E,H,G⟩:=R;have e:(jx (j+1) (0:UInt8)++b::rest).drop 1=jx j 0++b::rest:=by simp[List.replicate_succ]
    rw[e] at E;refine⟨⟨rfl,j,v2,E,J.step H (λ _ _ x _=>x),G.trans u⟩, ?_⟩;rw[E.left,r];simp
  ·apply stop;simp at I;omega
theorem adJ{w:ak}{p:OA}{c n:Nat}{l:List UInt8}(h:cz w (aa p l.length c) l)(K:n<=l.length):
  au ag 234 #[cW (aa p l.length c),ah af (n:Int)] w λ r w'=>∃v,r=aV #[v,aA]/\cz w' v (l.take n)/\aN v=aN (aa p l.length c)/\aS w w':=by
 apply ZA;unfold v234;show cS _ _ _ _ _ _;have N:=Ob.new w [aa none 0 0,aA] 182;have I:=bA w (.cells ⟨[aa none 0 0,aA]⟩ 182);have R:=Sl.aH h I;refine kU ⟨_,rfl,aT (by simp;omega) ?_⟩;refine mi (lo:=0) R (dO _) K (λ q Q y=> ?_);rw[T2,nJ] at y;obtain⟨W,U,rfl,_⟩:=aX.ex (y w h);refine⟨_,_,_,rfl, ?_⟩;refine dB (m:=2) N (Fr.refl _ _) 0 (by simp) (by omega) _ (by trivial) (λ X H E=> ?_);refine dB H E 1 (by simp) (by omega) _ (by trivial) (λ J x G=> ?_);have u:aS w J:=Fr.new I G (by rintro b o ⟨rfl,_⟩;exact bB _);exact⟨_,_,_,x.at 0 rfl,_,x.at 1 rfl,_,rfl,y J (Sl.aH h u),Q,u⟩
theorem HW{w:ak}{l:List UInt8}{a:kd}{p:OA}{n c:Nat}(h:cz w (aa p n c) l)(x:0<l.length)(y:p=some a):a.block<w.heap.size:=by
 subst y;obtain⟨_,_,u,_,_,E⟩:=h;cases u;cases l with
 |nil=>simp at x
 |cons b l=>
  obtain⟨G,r,_,q⟩:=E 0 (ah aG (b.toNat:Int)) rfl;cases r;have:=iH q;rwa[cT] at this
theorem CA{l a b:List UInt8}{n:Nat}(h:l.drop n=a++b):l.drop (n+a.length)=b:=by
 rw[<-List.drop_drop,h,iz]
theorem CB{l a:List UInt8}{n:Nat}(h:l.drop n=a)(c:0<a.length):l.length=n+a.length:=by
 have:=congrArg fZ h;rw[hY] at this;omega
theorem HX{l a b:List UInt8}{n m:Nat}(h:l.drop n=a++b)(c:m=n+a.length):(l.drop n).take (m-n)=a:=by
 rw[h,c,tz,E2]
theorem Rj{w:ak}{p:OA}{c off:Nat}{tp:OA}{l u rest:List UInt8}(h:cz w (aa p l.length c) l)(ht:∀t,tp=some t->lK w t)(hl:l.length<=1073741824)
  (hd:l.drop off=be 4 u.length++(u++(be 4 (cI 0 u)++rest))):
  au ag 106 #[cW (aa p l.length c),ah af (off:Int),an tp] w λ r w'=>∃v,r=aV #[v,aA]/\cz w' v u/\aN v=aN (aa p l.length c)/\aS w w':=by
 have sB:=uz u (c:=0) (by omega);have hlen:=CB hd (by rw[aY,cH];omega);simp only[aY,cH] at hlen;have W:=CA hd;rw[cH] at W;have yr:=CA W;apply Zk;unfold NF;show cS _ _ _ _ _ _;have ho:=Ob.new w [aa none 0 0,aA] 182;have hk:=bA w (.cells ⟨[aa none 0 0,aA]⟩ 182);have hx:=Sl.aH h hk;have jP:=λ t e=>hk.at (ht t e)
 have yt:w.heap.size<(w.alloc (.cells ⟨[aa none 0 0,aA]⟩ 182)).heap.size:=by simp
 generalize hW1:w.alloc (.cells ⟨[aa none 0 0,aA]⟩ 182)=w1 at ho hk hx jP yt;have e4:aq af ((off:Int)+4)=((off+4:Nat):Int):=by rw[bk (by omega) (by omega)];omega
 rw[e4];refine kU ⟨_,rfl,aT (by simp;omega) ?_⟩;refine mi hx (by omega) (by omega) (λ q hq hb=> ?_);have R:=hb _ hx;rw[HX hd (by rw[cH])] at R;obtain⟨qp,qc,rfl,_⟩:=aX.ex R;refine⟨_,_,_,rfl, ?_⟩;rw[<-iA (be 4 u.length)] at R;refine aF (sz R (by omega)) ?_;rintro _ w2 ⟨rfl,X⟩;have sD:=Sl.aH hx X;have i_:=λ t e=>X.at (jP t e)
 have gy:=ho.aH X;have aqR:=hk.trans X;have e8:aq af (aq af (((off+4:Nat):Int)+aq af (u.length:Int))+4)=((off+4+u.length+4:Nat):Int):=by
  rw[bk (x:=(u.length:Int)) (by omega) (by omega),bk (x:=((off+4:Nat):Int)+(u.length:Int)) (by omega) (by omega),bk (by omega) (by omega)];omega
 refine⟨_,rfl, ?_⟩;dsimp only;rw[e8];refine kU ⟨_,rfl,aT (by simp;omega) ?_⟩;refine mi sD (by omega) (by omega) (λ q2 HY U=> ?_);have e9:(l.drop (off+4)).take (off+4+u.length+4-(off+4))=u++be 4 (cI 0 u):=by
  rw[<-dx] at W;exact HX W (by rw[aY,cH];omega)
 rw[e9] at U;obtain⟨N,E,rfl,HZ⟩:=aX.ex (U _ sD);refine⟨_,_,_,rfl, ?_⟩;have hL:(u++be 4 (cI 0 u)).length=u.length+4:=by rw[aY,cH]
 rw[hL] at HZ;have H0:aq af ((((u++be 4 (cI 0 u)).length:Nat):Int)-4)=(u.length:Int):=by rw[hL,bk (by omega) (by omega)];omega
 dsimp only;rw[H0];refine⟨_,λ w=>gV (e:=5) (by kernel_rfl) (z:=1) (by kernel_rfl) N _ E 0 u.length (dO _) (by omega) none _ (.inl ⟨rfl,rfl⟩) (.inr ⟨_,rfl⟩) w,_,_,_,rfl, ?_⟩;have J:∀w',cz w' (aa p l.length c) l->cz w' (aa (C4 N 0 E 1) (u.length-0) (E-0)) u:=by
  intro w' H2;have:=qJ (U w' H2) 0 u.length (dO _) (by omega);rwa[nJ,T2,E2] at this
 have H:aN (aa (C4 N 0 E 1) (u.length-0) (E-0))=aN (aa p l.length c):=(mg _ _ _ _ _ _ _).trans HY;dsimp only[a_];have ja:=bA w2 (.cells ⟨[aa none 0 0,aA]⟩ 182);have uB:=Ob.new w2 [aa none 0 0,aA] 182;have lL:=gy.aH ja;refine dB (m:=2) uB (Fr.refl _ _) 0 (by simp) (by omega) _ (by trivial) (λ w4 H3 oq=> ?_);refine dB H3 oq 1 (by simp) (by omega) _ (by trivial) (λ w5 H4 jQ=> ?_);have G:aS w2 w5:=Fr.new ja jQ (by rintro b o ⟨rfl,_⟩;exact bB _);have jR:=gy.aH G;have yu:=Sl.aH sD G;have H5:=λ t e=>G.at (i_ t e)
 have I:∀Q,aS w5 Q->dT Q ⟨w2.heap.size,0,none⟩ (aa (C4 N 0 E 1) (u.length-0) (E-0)) u:=by
  intro Q y;refine⟨?_,J _ (Sl.aH yu y), ?_,by omega⟩
  ·exact H4.aH y
  ·rw[H];intro he;have:=(aqR.size);cases p with
   |none=>cases he
   |some a=>
    simp[aN] at he;obtain⟨_,_,he',_,jc,hz⟩:=h;cases he';obtain⟨b0,yv⟩:∃b0,l[0]? =some b0:=⟨l[0]'(by omega),by simp⟩;obtain⟨a2,ha,_,mb⟩:=hz 0 (ah aG (b0.toNat:Int)) (by
     have:=wh (enc:=fK) (z:=1) (λ _=>rfl) l 0 (by omega) 0 (by omega);simp at this;rw[this];have e:l[0]'(by omega)=b0:=by
      rw[gH (by omega)] at yv;exact iW yv
     rw[e];rfl)
    cases ha;have:=iH mb;rw[cT] at this;omega
 have yw:∀Q,aS w5 Q->w_ (λ r w'=>∃v,r=aV #[v,aA]/\cz w' v u/\aN v=aN (aa p l.length c)/\aS w w') ⟨w.heap.size,0,none⟩ ⟨w2.heap.size,0,none⟩ Q:=by
  intro Q y;have Z:=I Q y;unfold w_;have iJ:=jR.aH y;refine⟨_,_,_,Z.1.at 0 rfl,_,Z.1.at 1 rfl, ?_⟩;refine dB (m:=2) iJ (Fr.refl _ _) 0 (by simp) (by omega) _ (by trivial) (λ w7 pw lM=> ?_);refine dB pw lM 1 (by simp) (by omega) _ (by trivial) (λ w8 mV py=> ?_);have uD:aS w w8:=Fr.new (aqR.trans (G.trans y)) py (by rintro b o ⟨rfl,_⟩;exact bB _);exact⟨_,_,_,mV.at 0 rfl,_,mV.at 1 rfl,_,rfl,J _ (Sl.aH h uD),H,uD⟩
 cases tp with
 |none=>exact⟨aQ false,λ w=>by kernel_rfl,_,rfl,aT rfl (yw w5 (aS.refl w5))⟩
 |some t=>
  refine⟨aQ true,λ w=>by kernel_rfl,_,rfl,cJ rfl ?_⟩;refine⟨_,λ w=>gV (e:=5) (by kernel_rfl) (z:=1) (by kernel_rfl) N _ E u.length _ (by rw[hL];omega) (by rw[hL];omega) _ none (.inr ⟨_,rfl⟩) (.inl ⟨rfl,rfl⟩) w,_,_,_,rfl, ?_⟩;have K:=Cw (U _ (Sl.aH yu (cu w5))) u.length (by omega);rw[iz,<-iA (be 4 (cI 0 u))] at K;refine aF (sz K sB) ?_;rintro _ Q ⟨rfl,uE⟩;have y:=(cu w5).trans uE;refine⟨_,rfl,aF (HV (I Q y) (y.at (H5 t rfl))) ?_⟩;rintro _ Q ⟨rfl,rfl⟩;exact⟨_,rfl,aT (by simp) (yw _ y)⟩
theorem CD{w:ak}{p:OA}{c off:Nat}{t:kd}{l q rest:List UInt8}(h:cz w (aa p l.length c) l)(x:lK w t)(u:l.length<=1073741824)
  (hd:l.drop off=be 4 q.length++(q++(be 4 (cI 0 q)++rest))):
  au ag 106 #[cW (aa p l.length c),ah af (off:Int),an (some t)] w λ r w'=>∃v,r=aV #[v,aA]/\cz w' v q/\aN v=aN (aa p l.length c)/\aS w w':=
 Rj h (λ t' e=>by cases e;exact x) u hd
theorem adM{n m:Nat}{rest:List UInt8}(h:(bm n).length<=m):∃r,(bm n++rest).take m=bm n++r:=by
 refine⟨rest.take (m-(bm n).length), ?_⟩;rw[List.take_append,lD h]
theorem adN(H:sx){w:ak}{p:OA}{c off:Nat}{t:kd}{l y rest:List UInt8}(h:cz w (aa p l.length c) l)(ht:lK w t)(hl:l.length<=1073741824)(Rl:0<y.length)
  (hd:l.drop off=bm y.length++(y++(be 4 (cI 0 y)++rest))):
  au ag 114 #[cW (aa p l.length c),ah af (off:Int),an (some t)] w λ r w'=>∃v,r=aV #[v,aA]/\cz w' v y/\aN v=aN (aa p l.length c)/\aS w w':=by
 have sB:=uz y (c:=0) (by omega);have kJ:=jB y.length;have hlen:=CB hd (by rw[aY];omega);simp only[aY,cH] at hlen;have hu5:(bm y.length).length<=5:=fw 5 _ (by omega) (by omega);have W:=CA hd;have yr:=CA W;generalize hU:(bm y.length).length=u at kJ hlen hu5 W yr;apply Zq;unfold NJ;dsimp only[a_];have ho:=Ob.new w [aa none 0 0,aA] 182;have hk:=bA w (.cells ⟨[aa none 0 0,aA]⟩ 182);have hx:=Sl.aH h hk;have jP:=hk.at ht;have yt:w.heap.size<(w.alloc (.cells ⟨[aa none 0 0,aA]⟩ 182)).heap.size:=by simp
 generalize hW1:w.alloc (.cells ⟨[aa none 0 0,aA]⟩ 182)=w1 at ho hk hx jP yt;have e5:aq af ((off:Int)+5)=((off+5:Nat):Int):=by rw[bk (by omega) (by omega)];omega
 rw[e5];refine kU ⟨_,rfl,aT (by simp;omega) ?_⟩;refine mi hx (by omega) (by omega) (λ q hq hb=> ?_);have R:=hb _ hx;rw[hd,tz] at R;obtain⟨r0,H6⟩:=adM (rest:=y++(be 4 (cI 0 y)++rest)) (n:=y.length) (m:=5) (by omega);rw[H6] at R;obtain⟨qp,qc,rfl,_⟩:=aX.ex R;refine⟨_,_,_,rfl,aF (H R (by omega)) ?_⟩;rintro _ w1 ⟨rfl,rfl⟩;rw[hU];refine⟨_,_,rfl,_,rfl,_,rfl,aT (by simp;omega) (aT (by simp;omega) ?_)⟩;unfold FU;have e6:aq af ((off:Int)+(u:Int))=((off+u:Nat):Int):=by rw[bk (by omega) (by omega)];omega
 have e8:aq af (aq af (aq af ((off:Int)+(u:Int))+aq af (y.length:Int))+4)=((off+u+y.length+4:Nat):Int):=by
  rw[e6,bk (x:=(y.length:Int)) (by omega) (by omega),bk (x:=((off+u:Nat):Int)+(y.length:Int)) (by omega) (by omega),bk (by omega) (by omega)];omega
 rw[e8,e6];refine kU ⟨_,rfl,aT (by simp;omega) ?_⟩;refine mi hx (by omega) (by omega) (λ q2 HY U=> ?_);have e9:(l.drop (off+u)).take (off+u+y.length+4-(off+u))=y++be 4 (cI 0 y):=by
  rw[<-dx] at W;exact HX W (by rw[aY,cH];omega)
 rw[e9] at U;obtain⟨Q,E,rfl,HZ⟩:=aX.ex (U _ hx);refine⟨_,_,_,rfl, ?_⟩;have hL:(y++be 4 (cI 0 y)).length=y.length+4:=by rw[aY,cH]
 rw[hL] at HZ;have H0:aq af ((((y++be 4 (cI 0 y)).length:Nat):Int)-4)=(y.length:Int):=by rw[hL,bk (by omega) (by omega)];omega
 dsimp only;rw[H0];refine⟨_,λ w=>gV (e:=5) (by kernel_rfl) (z:=1) (by kernel_rfl) Q _ E 0 y.length (dO _) (by omega) none _ (.inl ⟨rfl,rfl⟩) (.inr ⟨_,rfl⟩) w,_,_,_,rfl, ?_⟩;have K:∀w',cz w' (aa p l.length c) l->cz w' (aa (C4 Q 0 E 1) (y.length-0) (E-0)) y:=by
  intro w' H2;have:=qJ (U w' H2) 0 y.length (dO _) (by omega);rwa[nJ,T2,E2] at this
 have I:aN (aa (C4 Q 0 E 1) (y.length-0) (E-0))=aN (aa p l.length c):=(mg _ _ _ _ _ _ _).trans HY;dsimp only[a_];have ja:=bA w1 (.cells ⟨[aa none 0 0,aA]⟩ 182);have uB:=Ob.new w1 [aa none 0 0,aA] 182;refine dB (m:=2) uB (Fr.refl _ _) 0 (by simp) (by omega) _ (by trivial) (λ w4 H3 oq=> ?_);refine dB H3 oq 1 (by simp) (by omega) _ (by trivial) (λ w5 H4 jQ=> ?_);have G:aS w1 w5:=Fr.new ja jQ (by rintro b o ⟨rfl,_⟩;exact bB _);have jR:=ho.aH G;have yu:=Sl.aH hx G;have H5:=G.at jP;refine⟨_,λ w=>gV (e:=5) (by kernel_rfl) (z:=1) (by kernel_rfl) Q _ E y.length _ (by rw[hL];omega) (by rw[hL];omega) _ none (.inr ⟨_,rfl⟩) (.inl ⟨rfl,rfl⟩) w,_,_,_,rfl, ?_⟩;have X:dT w5.drew ⟨w1.heap.size,0,none⟩ (aa (C4 Q 0 E 1) (y.length-0) (E-0)) y:=by
  refine⟨H4.aH (cu _),K _ (Sl.aH yu (cu _)), ?_,by omega⟩;rw[I];intro he;cases p with
  |none=>cases he
  |some a=>
   simp[aN] at he;have:=HW h (by omega) (a:=a) rfl;have:=hk.size;omega
 refine aF (HV X ((cu w5).at H5)) ?_;rintro _ w6 ⟨rfl,uF⟩;subst uF;refine⟨_,rfl, ?_⟩;have N:=Cw (U _ (Sl.aH yu (cu w5))) y.length (by omega);rw[iz,<-iA (be 4 (cI 0 y))] at N;refine aF (sz N sB) ?_;rintro _ w6 ⟨rfl,uE⟩;have Z:=(cu w5).trans uE;have J:=X.aH uE;refine⟨_,rfl,aT (by simp) ?_⟩;have iJ:=jR.aH Z;refine⟨_,_,_,J.1.at 0 rfl,_,J.1.at 1 rfl, ?_⟩;refine dB (m:=2) iJ (Fr.refl _ _) 0 (by simp) (by omega) _ (by trivial) (λ w7 pw lM=> ?_);refine dB pw lM 1 (by simp) (by omega) _ (by trivial) (λ w8 mV py=> ?_);have uD:aS w w8:=Fr.new (hk.trans (G.trans Z)) py (by rintro b o ⟨rfl,_⟩;exact bB _);exact⟨_,_,_,mV.at 0 rfl,_,mV.at 1 rfl,_,rfl,K _ (Sl.aH h uD),I,uD⟩
end Go.Proofs
namespace Go.V
theorem Rm(n:Nat)(h:n<128):aq aj (bR aG ((n+128:Nat):Int) 127)=(n:Int):=by
 have:=(by decide+kernel:∀m:Fin 128,aq aj (bR aG ((m.val+128:Nat):Int) 127)=((m.val:Nat):Int)) ⟨n,h⟩;exact this
theorem qL(n i:Nat)(hi:i<=8):bE aj ((n % 2^(7*i):Nat):Int) (bu aj (aq aj (bR aG ((n/2^(7*i) % 128+128:Nat):Int) 127)) ((7*i:Nat):Int))=((n % 2^(7*(i+1)):Nat):Int):=by
 have e:n % 2^(7*i+7)=n % 2^(7*i)+n/2^(7*i) % 128*2^(7*i):=by
  rw[Nat.pow_add,Nat.mod_mul,Nat.mul_comm (2^(7*i))]
 have c:n % 2^(7*i)<2^(7*i):=Nat.mod_lt _ (Nat.two_pow_pos _);have h:n % 2^(7*i+7)<2^(7*i+7):=Nat.mod_lt _ (Nat.two_pow_pos _);have q:2^(7*i+7)<=2^63:=Nat.pow_le_pow_right (by omega) (by omega);rw[Rm _ (Nat.mod_lt _ (by omega)),HO _ _ (7*i) c (by rw[<-e];omega) (by omega),<-e];rfl
theorem pz(n i:Nat)(hi:i<=9)(r:n<18446744073709551616)(q:n/2^(7*i)<128):bE aj ((n % 2^(7*i):Nat):Int) (bu aj (aq aj ((n/2^(7*i):Nat):Int)) ((7*i:Nat):Int))=(n:Int):=by
 have h:n % 2^(7*i)<2^(7*i):=Nat.mod_lt _ (Nat.two_pow_pos _);have e:n % 2^(7*i)+n/2^(7*i)*2^(7*i)=n:=Nat.mod_add_div' n _;have c:((n/2^(7*i):Nat):Int)<18446744073709551616:=Int.lt_trans (Int.ofNat_lt.2 q) (by decide);rw[dV (Int.natCast_nonneg _) c,HO _ _ (7*i) h (by rw[e];exact r) (by omega),e]
end Go.V
namespace Go.Proofs
open Go Go.V
theorem adP{w:ak}{p:OA}{c m i:Nat}{l pre rest:List UInt8}(h:cz w (aa p l.length c) l)(Q:l=pre++(bm (m)++rest))(R:pre.length=i){x:Int}(hx:x=(i:Int)){F C:Int->Prop}
  (W:m<128->l.length=i+1+rest.length->F ((m:Nat):Int))
  (X:¬m<128->i+1<l.length->(∃E,l=E++(bm (m/128)++rest)/\E.length=i+1)->C ((m % 128+128:Nat):Int)):
  aU p l.length x 1 λ a=>aD aG (at_ w a) λ y=>aB (decide ((y:Int)<128)) (F y) (C y):=by
 have q:l.length=i+((bm (m)).length+rest.length):=by rw[Q,aY,aY,R]
 have kJ:=jB (m);have K:i<l.length:=by omega
 have r:∀b bs,bm (m)=b::bs->l[i]=b:=by
  intro b bs J;have:l[i]? =some b:=by
   rw[Q,rE (by omega),R,Nat.sub_self,J];rfl
  rw[gH K] at this;exact iW this
 have G:m<128->aB (decide (((l[i].toNat:Nat):Int)<128)) (F (l[i].toNat:Int)) (C (l[i].toNat:Int)):=by
  intro u;have I:=Cq u;have N:=r _ _ I;have J:((l[i].toNat:Nat):Int)=((m:Nat):Int):=by rw[N,yl];omega
  rw[J];refine cJ (by simp;omega) (W u ?_);rw[I] at q;simp at q;omega
 have H:¬m<128->aB (decide (((l[i].toNat:Nat):Int)<128)) (F (l[i].toNat:Int)) (C (l[i].toNat:Int)):=by
  intro u;have I:=Cr u;have N:=r _ _ I;have J:((l[i].toNat:Nat):Int)=((m % 128+128:Nat):Int):=by rw[N,yl];omega
  rw[J];have U:=jB (m/128);refine aT (by simp;omega) (X u ?_ ⟨pre++[gw (m % 128+128)], ?_,by simp[R]⟩)
  ·rw[I] at q;simp at q;omega
  ·rw[Q,I];simp
 have key:aB (decide (((l[i].toNat:Nat):Int)<128)) (F (l[i].toNat:Int)) (C (l[i].toNat:Int)):=if u:m<128 then G u else H u
 exact km h rfl i hx K (λ a Z=>⟨_,Z,key⟩)
theorem jd{w:ak}{p:OA}{c n i:Nat}{l pre rest:List UInt8}(h:cz w (aa p l.length c) l)(E:l=pre++(bm (n/2^(7*i))++rest))(G:pre.length=i){x:Int}(H:x=(i:Int)){F C:Int->Prop}
  (u:n/2^(7*i)<128->l.length=i+1+rest.length->F ((n/2^(7*i):Nat):Int))
  (r:¬n/2^(7*i)<128->i+1<l.length->(∃q,l=q++(bm (n/2^(7*(i+1)))++rest)/\q.length=i+1)->C ((n/2^(7*i) % 128+128:Nat):Int)):
  aU p l.length x 1 λ a=>aD aG (at_ w a) λ y=>aB (decide ((y:Int)<128)) (F y) (C y):=by
 have e:n/2^(7*(i+1))=n/2^(7*i)/128:=by rw[Nat.mul_add,Nat.pow_add,Nat.div_div_eq_div_mul]
 rw[e] at r;exact adP h E G H u r
theorem Rn(n:Nat):aq aj (bR aG ((n/2^0 % 128+128:Nat):Int) 127)=((n % 2^7:Nat):Int):=by rw[Rm _ (by omega)];omega
theorem Ro(n:Nat):bE aj ((n % 2^7:Nat):Int) (bu aj (aq aj (bR aG ((n/2^7 % 128+128:Nat):Int) 127)) 7)=((n % 2^14:Nat):Int):=qL n 1 (by omega)
theorem Rp(n:Nat):bE aj ((n % 2^14:Nat):Int) (bu aj (aq aj (bR aG ((n/2^14 % 128+128:Nat):Int) 127)) (aq aj (7+7)))=((n % 2^21:Nat):Int):=qL n 2 (by omega)
theorem Rq(n:Nat):bE aj ((n % 2^21:Nat):Int) (bu aj (aq aj (bR aG ((n/2^21 % 128+128:Nat):Int) 127)) (aq aj ((aq aj (7+7))+7)))=((n % 2^28:Nat):Int):=qL n 3 (by omega)
theorem Rr(n:Nat):bE aj ((n % 2^28:Nat):Int) (bu aj (aq aj (bR aG ((n/2^28 % 128+128:Nat):Int) 127)) (aq aj ((aq aj ((aq aj (7+7))+7))+7)))=((n % 2^35:Nat):Int):=qL n 4 (by omega)
theorem Rt(n:Nat):bE aj ((n % 2^35:Nat):Int) (bu aj (aq aj (bR aG ((n/2^35 % 128+128:Nat):Int) 127)) (aq aj ((aq aj ((aq aj ((aq aj (7+7))+7))+7))+7)))=((n % 2^42:Nat):Int):=qL n 5 (by omega)
theorem Ru(n:Nat):bE aj ((n % 2^42:Nat):Int) (bu aj (aq aj (bR aG ((n/2^42 % 128+128:Nat):Int) 127)) (aq aj ((aq aj ((aq aj ((aq aj ((aq aj (7+7))+7))+7))+7))+7)))=((n % 2^49:Nat):Int):=qL n 6 (by omega)
theorem Rv(n:Nat):bE aj ((n % 2^49:Nat):Int) (bu aj (aq aj (bR aG ((n/2^49 % 128+128:Nat):Int) 127)) (aq aj ((aq aj ((aq aj ((aq aj ((aq aj ((aq aj (7+7))+7))+7))+7))+7))+7)))=((n % 2^56:Nat):Int):=qL n 7 (by omega)
theorem Rw(n:Nat):bE aj ((n % 2^56:Nat):Int) (bu aj (aq aj (bR aG ((n/2^56 % 128+128:Nat):Int) 127)) (aq aj ((aq aj ((aq aj ((aq aj ((aq aj ((aq aj ((aq aj (7+7))+7))+7))+7))+7))+7))+7)))=((n % 2^63:Nat):Int):=qL n 8 (by omega)
theorem Rx(n:Nat)(c:n<18446744073709551616):n/2^7<128->bE aj ((n % 2^7:Nat):Int) (bu aj (aq aj ((n/2^7:Nat):Int)) 7)=(n:Int):=pz n 1 (by omega) c
theorem Ry(n:Nat)(c:n<18446744073709551616):n/2^14<128->bE aj ((n % 2^14:Nat):Int) (bu aj (aq aj ((n/2^14:Nat):Int)) (aq aj (7+7)))=(n:Int):=pz n 2 (by omega) c
theorem Rz(n:Nat)(c:n<18446744073709551616):n/2^21<128->bE aj ((n % 2^21:Nat):Int) (bu aj (aq aj ((n/2^21:Nat):Int)) (aq aj ((aq aj (7+7))+7)))=(n:Int):=pz n 3 (by omega) c
theorem RB(n:Nat)(c:n<18446744073709551616):n/2^28<128->bE aj ((n % 2^28:Nat):Int) (bu aj (aq aj ((n/2^28:Nat):Int)) (aq aj ((aq aj ((aq aj (7+7))+7))+7)))=(n:Int):=pz n 4 (by omega) c
theorem RC(n:Nat)(c:n<18446744073709551616):n/2^35<128->bE aj ((n % 2^35:Nat):Int) (bu aj (aq aj ((n/2^35:Nat):Int)) (aq aj ((aq aj ((aq aj ((aq aj (7+7))+7))+7))+7)))=(n:Int):=pz n 5 (by omega) c
theorem RD(n:Nat)(c:n<18446744073709551616):n/2^42<128->bE aj ((n % 2^42:Nat):Int) (bu aj (aq aj ((n/2^42:Nat):Int)) (aq aj ((aq aj ((aq aj ((aq aj ((aq aj (7+7))+7))+7))+7))+7)))=(n:Int):=pz n 6 (by omega) c
theorem RE(n:Nat)(c:n<18446744073709551616):n/2^49<128->bE aj ((n % 2^49:Nat):Int) (bu aj (aq aj ((n/2^49:Nat):Int)) (aq aj ((aq aj ((aq aj ((aq aj ((aq aj ((aq aj (7+7))+7))+7))+7))+7))+7)))=(n:Int):=pz n 7 (by omega) c
theorem RG(n:Nat)(c:n<18446744073709551616):n/2^56<128->bE aj ((n % 2^56:Nat):Int) (bu aj (aq aj ((n/2^56:Nat):Int)) (aq aj ((aq aj ((aq aj ((aq aj ((aq aj ((aq aj ((aq aj (7+7))+7))+7))+7))+7))+7))+7)))=(n:Int):=pz n 8 (by omega) c
theorem RH(n:Nat)(c:n<18446744073709551616):n/2^63<128->bE aj ((n % 2^63:Nat):Int) (bu aj (aq aj ((n/2^63:Nat):Int)) (aq aj ((aq aj ((aq aj ((aq aj ((aq aj ((aq aj ((aq aj ((aq aj (7+7))+7))+7))+7))+7))+7))+7))+7)))=(n:Int):=pz n 9 (by omega) c
theorem iO:sx:=by
 intro w x n rest h E;obtain⟨p,c,rfl,hc⟩:=aX.ex h;have kJ:=jB n;have RI:(bm n++rest).length=(bm n).length+rest.length:=aY;generalize hL:bm n++rest=l at h hc RI;apply Zx;unfold v173;have uG:l.length≠0:=by omega
 have hn9:n/2^63<=1:=by omega
 have fin:∀i:Nat,l.length=i+1+rest.length->((bm n).length:Int)=((i+1:Nat):Int):=λ i hi=>by omega
 refine aT (by simpa using uG) ?_;refine bn (λ _=> ?_) (λ _=> ?_)
 ·refine jd (n:=n) (rest:=rest) (i:=0) (pre:=[]) h (by rw[<-hL];simp) rfl rfl (λ r q=> ?_) (λ r u y=> ?_)
  ·rw[show aq aj ((n/2^(7*0):Nat):Int)=(n:Int) by rw[dV (by omega) (by omega)];omega,fin 0 q];exact⟨rfl,rfl⟩
  obtain⟨G,W,sE⟩:=y;rw[show 7*0=0 from rfl,Rn n];refine jd (n:=n) (rest:=rest) (i:=1) (pre:=G) h W sE rfl (λ r q=> ?_) (λ r u y=> ?_)
  ·refine⟨by decide, ?_⟩;rw[show 7*1=7 from rfl] at r;rw[show 7*1=7 from rfl,Rx n E r,fin 1 q];exact⟨rfl,rfl⟩
  obtain⟨H,X,uH⟩:=y;refine⟨by decide, ?_⟩;rw[show 7*1=7 from rfl,Ro n];refine jd (n:=n) (rest:=rest) (i:=2) (pre:=H) h X uH rfl (λ r q=> ?_) (λ r u y=> ?_)
  ·refine⟨by decide, ?_⟩;rw[show 7*2=14 from rfl] at r;rw[show 7*2=14 from rfl,Ry n E r,fin 2 q];exact⟨rfl,rfl⟩
  obtain⟨I,Z,H7⟩:=y;refine⟨by decide, ?_⟩;rw[show 7*2=14 from rfl,Rp n];refine jd (n:=n) (rest:=rest) (i:=3) (pre:=I) h Z H7 rfl (λ r q=> ?_) (λ r u y=> ?_)
  ·refine⟨by decide, ?_⟩;rw[show 7*3=21 from rfl] at r;rw[show 7*3=21 from rfl,Rz n E r,fin 3 q];exact⟨rfl,rfl⟩
  obtain⟨J,mW,JI⟩:=y;refine⟨by decide, ?_⟩;rw[show 7*3=21 from rfl,Rq n];refine jd (n:=n) (rest:=rest) (i:=4) (pre:=J) h mW JI rfl (λ r q=> ?_) (λ r u y=> ?_)
  ·refine⟨by decide, ?_⟩;rw[show 7*4=28 from rfl] at r;rw[show 7*4=28 from rfl,RB n E r,fin 4 q];exact⟨rfl,rfl⟩
  obtain⟨K,sF,yy⟩:=y;refine⟨by decide, ?_⟩;rw[show 7*4=28 from rfl,Rr n];refine jd (n:=n) (rest:=rest) (i:=5) (pre:=K) h sF yy rfl (λ r q=> ?_) (λ r u y=> ?_)
  ·refine⟨by decide, ?_⟩;rw[show 7*5=35 from rfl] at r;rw[show 7*5=35 from rfl,RC n E r,fin 5 q];exact⟨rfl,rfl⟩
  obtain⟨N,hl6,hp6⟩:=y;refine⟨by decide, ?_⟩;rw[show 7*5=35 from rfl,Rt n];refine jd (n:=n) (rest:=rest) (i:=6) (pre:=N) h hl6 hp6 rfl (λ r q=> ?_) (λ r u y=> ?_)
  ·refine⟨by decide, ?_⟩;rw[show 7*6=42 from rfl] at r;rw[show 7*6=42 from rfl,RD n E r,fin 6 q];exact⟨rfl,rfl⟩
  obtain⟨Q,yz,H8⟩:=y;refine⟨by decide, ?_⟩;rw[show 7*6=42 from rfl,Ru n];refine jd (n:=n) (rest:=rest) (i:=7) (pre:=Q) h yz H8 rfl (λ r q=> ?_) (λ r u y=> ?_)
  ·refine⟨by decide, ?_⟩;rw[show 7*7=49 from rfl] at r;rw[show 7*7=49 from rfl,RE n E r,fin 7 q];exact⟨rfl,rfl⟩
  obtain⟨R,H9,H_⟩:=y;refine⟨by decide, ?_⟩;rw[show 7*7=49 from rfl,Rv n];refine jd (n:=n) (rest:=rest) (i:=8) (pre:=R) h H9 H_ rfl (λ r q=> ?_) (λ r u y=> ?_)
  ·refine⟨by decide, ?_⟩;rw[show 7*8=56 from rfl] at r;rw[show 7*8=56 from rfl,RG n E r,fin 8 q];exact⟨rfl,rfl⟩
  obtain⟨U,H',Ia⟩:=y;refine⟨by decide, ?_⟩;rw[show 7*8=56 from rfl,Rw n];refine jd (n:=n) (rest:=rest) (i:=9) (pre:=U) h H' Ia rfl (λ r q=> ?_) (λ r u y=> ?_)
  ·rw[show 7*9=63 from rfl] at r;refine aT (by rw[show 7*9=63 from rfl];simp;omega) ⟨by decide, ?_⟩;rw[show 7*9=63 from rfl,RH n E r,fin 9 q];exact⟨rfl,rfl⟩
  exfalso;rw[show 7*9=63 from rfl] at r;omega
 ·refine jd (n:=n) (rest:=rest) (i:=0) (pre:=[]) h (by rw[<-hL];simp) rfl rfl (λ r q=> ?_) (λ r u y=> ?_)
  ·rw[show aq aj ((n/2^(7*0):Nat):Int)=(n:Int) by rw[dV (by omega) (by omega)];omega,fin 0 q];exact⟨rfl,rfl⟩
  obtain⟨G,W,sE⟩:=y;refine aT (by simp;omega) ?_;rw[show 7*0=0 from rfl,Rn n];refine jd (n:=n) (rest:=rest) (i:=1) (pre:=G) h W sE rfl (λ r q=> ?_) (λ r u y=> ?_)
  ·refine⟨by decide, ?_⟩;rw[show 7*1=7 from rfl] at r;rw[show 7*1=7 from rfl,Rx n E r,fin 1 q];exact⟨rfl,rfl⟩
  obtain⟨H,X,uH⟩:=y;refine aT (by simp;omega) ?_;refine⟨by decide, ?_⟩;rw[show 7*1=7 from rfl,Ro n];refine jd (n:=n) (rest:=rest) (i:=2) (pre:=H) h X uH rfl (λ r q=> ?_) (λ r u y=> ?_)
  ·refine⟨by decide, ?_⟩;rw[show 7*2=14 from rfl] at r;rw[show 7*2=14 from rfl,Ry n E r,fin 2 q];exact⟨rfl,rfl⟩
  obtain⟨I,Z,H7⟩:=y;refine aT (by simp;omega) ?_;refine⟨by decide, ?_⟩;rw[show 7*2=14 from rfl,Rp n];refine jd (n:=n) (rest:=rest) (i:=3) (pre:=I) h Z H7 rfl (λ r q=> ?_) (λ r u y=> ?_)
  ·refine⟨by decide, ?_⟩;rw[show 7*3=21 from rfl] at r;rw[show 7*3=21 from rfl,Rz n E r,fin 3 q];exact⟨rfl,rfl⟩
  obtain⟨J,mW,JI⟩:=y;refine aT (by simp;omega) ?_;refine⟨by decide, ?_⟩;rw[show 7*3=21 from rfl,Rq n];refine jd (n:=n) (rest:=rest) (i:=4) (pre:=J) h mW JI rfl (λ r q=> ?_) (λ r u y=> ?_)
  ·refine⟨by decide, ?_⟩;rw[show 7*4=28 from rfl] at r;rw[show 7*4=28 from rfl,RB n E r,fin 4 q];exact⟨rfl,rfl⟩
  obtain⟨K,sF,yy⟩:=y;refine aT (by simp;omega) ?_;refine⟨by decide, ?_⟩;rw[show 7*4=28 from rfl,Rr n];refine jd (n:=n) (rest:=rest) (i:=5) (pre:=K) h sF yy rfl (λ r q=> ?_) (λ r u y=> ?_)
  ·refine⟨by decide, ?_⟩;rw[show 7*5=35 from rfl] at r;rw[show 7*5=35 from rfl,RC n E r,fin 5 q];exact⟨rfl,rfl⟩
  obtain⟨N,hl6,hp6⟩:=y;refine aT (by simp;omega) ?_;refine⟨by decide, ?_⟩;rw[show 7*5=35 from rfl,Rt n];refine jd (n:=n) (rest:=rest) (i:=6) (pre:=N) h hl6 hp6 rfl (λ r q=> ?_) (λ r u y=> ?_)
  ·refine⟨by decide, ?_⟩;rw[show 7*6=42 from rfl] at r;rw[show 7*6=42 from rfl,RD n E r,fin 6 q];exact⟨rfl,rfl⟩
  obtain⟨Q,yz,H8⟩:=y;refine aT (by simp;omega) ?_;refine⟨by decide, ?_⟩;rw[show 7*6=42 from rfl,Ru n];refine jd (n:=n) (rest:=rest) (i:=7) (pre:=Q) h yz H8 rfl (λ r q=> ?_) (λ r u y=> ?_)
  ·refine⟨by decide, ?_⟩;rw[show 7*7=49 from rfl] at r;rw[show 7*7=49 from rfl,RE n E r,fin 7 q];exact⟨rfl,rfl⟩
  obtain⟨R,H9,H_⟩:=y;refine aT (by simp;omega) ?_;refine⟨by decide, ?_⟩;rw[show 7*7=49 from rfl,Rv n];refine jd (n:=n) (rest:=rest) (i:=8) (pre:=R) h H9 H_ rfl (λ r q=> ?_) (λ r u y=> ?_)
  ·refine⟨by decide, ?_⟩;rw[show 7*8=56 from rfl] at r;rw[show 7*8=56 from rfl,RG n E r,fin 8 q];exact⟨rfl,rfl⟩
  obtain⟨U,H',Ia⟩:=y;refine aT (by simp;omega) ?_;refine⟨by decide, ?_⟩;rw[show 7*8=56 from rfl,Rw n];refine jd (n:=n) (rest:=rest) (i:=9) (pre:=U) h H' Ia rfl (λ r q=> ?_) (λ r u y=> ?_)
  ·rw[show 7*9=63 from rfl] at r;refine aT (by rw[show 7*9=63 from rfl];simp;omega) ⟨by decide, ?_⟩;rw[show 7*9=63 from rfl,RH n E r,fin 9 q];exact⟨rfl,rfl⟩
  exfalso;rw[show 7*9=63 from rfl] at r;omega
end Go.Proofs
namespace Go.V
abbrev bs(l:List UInt8):ByteArray:=⟨⟨l⟩⟩
theorem fB(l:List UInt8):(bs l).size=l.length:=rfl
theorem adQ(l:List UInt8)(i j:Nat):(bs l).extract i j=bs ((l.drop i).take (j-i)):=by
 have h:((bs l).extract i j).data=(bs l).data.extract i j:=ByteArray.data_extract;have c:(bs l).data.extract i j=⟨(l.drop i).take (j-i)⟩:=by
  apply nG;simp[List.extract]
 rw[c] at h;generalize (bs l).extract i j=x at h;cases x;simp at h;subst h;rfl
def cN(s:List UInt8):List UInt8:=gw s.length::s
theorem eK(s:List UInt8):(cN s).length=s.length+1:=rfl
def bh(l:List (List UInt8×List UInt8)):List UInt8:=l.flatMap λ x=>cN x.1++cN x.2
theorem kK(x:List UInt8×List UInt8)(l:List (List UInt8×List UInt8)):bh (x::l)=cN x.1++(cN x.2++bh l):=by simp[bh]
theorem ot(a b:List (List UInt8×List UInt8)):bh (a++b)=bh a++bh b:=by simp[bh]
theorem Ib:∀l:List (List UInt8×List UInt8),2*l.length<=(bh l).length:=by
 intro l;induction l with
 |nil=>simp[bh]
 |cons x l c=>
  rw[kK,aY,aY,eK,eK,dH];omega
def ia(l:List (List UInt8×List UInt8)):Prop:=∀x∈l,x.1.length<=200/\x.2.length<=200
theorem adR{P:bU}{t:cK}(y:P.underlying t=some .string)(s:ByteArray)(lo hi:Nat)(u:lo<=hi)(x:hi<=s.size)(h c:Option ay)
  (r:(h=none/\lo=0)\/∃k,h=some (ah k (lo:Int)))(q:(c=none/\hi=s.size)\/∃k,c=some (ah k (hi:Int)))(w:ak):
  (dw t (aC s) h c none).run P w= .ok (aC (s.extract lo hi)) w:=by
 rcases r with⟨rfl,rfl⟩|⟨k,rfl⟩<;>rcases q with⟨rfl,rfl⟩|⟨E,rfl⟩<;>
  simp[dw,iN y,Instr.slice,Instr.sliceBounds,Instr.sliceBound,asIntOf,u,x]
end Go.V
namespace Go.Proofs
open Go Go.V
theorem yA{w:ak}{pre s rest:List UInt8}{i:Nat}(hi:i=pre.length)(u:s.length<=200)(q:(pre++(cN s++rest)).length<=1073741824):
  au ag 187 #[aC (bs (pre++(cN s++rest))),ah af (i:Int)] w λ r w'=>r=aZ #[ah af (s.length:Int),ah af ((i+1:Nat):Int)]/\w'=w:=by
 subst hi;apply aai;unfold Ox;have h:((bs (pre++(cN s++rest))).data.getD ((pre.length:Nat):Int).toNat 0).toNat=s.length:=by
  simp[cN];omega
 have c:(bs (pre++(cN s++rest))).size=pre.length+(s.length+1+rest.length):=by rw[fB,aY,aY,eK]
 rw[aY,aY,eK] at q;refine⟨⟨by omega,by rw[c];omega⟩, ?_⟩;rw[h];refine aT (by simp;omega) ⟨?_,rfl⟩;rw[bk (by omega) (by omega),bk (by omega) (by omega)];rfl
theorem uI{w:ak}{pre s rest:List UInt8}{i:Nat}(hi:i=pre.length)(x:s.length<=200)(h:(pre++(cN s++rest)).length<=1073741824):
  au ag 188 #[aC (bs (pre++(cN s++rest))),ah af (i:Int)] w λ r w'=>r=aZ #[aC (bs s),ah af ((i+1+s.length:Nat):Int)]/\w'=w:=by
 apply aaj;unfold Oy;refine aF (yA hi x h) ?_;rintro _ w ⟨rfl,rfl⟩;have c:=h;rw[aY,aY,eK] at c;have e:aq af (((i+1:Nat):Int)+(s.length:Int))=((i+1+s.length:Nat):Int):=by rw[bk (by omega) (by omega)];omega
 refine⟨_,_,rfl,_,rfl,_,rfl, ?_⟩;dsimp only;rw[e];refine⟨_,λ w=>adR (by kernel_rfl) _ (i+1) (i+1+s.length) (by omega) (by rw[fB,aY,aY,eK];omega) _ _ (.inr ⟨_,rfl⟩) (.inr ⟨_,rfl⟩) w,_,rfl, ?_,rfl⟩;rw[adQ];have q:List.take (i+1+s.length-(i+1)) (List.drop (i+1) (pre++(cN s++rest)))=s:=by
  have u:pre++(cN s++rest)=(pre++[gw s.length])++(s++rest):=by simp[cN]
  rw[u,qn (by simp[hi]),tz,E2]
 rw[q]
def mX(l:List (List UInt8×List UInt8)):ay:=aV #[aC (bs (bh l))]
theorem adS{w:ak}{s:List UInt8}:au ag 129 #[aV #[aC (bs s)]] w λ r w'=>r=aQ (s.length==0)/\aS w w':=by
 apply aab;unfold Oo;refine⟨_,tM rfl, ?_,bA _ _⟩;have e:(((bs s).size:Int)==0)=(s.length==0):=by
  rw[fB,Bool.eq_iff_iff];simp
 rw[e]
theorem adT{w:ak}{l:List (List UInt8×List UInt8)}(R:ia l)(y:(bh l).length<=1073741824):
  au ag 131 #[mX l] w λ r w'=>r=ah af (l.length:Int)/\aS w w':=by
 apply aad;unfold v131;have Q:=Ob.new w [aC (bs (bh l))] 136;have N:=bA w (.cells ⟨[aC (bs (bh l))]⟩ 136);dsimp only[a_];refine aac (λ ls count i w'=>ls=⟨w.heap.size,0,none⟩/\aS w w'/\at_ w' ⟨w.heap.size,0,none⟩ (aC (bs (bh l)))/\∃a b:List (List UInt8×List UInt8),l=a++b/\count=(a.length:Int)/\i=((bh a).length:Int)) (λ _ count _ _=>(l.length-count).toNat) ?_ ?_
 ·exact⟨rfl,N,by simpa using Q.at 0 rfl,[],l,rfl,rfl,rfl⟩
 ·rintro _ count i H ⟨rfl,q,c,a,b,rfl,rfl,rfl⟩;unfold F6;refine⟨_,c, ?_⟩;cases b with
  |nil=>
   refine aT (by rw[fB];simp) ⟨by simp,q⟩
  |cons x b=>
   have G:=R x (by simp);have h:bh (a++x::b)=bh a++(cN x.1++(cN x.2++bh b)):=by rw[ot,kK]
   have E:bh (a++x::b)=(bh a++cN x.1)++(cN x.2++bh b):=by rw[h];simp
   have K:=Ib a;have u:=y;rw[h] at u;simp only[aY,eK] at u;refine cJ (by rw[fB,h];simp[eK];omega) ⟨_,c, ?_⟩;rw[h];refine aF (yA rfl G.1 (by rw[<-h];exact y)) ?_;rintro _ H ⟨rfl,rfl⟩;refine⟨_,_,rfl,_,rfl,_,rfl,_,c, ?_⟩;have I:aq af ((((bh a).length+1:Nat):Int)+(x.1.length:Int))=(((bh a++cN x.1).length:Nat):Int):=by
    rw[bk (by omega) (by omega),aY,eK];omega
   dsimp only;rw[I,E];refine aF (yA rfl G.2 (by rw[<-E];exact y)) ?_;rintro _ H ⟨rfl,rfl⟩;refine⟨_,_,rfl,_,rfl,_,rfl,⟨rfl,q, ?_,a++[x],b,by simp, ?_, ?_⟩, ?_⟩
   ·rw[<-h];exact c
   ·rw[bk (by omega) (by omega)];simp
   ·have J:(bh (a++[x])).length=(bh a).length+(x.1.length+1+(x.2.length+1)):=by
     rw[ot,kK];simp[eK,bh]
    rw[J,aY,eK,bk (by omega) (by omega)];omega
   ·rw[bk (by omega) (by omega),aY,dH];omega
end Go.Proofs
namespace Go.V
theorem Ic{P:bU}{a:kd}:∀(vs:List ay) (i k:Nat) (w:ak) (cs:List ay),Ob w a cs->k+i+vs.length<=cs.length->(∀v∈vs,gj v)->
  ∃w',(storeCells (a.add k) vs i).run P w= .ok () w'/\Ob w' a (cs.take (k+i)++vs++cs.drop (k+i+vs.length))/\Fr (λ b o=>b=a.block/\a.off+k+i<=o/\o<a.off+k+i+vs.length) w w':=by
 intro vs;induction vs with
 |nil=>intro i k w cs c _ _;exact⟨w,by simp[storeCells],by simpa using c,Fr.refl _ w⟩
 |cons v vs W=>
  intro i k w cs c K y;simp only[dH] at K;have U:=y v (by simp);have Q:=c.set (k+i) (by omega) v;have I:=c.can (k+i) (by omega);obtain⟨w',N,h,J⟩:=W (i+1) k (w.setCell (a.add (k+i)) v) (cs.set (k+i) v) Q (by simp;omega) (λ u R=>y u (by simp[R]));have G:(a.add k).add i=a.add (k+i):=add_add _ _ _ c.1;refine⟨w', ?_, ?_, ?_⟩
  ·obtain⟨⟨old,x⟩,r⟩:=I;cases v<;>first|exact U.elim|simp[storeCells,store,Sem.run,Sem.bind,bind,G,x,r,N]
  ·have H:(cs.set (k+i) v).take (k+(i+1))++vs++(cs.set (k+i) v).drop (k+(i+1)+vs.length)=cs.take (k+i)++v::vs++cs.drop (k+i+(vs.length+1)):=by
    rw[List.drop_set_of_lt (by omega),show k+(i+1)+vs.length=k+i+(vs.length+1) by omega,show k+(i+1)=k+i+1 by omega,jm (by simp;omega)];simp[List.take_set];exact List.set_eq_of_length_le (by simp;omega)
   rw[H] at h;simpa using h
  ·refine Fr.step (Fr.mono (Fr.set w (a.add (k+i)) v) ?_) J ?_
   ·rintro b o _ ⟨q,E⟩;rw[cT] at q;rw[fJ] at E;simp only[dH];exact⟨q,by omega,by omega⟩
   ·rintro b o ⟨q,E,X⟩ _;simp only[dH];exact⟨q,by omega,by omega⟩
theorem RJ{P:bU}{t e tx ty:cK}(E:P.underlying t=some (.slice e))(N:(P.info? e).map (·.size)=some 1){w:ak}{a:kd}{cs:List ay}(I:Ob w a cs)(k n c:Nat)(s:List UInt8)(K:s.length<=n)(Q:k+s.length<=cs.length):
  ∃w',(mF #[t,tx] ty #[aa (some (a.add k)) n c,aC (bs s)]).run P w= .ok (ah af (s.length:Int)) w'/\
   Ob w' a (cs.take k++s.flatMap fK++cs.drop (k+s.length))/\Fr (λ b o=>b=a.block/\a.off+k<=o/\o<a.off+k+s.length) w w':=by
 cases x:P.info? e with
 |none=>simp[x] at N
 |some i=>
  have q:(s.flatMap fK).length=s.length:=by rw[kF (z:=1) (λ _=>rfl)];omega
  obtain⟨w',J,u,H⟩:=Ic (P:=P) (s.flatMap fK) 0 k w cs I (by omega) (by
   intro v y;simp only[jJ,fK,oO] at y;obtain⟨b,_,rfl⟩:=y;trivial)
  refine⟨w', ?_,by simpa[q] using u,H.mono (λ b o _ h=>⟨h.1,by omega,by omega⟩)⟩;have r:Nat.min (bs s).size n=s.length:=Nat.min_eq_left (by rw[fB];exact K);have G:List.take s.length (List.map (λ b=>ah aG (b.toNat:Int)) s)=s.flatMap fK:=by
   have e:s.flatMap fK=s.map λ b=>ah aG (b.toNat:Int):=qA _ _
   rw[e,lD (by simp)]
  simp[mF,iN E,Builtin.lenOf,Builtin.firstCells,sizeOf,typeInfo,x,r,G,J,goInt]
end Go.V
namespace Go.Proofs
open Go Go.V
def db(x:List UInt8×List UInt8):List ay:=[aC (bs x.1),aC (bs x.2)]
theorem RK{w:ak}{n:Nat}(h:n<=200):au ag 272 #[ah aj (n:Int)] w λ r w'=>r=ah af 1/\w'=w:=by
 apply Z7;unfold Ol;have c:decide ((n:Int)<255)=true:=by simp;omega
 rw[c];exact⟨rfl,rfl⟩
theorem adU{w:ak}{m:kd}{x:List UInt8×List UInt8}(h:at_ w m (aC (bs x.1)))(q:at_ w (m.add 1) (aC (bs x.2)))(c:x.1.length<=200/\x.2.length<=200):
  au ag 245 #[an (some m)] w λ r w'=>r=ah af (((cN x.1++cN x.2).length:Nat):Int)/\w'=w:=by
 apply Z5;unfold Oi;refine⟨_,h, ?_⟩;dsimp only;rw[fB,dV (by omega) (by omega)];refine aF (RK c.1) ?_;rintro _ w ⟨rfl,rfl⟩;refine⟨_,rfl,_,q, ?_⟩;dsimp only;rw[fB,dV (by omega) (by omega)];refine aF (RK c.2) ?_;rintro _ w ⟨rfl,rfl⟩;refine⟨_,rfl, ?_,rfl⟩;rw[bk (x:=(x.1.length:Int)+1) (by omega) (by omega),bk (x:=(x.2.length:Int)+1) (by omega) (by omega),bk (x:=0+((x.1.length:Int)+1)) (by omega) (by omega),bk (by omega) (by omega),aY,eK,eK];congr 1;omega
theorem RM{w:ak}{v:ay}{l:List (List UInt8×List UInt8)}(h:Sl db 2 w v l)(hs:ia l)(hl:(bh l).length<=1073741824):
  au ag 195 #[v] w λ r w'=>r=ah af ((bh l).length:Int)/\aS w w':=by
 obtain⟨p,c,rfl,hc⟩:=aX.ex h;have hg:=Ib l;apply ZZ;unfold Of;refine ZY (λ n p' L' C' R U w'=>p=p'/\L'=l.length/\c=C'/\R=(l.length:Int)/\aS w w'/\∃k:Nat,U=(k:Int)/\k<=l.length/\n=((bh (l.take k)).length:Int)) (λ _ _ _ _ R U _=>(R-U).toNat) ?_ ?_
 ·exact⟨rfl,rfl,rfl,rfl,aS.refl w,0,rfl,by omega,by simp[bh]⟩
 ·rintro _ _ _ _ _ _ W ⟨rfl,rfl,rfl,rfl,y,k,rfl,hk,rfl⟩;unfold FZ;refine bn (λ u=> ?_) (λ u=> ?_)
  ·have q:k<l.length:=by simp at u;omega
   have hx:=hs l[k] (iy q);refine Sl.ix (enc:=db) (z:=2) (λ _=>rfl) (by omega) (Sl.aH h y) (by omega) (by omega) (λ a ou X=> ?_);have E:=X 0 _ rfl;have G:=X 1 _ rfl;simp only[fH] at E G;refine⟨_,E,_,G, ?_⟩;dsimp only[a_];have ho:=Ob.new W [aC dk,aC dk] 231;have N:=bA W (.cells ⟨[aC dk,aC dk]⟩ 231);refine dB (m:=2) ho (Fr.refl _ _) 0 (by simp) (by omega) _ (by trivial) (λ w2 Q I=> ?_);refine dB Q I 1 (by simp) (by omega) _ (by trivial) (λ Z H J=> ?_);have K:aS W Z:=Fr.new N J (by rintro b o ⟨rfl,_⟩;exact bB _);refine aF (adU (x:=l[k]) (by simpa using H.at 0 rfl) (H.at 1 rfl) hx) ?_;rintro _ Z ⟨rfl,rfl⟩;have e1:bh (l.take (k+1))=bh (l.take k)++(cN l[k].1++cN l[k].2):=by
    rw[jm q,ot,kK];simp[bh]
   have e2:(bh (l.take (k+1))).length<=(bh l).length:=by
    have:bh l=bh (l.take (k+1))++bh (l.drop (k+1)):=by rw[<-ot,kC]
    rw[this,aY];omega
   have e3:=congrArg fZ e1;rw[aY] at e3;refine⟨_,rfl,⟨rfl,rfl,rfl,rfl,y.trans K,k+1, ?_,by omega, ?_⟩, ?_⟩
   ·rw[bk (by omega) (by omega)];rfl
   ·rw[bk (by omega) (by omega)];omega
   ·rw[bk (by omega) (by omega)];omega
  ·have q:k=l.length:=by simp at u;omega
   subst q;rw[fY];exact⟨rfl,y⟩
theorem RN{w:ak}{a:kd}{cs:List ay}{n c off:Nat}{s:List UInt8}(u:Ob w a cs)(H:n<=cs.length)(y:1<=off)(E:off<=n)(I:s.length<=200)(G:cs.length<=1073741824):
  au ag 273 #[aa (some a) n c,ah af (off:Int),ah af (s.length:Int)] w λ r w'=>r=ah af ((off-1:Nat):Int)/\Ob w' a (cs.set (off-1) (ah aG ((gw s.length).toNat:Int)))/\Fr (λ b o=>b=a.block/\o=a.off+(off-1)) w w':=by
 apply Z8;unfold Om;have e:aq af ((off:Int)-1)=((off-1:Nat):Int):=by rw[bk (by omega) (by omega)];omega
 rw[e];have x:decide ((s.length:Int)<255)=true:=by simp;omega
 rw[x];refine cJ rfl ?_;refine kj (by omega) (by omega) ⟨⟨trivial,u.can _ (by simp;omega)⟩,rfl, ?_, ?_⟩
 ·rw[fH,jO (s.length:Int) s.length rfl];exact u.set (off-1) (by omega) _
 ·rw[fH];refine(Fr.set w (a.add (off-1)) _).mono ?_;rintro b o _ ⟨h,q⟩;rw[cT] at h;rw[fJ] at q;exact⟨h,q⟩
end Go.Proofs
namespace Go.V
theorem adV{α:Type}(cs:List α)(p q r:Nat)(h:p+1+q+1+r<=cs.length):
  ∃A x B y C D,cs=A++x::(B++y::(C++D))/\A.length=p/\B.length=q/\C.length=r:=by
 refine⟨cs.take p,cs[p],(cs.drop (p+1)).take q,cs[p+1+q],(cs.drop (p+1+q+1)).take r,cs.drop (p+1+q+1+r), ?_,by simp;omega,by simp;omega,by simp;omega⟩;have c:cs.drop (p+1+q+1)=(cs.drop (p+1+q+1)).take r++cs.drop (p+1+q+1+r):=by
  have:=kC r (cs.drop (p+1+q+1));rw[List.drop_drop] at this;exact this.symm
 have u:cs.drop (p+1+q)=cs[p+1+q]::cs.drop (p+1+q+1):=gS (by omega);have w:cs.drop (p+1)=(cs.drop (p+1)).take q++cs.drop (p+1+q):=by
  have:=kC q (cs.drop (p+1));rw[List.drop_drop] at this;exact this.symm
 have E:cs.drop p=cs[p]::cs.drop (p+1):=gS (by omega);rw[<-c,<-u,<-w,<-E,kC]
end Go.V
namespace Go.Proofs
open Go Go.V
theorem RP{w:ak}{a:kd}{cs:List ay}(E:Ob w a cs)(k n c r:Nat)(s:List UInt8)(y:s.length<=n)(J:k+n<=cs.length)(H:k+n<=c):
  ∃w',(mF #[26,9] 3 #[aa (C4 (some a) k c 1) n r,aC (bs s)]).run ag w= .ok (ah af (s.length:Int)) w'/\
   Ob w' a (cs.take k++cD s++cs.drop (k+s.length))/\Fr (λ b o=>b=a.block/\a.off<=o/\o<a.off+cs.length) w w':=by
 unfold C4;split
 ·rename_i I;have G:s.length=0:=by omega
  have y:s=[]:=List.eq_nil_of_length_eq_zero G;subst y;obtain⟨w',x,q,u⟩:=RJ (P:=ag) (t:=26) (e:=5) (tx:=9) (ty:=3) (by kernel_rfl) (by kernel_rfl) E 0 n r [] (by simp) (by simp);refine⟨w',x, ?_,u.mono (λ b o _ h=>by simp at h;omega)⟩;have:(cs.take 0++([]:List UInt8).flatMap fK++cs.drop (0+([]:List UInt8).length))=cs.take k++cD []++cs.drop (k+([]:List UInt8).length):=by simp[cD]
  rwa[this] at q
 ·obtain⟨w',x,q,u⟩:=RJ (P:=ag) (t:=26) (e:=5) (tx:=9) (ty:=3) (by kernel_rfl) (by kernel_rfl) E k n r s y (by omega);refine⟨w', ?_,q,u.mono (λ b o _ h=>⟨h.1,by omega,by omega⟩)⟩;rw[Option.map_some,mH];exact x
theorem adW{w:ak}{m a:kd}{cs:List ay}{i c:Nat}{x:List UInt8×List UInt8}(K:at_ w m (aC (bs x.1)))(h2:at_ w (m.add 1) (aC (bs x.2)))(hm:m.block≠a.block)(hx:x.1.length<=200/\x.2.length<=200)
  (ho:Ob w a cs)(hi:i<=cs.length)(W:i<=c)(lJ:(cN x.1++cN x.2).length<=i)(hc:cs.length<=1073741824):
  au ag 246 #[an (some m),aa (some a) i c] w λ r w'=>r=ah af ((cN x.1++cN x.2).length:Int)/\
   Ob w' a (cs.take (i-(cN x.1++cN x.2).length)++cD (cN x.1++cN x.2)++cs.drop i)/\Fa a cs.length w w':=by
 have aqY:=lJ;rw[aY,eK,eK] at aqY;obtain⟨A,y,B,z,C,D,rfl,hA,hB,hC⟩:=adV cs (i-(x.1.length+1+(x.2.length+1))) x.1.length x.2.length (by omega);have G:(A++y::(B++z::(C++D))).length=i+D.length:=by simp;omega
 have q:∀{w1 I:ak} {S:Nat->Nat->Prop} {v:ay} {k:Nat},Fr S w1 I->(∀b o,S b o->b=a.block)->at_ w1 (m.add k) v->at_ I (m.add k) v:=by
  intro w1 I S v k hf hS mb;exact hf.at mb (λ h=>hm (by have:=hS _ _ h;rwa[cT] at this))
 apply Z6;unfold Oj;refine⟨_,h2, ?_⟩;dsimp only;have e1:aq af ((i:Int)-((bs x.2).size:Int))=((i-x.2.length:Nat):Int):=by rw[fB,bk (by omega) (by omega)];omega
 rw[e1];refine⟨_,λ w=>gV (e:=5) (by kernel_rfl) (z:=1) (by kernel_rfl) (some a) i c (i-x.2.length) i (by omega) W _ none (.inr ⟨_,rfl⟩) (.inl ⟨rfl,rfl⟩) w,_,_,_,rfl, ?_⟩;have Q:=(cu w).at h2;refine⟨_,Q, ?_⟩;obtain⟨w1,lN,X,u⟩:=RP (ho.aH (cu w)) (i-x.2.length) (i-(i-x.2.length)) c (c-(i-x.2.length)) x.2 (by omega) (by omega) (by omega);have R:∀b o,(b=a.block/\a.off<=o/\o<a.off+(A++y::(B++z::(C++D))).length)->b=a.block:=λ _ _ h=>h.1
 have Ie:=q (k:=0) u R ((cu w).at K);have RQ:=q u R Q;refine⟨_,w1,lN,_,rfl,_,RQ, ?_⟩;have eL1:(A++y::(B++z::(C++D))).take (i-x.2.length)++cD x.2++(A++y::(B++z::(C++D))).drop (i-x.2.length+x.2.length)=A++y::(B++z::(cD x.2++D)):=by
  have e:A++y::(B++z::(C++D))=(A++y::(B++[z]))++(C++D):=by simp
  have J:A++y::(B++z::(C++D))=(A++y::(B++z::C))++D:=by simp
  rw[show i-x.2.length+x.2.length=(A++y::(B++z::C)).length by simp;omega]
  conv=>lhs;rw[e]
  rw[List.take_left' (by simp;omega),<-e,J,iz];simp
 rw[eL1] at X;have gL:(A++y::(B++z::(cD x.2++D))).length=i+D.length:=by simp[js];omega
 have je:((bs x.2).size:Int)=(x.2.length:Int):=by rw[fB]
 dsimp only;rw[je];refine aF (RN (off:=i-x.2.length) (s:=x.2) X (by omega) (by omega) (by omega) hx.2 (by omega)) ?_;rintro _ I ⟨rfl,Z,U⟩;have Ig:∀b o,(b=a.block/\o=a.off+(i-x.2.length-1))->b=a.block:=λ _ _ h=>h.1
 have E:=q (k:=0) U Ig Ie;have eL2:(A++y::(B++z::(cD x.2++D))).set (i-x.2.length-1) (ah aG ((gw x.2.length).toNat:Int))=A++y::(B++(cD (cN x.2)++D)):=by
  have e:A++y::(B++z::(cD x.2++D))=(A++y::B)++z::(cD x.2++D):=by simp
  rw[e,List.set_append_right _ _ (by simp;omega)];have:i-x.2.length-1-(A++y::B).length=0:=by simp;omega
  rw[this,oU];simp[cN,cD,fK]
 rw[eL2] at Z;refine⟨_,rfl,_,E, ?_⟩;dsimp only;have e3:aq af (((i-x.2.length-1:Nat):Int)-((bs x.1).size:Int))=((i-x.2.length-1-x.1.length:Nat):Int):=by rw[fB,bk (by omega) (by omega)];omega
 rw[e3];refine⟨_,λ w=>gV (e:=5) (by kernel_rfl) (z:=1) (by kernel_rfl) (some a) i c (i-x.2.length-1-x.1.length) i (by omega) W _ none (.inr ⟨_,rfl⟩) (.inl ⟨rfl,rfl⟩) w,_,_,_,rfl, ?_⟩;have N:=(cu I).at E;refine⟨_,N, ?_⟩;have jc:(A++y::(B++(cD (cN x.2)++D))).length=i+D.length:=by simp[js,eK];omega
 obtain⟨w3,kn,lL,H⟩:=RP (Z.aH (cu I)) (i-x.2.length-1-x.1.length) (i-(i-x.2.length-1-x.1.length)) c (c-(i-x.2.length-1-x.1.length)) x.1 (by omega) (by omega) (by omega);have hS3:∀b o,(b=a.block/\a.off<=o/\o<a.off+(A++y::(B++(cD (cN x.2)++D))).length)->b=a.block:=λ _ _ h=>h.1
 have qM:=q (k:=0) H hS3 N;refine⟨_,w3,kn,_,rfl,_,qM, ?_⟩;have eL3:(A++y::(B++(cD (cN x.2)++D))).take (i-x.2.length-1-x.1.length)++cD x.1++(A++y::(B++(cD (cN x.2)++D))).drop (i-x.2.length-1-x.1.length+x.1.length)=A++y::(cD x.1++(cD (cN x.2)++D)):=by
  have e:A++y::(B++(cD (cN x.2)++D))=(A++[y])++(B++(cD (cN x.2)++D)):=by simp
  have J:A++y::(B++(cD (cN x.2)++D))=(A++y::B)++(cD (cN x.2)++D):=by simp
  rw[show i-x.2.length-1-x.1.length+x.1.length=(A++y::B).length by simp;omega]
  conv=>lhs;rw[e]
  rw[List.take_left' (by simp;omega),<-e,J,iz];simp
 rw[eL3] at lL;have yB:((bs x.1).size:Int)=(x.1.length:Int):=by rw[fB]
 dsimp only;rw[yB];have yx:(A++y::(cD x.1++(cD (cN x.2)++D))).length=i+D.length:=by simp[js,eK];omega
 refine aF (RN (off:=i-x.2.length-1-x.1.length) (s:=x.1) lL (by omega) (by omega) (by omega) hx.1 (by omega)) ?_;rintro _ w4 ⟨rfl,jS,oq⟩;have eL4:(A++y::(cD x.1++(cD (cN x.2)++D))).set (i-x.2.length-1-x.1.length-1) (ah aG ((gw x.1.length).toNat:Int))=A++(cD (cN x.1++cN x.2)++D):=by
  rw[List.set_append_right _ _ (by omega)];have:i-x.2.length-1-x.1.length-1-A.length=0:=by omega
  rw[this,oU,pk];simp[cN,cD,fK]
 rw[eL4] at jS;have iP:(cN x.1++cN x.2).length=x.1.length+1+(x.2.length+1):=by rw[aY,eK,eK]
 refine⟨_,rfl, ?_, ?_, ?_⟩
 ·have e7:aq af ((i:Int)-((i-x.2.length-1-x.1.length-1:Nat):Int))=((x.1.length+1+(x.2.length+1):Nat):Int):=by
   rw[bk (by omega) (by omega)];omega
  rw[e7,iP]
 ·have e5:(A++y::(B++z::(C++D))).take (i-(cN x.1++cN x.2).length)=A:=by rw[List.take_left' (by rw[iP];omega)]
  have e6:(A++y::(B++z::(C++D))).drop i=D:=by
   have J:A++y::(B++z::(C++D))=(A++y::(B++z::C))++D:=by simp
   rw[J,qn (by simp;omega)]
  rw[e5,e6,dx];exact jS
 ·rw[G];rw[G] at u;rw[jc] at H;refine Fr.step (Fr.step (Fr.step (Fr.step (Fr.step (Fr.mono (cu w) (λ _ _ _ x=>x.elim)) u (λ b o h _=>h)) U ?_) (cu I) (λ _ _ x _=>x.elim)) H (λ b o h _=>h)) oq ?_
  ·rintro b o ⟨K,h2⟩ _;exact⟨K,by omega,by omega⟩
  ·rintro b o ⟨K,h2⟩ _;exact⟨K,by omega,by omega⟩
theorem ad2{w:ak}{z n l c:Nat}{p:OA}{vs:List ay}(h:aX w z (aa p l c) n vs){i:Int}(E:0<=i)(G:i<n){K:kd->Prop}(R:0<z)
  (J:∀a:kd,a.spot=none->aN (aa p l c)=some a.block->(∀j,j<z->∀u,vs[i.toNat*z+j]? =some u->at_ w (a.add j) u)->K a):aU p l i z K:=by
 obtain⟨_,_,I,_,N,x⟩:=h;cases I;have r:i.toNat*z<vs.length:=by
  rw[N];have:i.toNat<n:=by omega
  exact Nat.mul_lt_mul_of_pos_right this R
 obtain⟨a,rfl,y,_⟩:=x (i.toNat*z) vs[i.toNat*z] (by simp[r]);refine⟨⟨E,G⟩, ?_⟩;show K _;apply J _ (rT _ _ y) (by simp[aN]);intro j W u Q;rw[add_add _ _ _ y];obtain⟨U,H,_,q⟩:=x _ u Q;cases H;exact q
theorem ad3{α:Type}{enc:α->List ay}{z:Nat}{w:ak}{len c:Nat}{p:OA}{l:List α}(E:∀x,(enc x).length=z)(G:0<z)(h:Sl enc z w (aa p len c) l){i:Int}(q:0<=i)(hi:i<l.length){K:kd->Prop}
  (J:∀a:kd,a.spot=none->aN (aa p len c)=some a.block->(∀j u,(enc (l[i.toNat]'(by omega)))[j]? =some u->at_ w (a.add j) u)->K a):aU p len i z K:=by
 refine ad2 h q hi G (λ a N I H=>J a N I (λ j u y=> ?_));have r:j<z:=by rw[<-E (l[i.toNat]'(by omega))];exact(oQ.1 y).1
 exact H j r u (by rw[wh E l i.toNat (by omega) j r];exact y)
theorem RR(p:OA)(c z:Nat):C4 p 0 c z=p:=by
 unfold C4;split
 ·rfl
 ·cases p<;>simp
theorem RS{w:ak}{p:OA}{c c2:Nat}{a:kd}{cs:List ay}{l:List (List UInt8×List UInt8)}(h:Sl db 2 w (aa p l.length c) l)(X:aN (aa p l.length c)≠some a.block)(hs:ia l)
  (ho:Ob w a cs)(U:cs.length=(bh l).length)(hc:cs.length<=1073741824)(kL:cs.length<=c2):
  au ag 196 #[aa p l.length c,aa (some a) cs.length c2] w λ r w'=>(∃m,r=ah af m)/\Ob w' a (cD (bh l))/\Fa a cs.length w w':=by
 have hg:=Ib l;apply Z1;unfold v196;have e0:aq af (((l.length:Nat):Int)-1)=(l.length:Int)-1:=by rw[bk (by omega) (by omega)]
 rw[e0];refine Z0 (λ p' L' Z dp dL dC i index w'=>p=p'/\L'=l.length/\c=Z/\dp=some a/\dL=cs.length/\c2=dC/\∃k:Nat,index=(k:Int)-1/\k<=l.length/\i=((bh (l.take k)).length:Int)/\Ob w' a (cs.take (bh (l.take k)).length++cD (bh (l.drop k)))/\Fa a cs.length w w') (λ _ _ _ _ _ _ _ index _=>(index+1).toNat) ?_ ?_
 ·refine⟨rfl,rfl,rfl,rfl,rfl,rfl,l.length,rfl,bB _,by rw[fY,U], ?_,Fr.refl _ w⟩;rw[fY,<-U,fY,List.drop_length];simpa[bh,cD] using ho
 ·rintro _ _ _ _ _ _ _ _ J ⟨rfl,rfl,rfl,rfl,rfl,rfl,k,rfl,hk,rfl,H,K⟩;unfold F1;cases k with
  |zero=>
   refine aT (by simp) ⟨⟨_,rfl⟩, ?_,K⟩;simpa[bh] using H
  |succ k=>
   have q:k<l.length:=by omega
   have hx:=hs l[k] (iy q);have e1:bh (l.take (k+1))=bh (l.take k)++(cN l[k].1++cN l[k].2):=by
    rw[jm q,ot,kK];simp[bh]
   have e2:bh (l.drop k)=(cN l[k].1++cN l[k].2)++bh (l.drop (k+1)):=by
    rw[gS q,kK];simp
   have e3:bh l=bh (l.take (k+1))++bh (l.drop (k+1)):=by rw[<-ot,kC]
   have n1:=congrArg fZ e1;have n3:=congrArg fZ e3;rw[aY] at n1 n3;have e4:((k+1:Nat):Int)-1=(k:Int):=by omega
   rw[e4];have N:Sl db 2 J (aa p l.length c) l:=aX.fr h K (λ a' k' c' he o _ _ hS=>X (by rw[he,<-hS.1];rfl));refine cJ (by simp) ?_;refine ad3 (enc:=db) (z:=2) (λ _=>rfl) (by omega) N (by omega) (by omega) (λ m ou Q W=> ?_);have E:=W 0 _ rfl;have G:=W 1 _ rfl;simp only[fH] at E G;have R:m.block≠a.block:=λ e=>X (by rw[Q,e])
   refine⟨_,λ w=>gV (e:=5) (by kernel_rfl) (z:=1) (by kernel_rfl) (some a) cs.length c2 0 (bh (l.take (k+1))).length (dO _) (by omega) none _ (.inl ⟨rfl,rfl⟩) (.inr ⟨_,rfl⟩) w,_,_,_,rfl, ?_⟩;rw[RR,nJ,nJ];have u:(cs.take (bh (l.take (k+1))).length++cD (bh (l.drop (k+1)))).length=cs.length:=by
    rw[aY,fS,js];omega
   refine aF (adW (x:=l[k]) ((cu J).at (by simpa using E)) ((cu J).at G) R hx (H.aH (cu J)) (by omega) (by omega) (by omega) (by omega)) ?_;rintro _ w2 ⟨rfl,I,y⟩;rw[u] at y;have e7:aq af ((k:Int)-1)=(k:Int)-1:=by rw[bk (by omega) (by omega)]
   rw[e7];refine⟨_,rfl,⟨rfl,rfl,rfl,rfl,rfl,rfl,k,rfl,by omega, ?_, ?_, ?_⟩,by omega⟩
   ·rw[bk (by omega) (by omega)];omega
   ·have e5:(cs.take (bh (l.take (k+1))).length++cD (bh (l.drop (k+1)))).take ((bh (l.take (k+1))).length-(cN l[k].1++cN l[k].2).length)=cs.take (bh (l.take k)).length:=by
     rw[List.take_append_of_le_length (by rw[fS];omega),List.take_take];congr 1;omega
    have e6:(cs.take (bh (l.take (k+1))).length++cD (bh (l.drop (k+1)))).drop (bh (l.take (k+1))).length=cD (bh (l.drop (k+1))):=by
     rw[qn (by rw[fS];omega)]
    rw[e5,e6] at I;rw[e2,pk];simpa using I
   ·exact Fr.step (Fr.step K (cu J) (λ _ _ x _=>x.elim)) y (λ _ _ x _=>x)
theorem RU{w:ak}{v:ay}{l:List UInt8}(h:cz w v l):au ag 197 #[v] w λ r w'=>r=aC (bs l)/\w'=w:=by
 obtain⟨p,c,rfl,_⟩:=aX.ex h;apply Z3;exact⟨_,_,mU h,_,rfl,rfl,rfl⟩
end Go.Proofs
namespace Go.V
theorem yC:∀(a b:List UInt8),jy a b<0↔ds a b=true:=by
 intro a;induction a with
 |nil=>intro b;cases b<;>simp[jy,ds]
 |cons x a u=>
  intro b;cases b with
  |nil=>simp[jy,ds]
  |cons y b=>
   unfold jy ds;by_cases h:x<y
   ·simp[h]
   ·by_cases c:y<x
    ·have q:x≠y:=λ e=>by subst e;exact h c
     simp[h,c,q]
    ·have r:x=y:=UInt8.le_antisymm (UInt8.not_lt.1 c) (UInt8.not_lt.1 h);subst r;simp[h,u b]
theorem Ih:∀(a b:List UInt8),jy a b= -jy b a:=by
 intro a;induction a with
 |nil=>intro b;cases b<;>simp[jy]
 |cons x a q=>
  intro b;cases b with
  |nil=>simp[jy]
  |cons y b=>
   unfold jy;by_cases h:x<y
   ·have c:¬y<x:=λ c=>absurd (UInt8.lt_trans h c) (UInt8.lt_irrefl x)
    simp[h,c]
   ·by_cases c:y<x
    ·simp[h,c]
    ·simp[h,c,q b]
end Go.V
namespace Go.Proofs
open Go Go.V
theorem ad4{w:ak}{a b:List UInt8}:au ag 244 #[aC (bs a),aC (bs b)] w λ r w'=>r=ah af (jy a b)/\w'=w:=by
 apply Z4;unfold Oh;have e:(callFunc 271 #[aC (bs a),aC (bs b)]).run ag w=(do pure (Next.value (<-Extern.BytealgCompare.compare #[aC (bs a),aC (bs b)])):Sem Next).run ag w:=by kernel_rfl
 have c:(callFunc 271 #[aC (bs a),aC (bs b)]).run ag w= .ok (.value (ah af (jy a b))) w:=by
  rw[e,nH,Lib.run_compareString];rfl
 unfold ik;rw[c];exact⟨_,rfl,rfl,rfl⟩
theorem ad5{w:ak}{a b:List UInt8}:au ag 194 #[aC (bs a),aC (bs b)] w λ r w'=>r=ah af (jy a b)/\w'=w:=by
 apply ZX;unfold v194;refine aF ad4 ?_;rintro _ w ⟨rfl,rfl⟩;exact⟨_,rfl,rfl,rfl⟩
theorem ad6{w:ak}{h q u b1:List UInt8}:au ag 193 #[aV #[aC (bs h),aC (bs q)],aV #[aC (bs u),aC (bs b1)]] w λ r w'=>r=ah af (jy h u)/\aS w w':=by
 apply ZW;unfold v193;dsimp only[a_];have x:=bA w (.cells ⟨[aC (bs h),aC (bs q)]⟩ 231);have c:=bA (w.alloc (.cells ⟨[aC (bs h),aC (bs q)]⟩ 231)) (.cells ⟨[aC (bs u),aC (bs b1)]⟩ 231);refine⟨_,c.at (tM (i:=0) rfl),_,tM (i:=0) rfl,aF ad5 ?_⟩;rintro _ y ⟨rfl,rfl⟩;exact⟨_,rfl,rfl,x.trans c⟩
abbrev sH:ay:= .func (.func 193) #[] #[]
theorem ad7{w:ak}{c r q b1:List UInt8}{K:ay->ak->Prop}(h:∀w',aS w w'->K (ah af (jy c q)) w'):
  eJ ag sH #[aV #[aC (bs c),aC (bs r)],aV #[aC (bs q),aC (bs b1)]] w K:=
 ⟨193,#[aV #[aC (bs c),aC (bs r)],aV #[aC (bs q),aC (bs b1)]],by kernel_rfl,aF ad6 (by rintro _ w' ⟨rfl,u⟩;exact h w' u)⟩
def sI(l:List (List UInt8×List UInt8)):Prop:=∀i (h:i+1<l.length),ds (l[i]'(by omega)).1 (l[i+1]'h).1=true
theorem ad8{w:ak}{p:OA}{c:Nat}{l:List (List UInt8×List UInt8)}(h:Sl db 2 w (aa p l.length c) l)(ha:sI l)(hl:l.length<=1000):
  au ag 263 #[aa p l.length c,ah af 0,ah af (l.length:Int),sH] w λ _ w'=>aS w w':=by
 apply aay;unfold ON;have W:aq af (0+1)=((1:Nat):Int):=rfl;rw[W];refine aax (λ J E y a b cmp i w'=>p=J/\E=l.length/\c=y/\a=0/\b=(l.length:Int)/\cmp=sH/\aS w w'/\∃k:Nat,i=(k:Int)/\1<=k/\k<=l.length+1) (λ _ _ _ _ b _ i _=>(b+1-i).toNat) ?_ ?_
 ·exact⟨rfl,rfl,rfl,rfl,rfl,rfl,aS.refl w,1,rfl,by omega,by omega⟩
 ·rintro _ _ _ _ _ _ _ w1 ⟨rfl,rfl,rfl,rfl,rfl,rfl,U,k,rfl,kV,rR⟩;unfold Gc;refine bn (λ R=> ?_) (λ R=>U);have H:k<l.length:=by simp at R;omega
  refine aaw (λ J E y a b cmp i j w'=>p=J/\E=l.length/\c=y/\a=0/\b=(l.length:Int)/\cmp=sH/\aS w w'/\i=(k:Int)/\j=(k:Int)) (λ _ _ _ _ _ _ _ _ _=>0) ?_ ?_
  ·exact⟨rfl,rfl,rfl,rfl,rfl,rfl,U,rfl,rfl⟩
  ·rintro _ _ _ _ _ _ _ _ w2 ⟨rfl,rfl,rfl,rfl,rfl,rfl,I,rfl,rfl⟩;unfold Gb;refine cJ (by simp;omega) ?_;have hd:=I.trans (cu w2);have x:=Sl.aH h hd;have X:aq af ((k:Int)-1)=((k-1:Nat):Int):=by rw[bk (by omega) (by omega)];omega
   refine Sl.ix (enc:=db) (z:=2) (λ _=>rfl) (by omega) x (by omega) (by omega) (λ m1 _ r=> ?_);have K:=r 0 _ rfl;have N:=r 1 _ rfl;simp only[fH] at K N;refine⟨_,K,_,N, ?_⟩;rw[X];refine Sl.ix (enc:=db) (z:=2) (λ _=>rfl) (by omega) x (by omega) (by omega) (λ m2 _ u=> ?_);have Q:=u 0 _ rfl;have b1:=u 1 _ rfl;simp only[fH] at Q b1;refine⟨_,Q,_,b1,ad7 (λ w3 G=>⟨_,rfl,aT ?_ ?_⟩)⟩
   ·have q:=ha (k-1) (by omega);have Z:k-1+1=k:=by omega
    simp only[Z] at q;have h3:=(yC (l[k-1]'(by omega)).1 (l[k]'H).1).2 q;rw[Ih] at h3;simp;omega
   ·unfold Bn;have e3:aq af ((k:Int)+1)=((k+1:Nat):Int):=by rw[bk (by omega) (by omega)];omega
    rw[e3];refine⟨⟨rfl,rfl,rfl,rfl,rfl,rfl,hd.trans G,k+1,rfl,by omega,by omega⟩,by omega⟩
theorem ad9{w:ak}{n:Nat}(h:n<256):au ag 227 #[ah aj (n:Int)] w λ r w'=>(∃m,r=ah af m)/\w'=w:=by
 apply acE;unfold v227;refine aT (by simp;omega) ?_;unfold Cb;refine aT (by simp;omega) ?_;unfold Ca;refine aT (by simp;omega) ?_;unfold B_;rw[adg (by omega) (by omega)];refine⟨⟨by omega, ?_⟩,⟨_,rfl⟩,rfl⟩;have:∀b:ByteArray,b.size=256->(n:Int)<(b.size:Int):=by intro b c;rw[c];omega
 refine this _ ?_;kernel_rfl
theorem ad_{w:ak}{n:Nat}(h:n<256):au ag 176 #[ah aj (n:Int)] w λ r w'=>(∃m,r=ah af m)/\w'=w:=by
 apply acD;unfold Qn;refine aF (ad9 h) ?_;rintro _ w ⟨⟨m,rfl⟩,rfl⟩;exact⟨_,rfl,⟨_,rfl⟩,rfl⟩
theorem ad'{w:ak}{p:OA}{c:Nat}{l:List (List UInt8×List UInt8)}{m:Int}(h:Sl db 2 w (aa p l.length c) l)(u:sI l)(I:l.length<=12):
  au ag 243 #[aa p l.length c,ah af 0,ah af (l.length:Int),ah af m,sH] w λ _ w'=>aS w w':=by
 apply aav;unfold OJ;refine aau (λ H r q a b G cmp x y w'=>p=H/\r=l.length/\c=q/\a=0/\b=(l.length:Int)/\cmp=sH/\w=w') (λ _ _ _ _ _ _ _ _ _ _=>0) ?_ ?_
 ·exact⟨rfl,rfl,rfl,rfl,rfl,rfl,rfl⟩
 ·rintro _ _ _ _ _ _ _ _ _ J ⟨rfl,rfl,rfl,rfl,rfl,rfl,rfl⟩;unfold Ga;have e:aq af ((l.length:Int)-0)=(l.length:Int):=by rw[bk (by omega) (by omega)];omega
  rw[e];refine cJ (by simp;omega) (aF (ad8 h u (by omega)) ?_);intro _ w' E;exact E
theorem aea{w:ak}{p:OA}{c:Nat}{l:List (List UInt8×List UInt8)}(h:Sl db 2 w (aa p l.length c) l)(q:sI l)(u:l.length<=12):
  au ag 192 #[aa p l.length c,sH] w λ _ w'=>aS w w':=by
 apply ZV;unfold Od;rw[dV (by omega) (by omega)];refine aF (ad_ (by omega)) ?_;rintro _ w ⟨⟨m,rfl⟩,rfl⟩;refine⟨_,rfl,aF (ad' h q u) ?_⟩;intro _ w' r;exact r
theorem aeb:nV ag 237 231 2 32 [aC dk,aC dk]:=⟨by kernel_rfl,by kernel_rfl,rfl,by decide⟩
theorem RV{w:ak}{v:ay}{l:List (List UInt8×List UInt8)}{x:List UInt8×List UInt8}{K:OA->Nat->Nat->ak->Prop}(h:Own w 2 v l.length (l.flatMap db))(hl:l.length<=1000000)
  (W:∀p c w',Own w' 2 (aa p (l.length+1) c) (l.length+1) ((l++[x]).flatMap db)->Fr (λ b _=>aN v=some b) w w'->(aN (aa p (l.length+1) c)=aN v\/∃g,aN (aa p (l.length+1) c)=some g/\w.heap.size<=g)->K p (l.length+1) c w'):
  aP ag (bw 237 1 #[(0,aV #[aC (bs x.1),aC (bs x.2)])]) w λ r w1=>az (ax r) λ sP sL Z=>
   aP ag (cM #[237,237] 237 #[v,aa sP sL Z]) w1 λ J w2=>az (ax J) λ p n c=>K p n c w2:=by
 have Q:(bw 237 1 #[(0,aV #[aC (bs x.1),aC (bs x.2)])]).run ag w= .ok (aa (some ⟨w.heap.size,0,none⟩) 1 1) (w.alloc (.cells ⟨[aC (bs x.1),aC (bs x.2)]⟩ 231)):=by kernel_rfl
 refine⟨_,_,Q,_,_,_,rfl, ?_⟩;have y:=bA w (.cells ⟨[aC (bs x.1),aC (bs x.2)]⟩ 231);have I:=aX.new w 2 [aC (bs x.1),aC (bs x.2)] 231 1 1 rfl (bB _);have E:=aX.src (P:=ag) (tx:=237) (d:=231) (by kernel_rfl) I (by intro u N;simp at N;obtain rfl|rfl:=N<;>rfl);obtain⟨v',w',X,G,R,q⟩:=Own.append (ty:=237) aeb (h.aH y) E (by omega) (by omega);obtain⟨p,c,rfl,_⟩:=G.ex;refine⟨_,w',X,_,_,_,rfl,W _ _ _ ?_ (Fr.step (Fr.mono y (λ _ _ _ x=>x.elim)) R (λ b o h _=>h.1)) ?_⟩
 ·simpa[db] using G
 ·rcases q with q|⟨g,U,H⟩
  ·exact .inl q
  ·exact .inr ⟨g,U,eX y.size H⟩
theorem aec{w:ak}{p:OA}{c:Nat}{l:List (List UInt8×List UInt8)}(h:Sl db 2 w (aa p l.length c) l)(hl:l.length<=1000):
  au ag 138 #[aa p l.length c] w λ r w'=>Own w' 2 r l.length (l.flatMap db)/\aS w w'/\∀g,aN r=some g->w.heap.size<=g:=by
 apply YU;unfold v138;refine YT (λ oP oL oC p' L' C' t7 t8 w'=>p=p'/\L'=l.length/\c=C'/\t7=(l.length:Int)/\aS w w'/\∃k:Nat,t8=(k:Int)/\k<=l.length/\Own w' 2 (aa oP oL oC) (l.take k).length ((l.take k).flatMap db)/\(∀g,aN (aa oP oL oC)=some g->w.heap.size<=g))
  (λ _ _ _ _ _ _ t7 t8 _=>(t7-t8).toNat) ?_ ?_
 ·exact⟨rfl,rfl,rfl,rfl,aS.refl w,0,rfl,by omega,Own.nil w 2,λ g N=>by cases N⟩
 ·rintro oP oL oC _ _ _ _ _ w1 ⟨rfl,rfl,rfl,rfl,U,k,rfl,qN,ho,E⟩;unfold FQ;refine bn (λ W=> ?_) (λ W=> ?_)
  ·have G:k<l.length:=by simp at W;omega
   refine Sl.ix (enc:=db) (z:=2) (λ _=>rfl) (by omega) (Sl.aH h U) (by omega) (by omega) (λ a ou ha=> ?_);have J:=ha 0 _ rfl;have K:=ha 1 _ rfl;simp only[fH] at J K;refine⟨_,J,_,K, ?_⟩;dsimp only[a_];have sG:=Ob.new w1 [aC dk,aC dk] 57;have mY:=bA w1 (.cells ⟨[aC dk,aC dk]⟩ 57);refine dB (m:=2) sG (Fr.refl _ _) 0 (by simp) (by omega) _ (by trivial) (λ w2 gy Z=> ?_);refine dB gy Z 1 (by simp) (by omega) _ (by trivial) (λ w3 Q R5=> ?_);have H:aS w1 w3:=Fr.new mY R5 (by rintro b o ⟨rfl,_⟩;exact bB _);refine⟨_,by simpa using Q.at 0 rfl,_,Q.at 1 rfl, ?_⟩;have u:(l.take k).length=k:=by simp;omega
   dsimp only;refine RV (x:=l[k]) (ho.aH H) (by omega) (λ q cq w' lO X y=> ?_);have R:=lO;rw[<-jm G,u] at R;have I:(l.take (k+1)).length=k+1:=by simp;omega
   have e:aq af ((k:Int)+1)=((k+1:Nat):Int):=by rw[bk (by omega) (by omega)];omega
   rw[e,u];refine⟨⟨rfl,rfl,rfl,rfl,Fr.new (U.trans H) X (λ b o hb=>E b hb),k+1,rfl,by omega, ?_, ?_⟩,by omega⟩
   ·rw[I];exact R
   ·intro g N;rw[u] at y;rcases y with y|⟨g',yD,hle⟩
    ·exact E g (y▸N)
    ·rw[yD] at N;cases N;have:=(U.trans H).size;omega
  ·have G:k=l.length:=by simp at W;omega
   subst G;rw[fY] at ho;exact⟨ho,U,E⟩
theorem aee{w:ak}{p:OA}{c:Nat}{l:List (List UInt8×List UInt8)}(h:Sl db 2 w (aa p l.length c) l)(E:0<l.length){g:Nat}(r:aN (aa p l.length c)=some g):g<w.heap.size:=by
 cases p with
 |none=>cases r
 |some a=>
  cases r;obtain⟨_,_,y,_,_,G⟩:=h;cases y;cases l with
  |nil=>simp at E
  |cons x l=>
   obtain⟨H,u,_,q⟩:=G 0 (aC (bs x.1)) rfl;cases u;have:=iH q;rwa[cT] at this
theorem aef{w:ak}{p:OA}{c:Nat}{l:List (List UInt8×List UInt8)}(h:Sl db 2 w (aa p l.length c) l)(hp:0<l.length)(ha:sI l)(hs:ia l)(hl:l.length<=12)(Q:(bh l).length<=1073741824):
  au ag 137 #[aa p l.length c] w λ r w'=>r=mX l/\aS w w':=by
 apply ZU;unfold Oc;dsimp only[a_];have ho:=Ob.new w [aC dk] 136;have G:=bA w (.cells ⟨[aC dk]⟩ 136);have R:w.heap.size<(w.alloc (.cells ⟨[aC dk]⟩ 136)).heap.size:=by simp
 generalize w.alloc (.cells ⟨[aC dk]⟩ 136)=w1 at ho G R;refine aF (aea (Sl.aH h G) ha hl) ?_;intro _ w2 y;have q:=G.trans y;refine aF (RM (Sl.aH h q) hs Q) ?_;rintro _ H ⟨rfl,E⟩;have J:=q.trans E;refine⟨_,rfl, ?_⟩;obtain⟨w4,jT,jS,N⟩:=LN (z:=ah aG 0) qH H (bh l).length (by omega) (by omega);have x:=J.trans N;refine⟨_,w4,jT,_,_,_,rfl, ?_⟩;have Ii:w.heap.size<H.heap.size:=by
  have:=(y.trans E).size;omega
 have Z:aN (aa p l.length c)≠some H.heap.size:=by
  intro hb;have:=aee h hp hb;omega
 have e1:(jx (bh l).length (ah aG 0)).length=(bh l).length:=by simp
 have k5:=RS (w:=w4) (c2:=(bh l).length) (a:=⟨H.heap.size,0,none⟩) (cs:=jx (bh l).length (ah aG 0)) (Sl.aH h x) Z hs jS.ob (by simp) (by simp;exact Q) (by simp);rw[e1] at k5;refine aF k5 ?_;rintro _ W ⟨⟨m,rfl⟩,jR,I⟩;have K:aS w W:=Fr.new x I (by rintro b o ⟨rfl,_⟩;show w.heap.size<=H.heap.size;omega);have X:cz W (aa (some ⟨H.heap.size,0,none⟩) (bh l).length (bh l).length) (bh l):=
  ⟨_,_,rfl,bB _,by rw[kF (z:=1) (λ _=>rfl)],λ j u hj=>⟨_,rfl,rfl,jR.at j hj⟩⟩
 refine⟨_,rfl,aF (RU X) ?_⟩;rintro _ W ⟨rfl,rfl⟩;have U:Ob W ⟨w.heap.size,0,none⟩ [aC dk]:=(ho.aH ((y.trans E).trans N)).fr I (λ o _ _ h=>by
  have:=h.1;simp at this;omega)
 refine⟨_,rfl, ?_⟩;refine dB (m:=1) U (Fr.refl _ _) 0 (by simp) (by omega) _ (by trivial) (λ w6 iJ I2=> ?_);exact⟨_,iJ.at 0 rfl,rfl,Fr.new K I2 (by rintro b o ⟨rfl,_⟩;exact bB _)⟩
theorem k63{w:ak}{p:OA}{c:Nat}{l:List (List UInt8×List UInt8)}(h:Sl db 2 w (aa p l.length c) l)(Q:0<l.length)(K:sI l)(R:ia l)(N:l.length<=12)(G:(bh l).length<=1073741824):
  au ag 63 #[aa p l.length c] w λ r w'=>r=mX l/\aS w w':=by
 apply ZT;unfold Oa;dsimp only[a_];have I:=Ob.new w [aC dk] 136;have u:=bA w (.cells ⟨[aC dk]⟩ 136);generalize w.alloc (.cells ⟨[aC dk]⟩ 136)=W at I u;refine aF (aec (Sl.aH h u) (by omega)) ?_;rintro r X ⟨J,x,_⟩;obtain⟨q,U,rfl,_⟩:=J.ex;refine⟨_,_,_,rfl,aF (aef J.cV Q K R N G) ?_⟩;rintro _ Z ⟨rfl,y⟩;refine⟨_,rfl, ?_⟩;refine dB (m:=1) (I.aH (x.trans y)) (Fr.refl _ _) 0 (by simp) (by omega) _ (by trivial) (λ w6 H E=> ?_);exact⟨_,H.at 0 rfl,rfl,Fr.new (u.trans (x.trans y)) E (by rintro b o ⟨rfl,_⟩;exact bB _)⟩
end Go.Proofs
namespace Go.V
def df(l:List (List UInt8)):List UInt8:=l.flatMap cN
theorem m_(a b:List (List UInt8)):df (a++b)=df a++df b:=by simp[df]
theorem na(x:List UInt8)(l:List (List UInt8)):df (x::l)=cN x++df l:=by simp[df]
def ib(l:List (List UInt8×List UInt8)):List (List UInt8):=l.flatMap λ x=>[x.1,x.2]
theorem uJ:∀l,bh l=df (ib l):=by
 intro l;induction l with
 |nil=>rfl
 |cons x l c=>
  rw[kK,c];simp[ib,df]
theorem CE{l:List (List UInt8×List UInt8)}(h:ia l):∀s∈ib l,s.length<=200:=by
 intro s c;simp only[ib,jJ,dX,List.not_mem_nil,or_false] at c;obtain⟨x,q,rfl|rfl⟩:=c
 ·exact(h x q).1
 ·exact(h x q).2
def CF(A B:List (List UInt8)):Prop:=
 (∃x c,A=B++x::c)\/∃C x y c h,A=C++x::c/\B=C++y::h/\ds y x=true
theorem nf:∀x:List UInt8,ds x x=false:=by
 intro x;induction x with
 |nil=>rfl
 |cons a x c=>unfold ds;simp[c]
theorem aeh:∀(x y:List UInt8),x.length=y.length->x≠y->∃k,k<x.length/\x[k]? ≠y[k]? /\∀j,j<k->x[j]? =y[j]? :=by
 intro x;induction x with
 |nil=>intro y q c;cases y with|nil=>exact absurd rfl c|cons b y=>simp at q
 |cons a x E=>
  intro y q c;cases y with
  |nil=>simp at q
  |cons b y=>
   by_cases h:a=b
   ·subst h;obtain⟨k,G,u,w⟩:=E y (by simpa using q) (λ e=>c (by rw[e]));refine⟨k+1,by simp;omega,by simpa using u,λ j r=> ?_⟩;cases j with
    |zero=>rfl
    |succ j=>simpa using w j (by omega)
   ·exact⟨0,by simp,by simpa using h,λ j r=>absurd r (oR _)⟩
theorem aei(x y a b:List UInt8)(E:x.length<=200)(G:y.length<=200)(c:x≠y):
  ∃k,k<=x.length/\k<(cN y++b).length/\(cN x++a)[k]? ≠(cN y++b)[k]? /\∀j,j<k->(cN x++a)[j]? =(cN y++b)[j]? :=by
 by_cases q:x.length=y.length
 ·obtain⟨k,w,r,u⟩:=aeh x y q c;refine⟨k+1,by omega,by simp[cN];omega, ?_,λ j h=> ?_⟩
  ·simp only[cN,List.cons_append,List.getElem?_cons_succ];rw[oT w,oT (by omega)];exact r
  ·cases j with
   |zero=>simp[cN,q]
   |succ j=>
    simp only[cN,List.cons_append,List.getElem?_cons_succ];rw[oT (by omega),oT (by omega)];exact u j (by omega)
 ·refine⟨0,dO _,by simp[cN], ?_,λ j h=>absurd h (oR _)⟩;simp only[cN,List.cons_append,List.getElem?_cons_zero,ne_eq,Option.some.injEq];intro e;have:=congrArg UInt8.toNat e;simp at this;omega
theorem aej{A B:List (List UInt8)}{C c q:List (List UInt8)}{x y:List UInt8}(N:A=C++x::c)(Q:B=C++y::q)(U:x.length<=200)(W:y.length<=200)(w:x≠y):
  ∃d,(df C).length<=d/\d<=(df C).length+x.length/\d<(df A).length/\d<(df B).length/\(df A)[d]? ≠(df B)[d]? /\∀j,j<d->(df A)[j]? =(df B)[j]? :=by
 obtain⟨k,Z,R,J,K⟩:=aei x y (df c) (df q) U W w;subst N Q;have H:df (C++x::c)=df C++(cN x++df c):=by rw[m_,na]
 have I:df (C++y::q)=df C++(cN y++df q):=by rw[m_,na]
 have r:∀(u:List UInt8) (j:Nat),(df C++u)[(df C).length+j]? =u[j]? :=λ u j=>by
  rw[rE (by omega),tz]
 have E:∀(u:List UInt8) (j:Nat),j<(df C).length->(df C++u)[j]? =(df C)[j]? :=λ u j h=>oT h
 rw[H,I];refine⟨(df C).length+k,by omega,by omega,by simp[cN];omega,by rw[aY];omega, ?_,λ j X=> ?_⟩
 ·rw[r,r];exact J
 ·by_cases G:j<(df C).length
  ·rw[E _ _ G,E _ _ G]
  ·obtain⟨m,rfl⟩:∃m,j=(df C).length+m:=⟨j-(df C).length,by omega⟩;rw[r,r];exact K _ (by omega)
end Go.V
namespace Go.Proofs
open Go Go.V
theorem eG(l:List UInt8):(bs l).toList=l:=ByteArray.toList_eq _
theorem CG{l:List UInt8}{i:Nat}(h:i<l.length):((bs l).data.getD ((i:Nat):Int).toNat 0).toNat=(l[i]'h).toNat:=by
 simp[h]
theorem l5{K:ay->ak->Prop}{a b:kd}{w:ak}{s l:List UInt8}{d:Nat}(hd:d<=s.length)(q:s.length<=l.length)(heq:∀j,j<d->s[j]? =l[j]?)(x:d=s.length\/s[d]? ≠l[d]?)(N:l.length<=1073741824)
  (J:∀w',aS w w'->rX K a b (bs s) (d:Int) w'):F5 K a b (bs s) (bs l) 0 w:=by
 refine Z_ (λ R U s' l' i w'=>a=R/\b=U/\s'=bs s/\l'=bs l/\aS w w'/\∃j:Nat,i=(j:Int)/\j<=d) (λ _ _ _ _ i _=>(d-i).toNat) ?_ ?_
 ·exact⟨rfl,rfl,rfl,rfl,aS.refl w,0,rfl,dO _⟩
 ·rintro _ _ _ _ _ Q ⟨rfl,rfl,rfl,rfl,u,j,rfl,X⟩;unfold F4;have r:((bs s).size:Int)=(s.length:Int):=by rw[fB]
  have y:((bs l).size:Int)=(l.length:Int):=by rw[fB]
  by_cases G:j=d
  ·subst G;by_cases H:j=s.length
   ·refine aT (by rw[r];simp;omega) (J _ u)
   ·have c:j<s.length:=by omega
    refine cJ (by rw[r];simp;omega) ⟨⟨by omega,by rw[r];omega⟩,⟨by omega,by rw[y];omega⟩, ?_⟩;rw[CG c,CG (dR c q)];refine cJ ?_ (J _ (u.trans (cu Q)));rcases x with h|h
    ·exact absurd h H
    ·rw[gH c,gH (dR c q)] at h;have W:(s[j]'c).toNat≠(l[j]'(dR c q)).toNat:=λ e=>h (congrArg some (UInt8.toNat_inj.1 e))
     simp only[bne_iff_ne,ne_eq];omega
  ·have c:j<s.length:=by omega
   refine cJ (by rw[r];simp;omega) ⟨⟨by omega,by rw[r];omega⟩,⟨by omega,by rw[y];omega⟩, ?_⟩;rw[CG c,CG (dR c q)];have I:=heq j (by omega);rw[gH c,gH (dR c q)] at I;have E:s[j]'c=l[j]'(dR c q):=iW I;rw[E];refine aT (by simp) ?_;have e:aq af ((j:Int)+1)=((j+1:Nat):Int):=by rw[bk (by omega) (by omega)];omega
   rw[e];exact⟨⟨rfl,rfl,rfl,rfl,u.trans (cu Q),j+1,rfl,by omega⟩,by omega⟩
theorem l12{K:ay->ak->Prop}{a b:kd}{w:ak}{C G Q:List (List UInt8)}{x y:List UInt8}{d:Nat}(hC:∀s∈C,s.length<=200)(hx:x.length<=200)(hy:y.length<=200)
  (ha:at_ w a (aC (bs (df (C++x::G)))))(hb:at_ w b (aC (bs (df (C++y::Q)))))(u:(df (C++x::G)).length<=1073741824)(sJ:(df (C++y::Q)).length<=1073741824)
  (h1:(df C).length<=d)(h2:d<=(df C).length+x.length)(gU:ds x y=false)(hk:∀w',aS w w'->K (ah af 1) w')
  {n0 n1:Int}(hn:∃z Z,C++x::G=z::Z/\n0=(z.length:Int)/\n1=1):F3 K a b 0 (d:Int) n0 n1 w:=by
 refine Z9 (λ a' b' i f s n w'=>a=a'/\b=b'/\f=(d:Int)/\w=w'/\∃c h:List (List UInt8),C=c++h/\i=((df c).length:Int)/\∃z Z,h++x::G=z::Z/\s=(z.length:Int)/\n=((df c).length:Int)+1)
  (λ _ _ i _ _ _ _=>(d+1-i).toNat) ?_ ?_
 ·obtain⟨z,Z,e,rfl,rfl⟩:=hn;exact⟨rfl,rfl,rfl,rfl,[],C,rfl,rfl,z,Z,e,rfl,rfl⟩
 ·rintro _ _ _ _ _ _ w1 ⟨rfl,rfl,rfl,rfl,c,h,rfl,rfl,z,Z,U,rfl,rfl⟩;unfold F2;have W:(df (c++h)).length=(df c).length+(df h).length:=by rw[m_,aY]
  cases h with
  |nil=>
   simp only[oS,List.cons.injEq] at U;obtain⟨rfl,rfl⟩:=U;simp only[iA] at*;have aoV:(df c).length+(x.length+1+(df G).length)<=1073741824:=by rw[m_,na,aY,aY,eK] at u;exact u
   refine aT (by rw[bk (by omega) (by omega)];simp;omega) ⟨_,ha, ?_⟩;dsimp only;have H:df (c++x::G)=df c++(cN x++df G):=by rw[m_,na]
   have eb:df (c++y::Q)=df c++(cN y++df Q):=by rw[m_,na]
   rw[H];refine aF (uI rfl hx (by rw[<-H];exact u)) ?_;rintro _ w1 ⟨rfl,rfl⟩;refine⟨_,_,rfl,_,rfl,_,rfl,_,hb, ?_⟩;dsimp only;rw[eb];refine aF (uI rfl hy (by rw[<-eb];exact sJ)) ?_;rintro _ w1 ⟨rfl,rfl⟩;exact⟨_,_,rfl,_,rfl,_,rfl,aT (by rw[eG,eG];exact gU) (hk _ (aS.refl _))⟩
  |cons E h=>
   simp only[List.cons_append,List.cons.injEq] at U;obtain⟨rfl,rfl⟩:=U;have lI:=hC E (by simp);have X:(df (E::h)).length=E.length+1+(df h).length:=by rw[na,aY,eK]
   have I:=u;rw[m_,aY,W,X] at I;have e:aq af (((df c).length:Int)+1+(E.length:Int))=(((df (c++[E])).length:Nat):Int):=by
    rw[m_,aY,na,aY,eK];have:(df []).length=0:=rfl;rw[this,bk (by omega) (by omega)];omega
   have e2:(df (c++[E])).length=(df c).length+(E.length+1):=by
    rw[m_,aY,na,aY,eK];rfl
   rw[e];refine cJ (by simp;omega) ⟨_,ha, ?_⟩;dsimp only;obtain⟨N,R,r⟩:∃N R,h++x::G=N::R:=by cases h with|nil=>exact⟨_,_,rfl⟩|cons q h=>exact⟨_,_,rfl⟩
   have H:df (c++E::h++x::G)=df (c++[E])++(cN N++df R):=by
    rw[<-na,<-r,<-m_];simp
   have J:N.length<=200:=by
    cases h with
    |nil=>simp at r;rw[<-r.1];exact hx
    |cons q h=>simp at r;rw[<-r.1];exact hC q (by simp)
   rw[H];refine aF (yA rfl J (by rw[<-H];exact u)) ?_;rintro _ w1 ⟨rfl,rfl⟩;refine⟨_,_,rfl,_,rfl,_,rfl,⟨rfl,rfl,rfl,rfl,c++[E],h,by simp,rfl,N,R,r,rfl,by omega⟩,by omega⟩
theorem ael{x y:List UInt8}(h:ds y x=true):ds x y=false:=by
 have r:=(yC y x).2 h;cases c:ds x y with
 |false=>rfl
 |true=>
  have q:=(yC x y).2 c;rw[Ih] at q;omega
theorem aem{w:ak}{la u:List (List UInt8×List UInt8)}(W:ia la)(CH:ia u)(I:(bh la).length<=1073741824)(sJ:(bh u).length<=1073741824)(h:CF (ib la) (ib u)):
  au ag 128 #[mX la,mX u] w λ r w'=>(∃n:Int,0<n/\r=ah af n)/\aS w w':=by
 apply aaa;unfold On;dsimp only[a_];have Ij:=Ob.new w [aC (bs (bh la))] 136;have mY:=bA w (.cells ⟨[aC (bs (bh la))]⟩ 136);have yF:=bA (w.alloc (.cells ⟨[aC (bs (bh la))]⟩ 136)) (.cells ⟨[aC (bs (bh u))]⟩ 136);have U:=Ob.new (w.alloc (.cells ⟨[aC (bs (bh la))]⟩ 136)) [aC (bs (bh u))] 136;have J:=Ij.aH yF;have Q:=mY.trans yF;generalize (w.alloc (.cells ⟨[aC (bs (bh la))]⟩ 136)).heap.size=r1 at U;generalize (w.alloc (.cells ⟨[aC (bs (bh la))]⟩ 136)).alloc (.cells ⟨[aC (bs (bh u))]⟩ 136)=w2 at J U Q;have N:∀w',aS w2 w'->at_ w' ⟨w.heap.size,0,none⟩ (aC (bs (bh la))):=λ w' hk=>hk.at (by simpa using J.at 0 rfl)
 have hb:∀w',aS w2 w'->at_ w' ⟨r1,0,none⟩ (aC (bs (bh u))):=λ w' hk=>hk.at (by simpa using U.at 0 rfl)
 have E:=cu w2;refine⟨_,N _ E,_,hb _ E,_,hb _ E,_,N _ E, ?_⟩;dsimp only;rw[fB,fB];have G:=E.trans (cu w2.drew);rcases h with⟨x,A',K⟩|⟨C,x,y,A',B',K,hB,R⟩
 ·have X:bh la=bh u++df (x::A'):=by rw[uJ,uJ,K,m_]
  have hl:(bh la).length=(bh u).length+(x.length+1+(df A').length):=by rw[X,aY,na,aY,eK]
  refine cJ (by simp;omega) ⟨_,hb _ G,_,N _ G, ?_⟩;unfold tV;refine l5 (d:=(bh u).length) (bB _) (by omega) (λ j hj=>by rw[X,oT hj]) (.inl rfl) I (λ w' H=> ?_);unfold rX;have c:=G.trans H;refine cJ (by rw[fB];simp) ⟨_,N _ c,_,hb _ c,⟨_, ?_,rfl⟩,Q.trans c⟩;rw[fB,fB,bk (by omega) (by omega)];omega
 ·have hx:x.length<=200:=CE W x (by rw[K];simp);have hy:y.length<=200:=CE CH y (by rw[hB];simp);have hCs:∀s∈C,s.length<=200:=λ s hs=>CE W s (by rw[K];simp[hs])
  have eY:x≠y:=λ e=>by subst e;rw[nf] at R;cases R
  obtain⟨d,d1,d2,d3,d4,d5,d6⟩:=aej K hB hx hy eY;rw[<-uJ] at d3 d4 d5 d6;rw[<-uJ] at d5 d6;have X:bh la=df (C++x::A'):=by rw[uJ,K]
  have eb:bh u=df (C++y::B'):=by rw[uJ,hB]
  have fin:∀(s:List UInt8) (w':ak),d<s.length->aS w2 w'->rX (λ r w'=>(∃n:Int,0<n/\r=ah af n)/\aS w w') ⟨w.heap.size,0,none⟩ ⟨r1,0,none⟩ (bs s) (d:Int) w':=by
   intro s w' hds c;unfold rX;refine aT (by rw[fB];simp;omega) ⟨_,N _ c, ?_⟩;dsimp only;obtain⟨z,Z,hz⟩:∃z Z,C++x::A'=z::Z:=by cases C with|nil=>exact⟨_,_,rfl⟩|cons q C=>exact⟨_,_,rfl⟩
   have lI:z.length<=200:=CE W z (by rw[K,hz];simp);have ez:bh la=[]++(cN z++df Z):=by rw[X,hz,na];rfl
   rw[ez];refine aF (yA (i:=0) rfl lI (by rw[<-ez];exact I)) ?_;rintro _ w' ⟨rfl,rfl⟩;refine⟨_,_,rfl,_,rfl,_,rfl, ?_⟩;have uK:=N _ c;have gD:=hb _ c;rw[X] at uK;rw[eb] at gD;exact l12 hCs hx hy uK gD (by rw[<-X];exact I) (by rw[<-eb];exact sJ) d1 d2 (ael R) (λ w'' aeo=>⟨⟨1,by omega,rfl⟩,Q.trans (c.trans aeo)⟩) ⟨z,Z,hz,rfl,rfl⟩
  refine bn (λ hc=> ?_) (λ hc=> ?_)
  ·have CI:(bh u).length<(bh la).length:=by simp at hc;omega
   refine⟨_,hb _ G,_,N _ G, ?_⟩;unfold tV;exact l5 (d:=d) (by omega) (by omega) (λ j hj=>(d6 j hj).symm) (.inr (λ e=>d5 e.symm)) I (λ w' H=>fin _ _ d4 (G.trans H))
  ·have CI:(bh la).length<=(bh u).length:=by simp at hc;omega
   unfold tV;exact l5 (d:=d) (by omega) CI d6 (.inr d5) sJ (λ w' H=>fin _ _ d3 (E.trans H))
end Go.Proofs
namespace Go.V
theorem RW{w:ak}{cs:Array ay}{e:cK}{f:Nat×Nat}{i:Nat}{v:ay}(h:cs[i]? =some v):at_ (w.alloc (.cells cs e f)) ⟨w.heap.size,i,none⟩ v:=by
 unfold at_ World.cell?;rw[show(w.alloc (.cells cs e f)).heap=w.heap.push (.cells cs e f) from rfl];simp[h]
theorem RX{P:bU}{src dst e:cK}(H:P.underlying src=some .string)(hd:P.underlying dst=some (.slice e))(E:P.underlying e=some (.int .u8))(w:ak)(s:List UInt8):
  ∃c w',(dq src dst (aC (bs s))).run P w= .ok (aa (some ⟨w.heap.size,0,none⟩) s.length c) w'/\cz w' (aa (some ⟨w.heap.size,0,none⟩) s.length c) s/\aS w w':=by
 have G:=run_bytes_of_string w src dst e (bs s) H hd E;have h:=grownCap_ge w (bs s).size 0 e;refine⟨_,_,G,⟨_,_,rfl,h,by rw[kF (z:=1) (λ _=>rfl)],λ j u q=>⟨_,rfl,rfl, ?_⟩⟩,(cu w).trans (bA w.drew _)⟩;have x:s.flatMap fK=s.map λ b=>ah aG (b.toNat:Int):=qA _ _
 have y:(⟨w.heap.size,0,none⟩:kd).add j=⟨w.drew.heap.size,j,none⟩:=by
  unfold aw;split<;>simp_all
 rw[y];apply RW;rw[x] at q;have r:j<s.length:=by have:=(oQ.1 q).1;simpa using this
 unfold bytesRow;rw[Array.getElem?_append_left (by simpa using r)];simpa using q
end Go.V
namespace Go.Proofs
open Go Go.V
theorem aep:nV ag 44 57 2 32 [aC dk,aC dk]:=⟨by kernel_rfl,by kernel_rfl,rfl,by decide⟩
def pE(w:ak)(c:kd)(l:List (List UInt8×List UInt8))(base:Nat):Prop:=
 c.spot=none/\∃v,Ob w c [v]/\Own w 2 v l.length (l.flatMap db)/\aN v≠some c.block/\∀g,aN v=some g->base<=g
theorem aeq{w:ak}{c:kd}{l:List (List UInt8×List UInt8)}{x:List UInt8×List UInt8}{base:Nat}(h:pE w c l base)(aoX:base<=w.heap.size)(hx:x.1.length<=1000/\x.2.length<=1000)(hl:l.length<=1000000):
  au ag 214 #[aV #[aC (bs x.1),aC (bs x.2)],an (some c)] w λ _ w'=>pE w' c (l++[x]) base/\Fr (λ b _=>b=c.block\/base<=b) w w':=by
 apply aam;unfold OB;dsimp only[a_];have ho:=Ob.new w [aC (bs x.1),aC (bs x.2)] 231;have I:=bA w (.cells ⟨[aC (bs x.1),aC (bs x.2)]⟩ 231);generalize w.alloc (.cells ⟨[aC (bs x.1),aC (bs x.2)]⟩ 231)=w1 at ho I;obtain⟨hs,v,J,hv,U,hb⟩:=h;obtain⟨p,cp,rfl,_⟩:=hv.ex;refine⟨_,_,_,by simpa using(J.aH I).at 0 rfl,_,by simpa using ho.at 0 rfl, ?_⟩;obtain⟨q1,w2,lN,Z,R⟩:=RX (P:=ag) (src:=9) (dst:=26) (e:=5) (by kernel_rfl) (by kernel_rfl) (by kernel_rfl) w1 x.1;refine⟨_,w2,lN,_,_,_,rfl,_,w2,mU Z,_,rfl, ?_⟩;refine⟨_,(ho.aH R).at 1 rfl, ?_⟩;obtain⟨q2,K,mj,je,rR⟩:=RX (P:=ag) (src:=9) (dst:=26) (e:=5) (by kernel_rfl) (by kernel_rfl) (by kernel_rfl) w2 x.2;refine⟨_,K,mj,_,_,_,rfl,_,K,mU je,_,rfl, ?_⟩;have Q:=I.trans (R.trans rR);have Ik:(bw 44 1 #[(0,aV #[aC (bs x.1),aC (bs x.2)])]).run ag K= .ok (aa (some ⟨K.heap.size,0,none⟩) 1 1) (K.alloc (.cells ⟨[aC (bs x.1),aC (bs x.2)]⟩ 57)):=by kernel_rfl
 refine⟨_,_,Ik,_,_,_,rfl, ?_⟩;have ko:=bA K (.cells ⟨[aC (bs x.1),aC (bs x.2)]⟩ 57);have iP:=aX.new K 2 [aC (bs x.1),aC (bs x.2)] 57 1 1 rfl (bB _);have W:=aX.src (P:=ag) (tx:=44) (d:=57) (by kernel_rfl) iP (by intro u hu;simp at hu;obtain rfl|rfl:=hu<;>rfl);have r:=Q.trans ko;obtain⟨v',w5,Il,X,N,H⟩:=Own.append (ty:=44) aep (hv.aH r) W (by omega) (by omega);obtain⟨p',G,rfl,_⟩:=X.ex;refine⟨_,w5,Il,_,_,_,rfl, ?_⟩;have E:=(J.aH r).fr N (λ o _ _ h=>U h.1);have aoY:c.block<w.heap.size:=J.lt (by simp);have q:∀g,aN (aa p' (l.length+1) G)=some g->base<=g/\g≠c.block:=by
  intro g y;rcases H with H|⟨g',yD,hle⟩
  ·rw[H] at y;exact⟨hb g y,λ e=>U (by rw[y,e])⟩
  ·rw[yD] at y;cases y;have:=r.size;exact⟨by omega,by omega⟩
 refine⟨⟨trivial,by simpa using E.can 0 (by simp)⟩,⟨hs,_, ?_, ?_,λ e=>(q _ e).2 rfl,λ g y=>(q g y).1⟩, ?_⟩
 ·have:=E.set 0 (by simp) (aa p' (l.length+1) G);simpa using this
 ·have h6:=X.fr (Fr.set w5 c (aa p' (l.length+1) G)) (λ g y o h=>(q g y).2 h.1);simpa[db] using h6
 ·refine Fr.step (Fr.step (Fr.mono r (λ _ _ _ x=>x.elim)) N (λ b o h _=> .inr (hb b h.1))) (Fr.set w5 c _) ?_;rintro b o ⟨rfl,_⟩ _;exact .inl rfl
theorem aer{w:ak}{f:ay}{l:List (List UInt8×List UInt8)}(I:List (List UInt8×List UInt8)->ak->Prop)(hs:ia l)(E:(bh l).length<=1073741824)
  (X:∀w',aS w w'->w.heap.size<w'.heap.size->I [] w')(q:∀a x b w',l=a++x::b->I a w'->eJ ag f #[aV #[aC (bs x.1),aC (bs x.2)]] w' λ _ w''=>I (a++[x]) w''/\∃S,Fr S w' w''/\∀o,¬S w.heap.size o):
  au ag 213 #[mX l,f] w λ _ w'=>I l w':=by
 apply aal;unfold aug;dsimp only[a_];have N:=Ob.new w [aC (bs (bh l))] 136;have K:=bA w (.cells ⟨[aC (bs (bh l))]⟩ 136);have u:w.heap.size<(w.alloc (.cells ⟨[aC (bs (bh l))]⟩ 136)).heap.size:=by simp
 generalize w.alloc (.cells ⟨[aC (bs (bh l))]⟩ 136)=w0 at N K u;refine aak (λ W ls i w'=>f=W/\ls=⟨w.heap.size,0,none⟩/\at_ w' ⟨w.heap.size,0,none⟩ (aC (bs (bh l)))/\∃a b:List (List UInt8×List UInt8),l=a++b/\i=((bh a).length:Int)/\I a w')
  (λ _ _ i _=>((bh l).length-i).toNat) ?_ ?_
 ·exact⟨rfl,rfl,by simpa using N.at 0 rfl,[],l,rfl,rfl,X _ K u⟩
 ·rintro _ _ i G ⟨rfl,rfl,c,a,b,rfl,rfl,J⟩;unfold F8;refine⟨_,c, ?_⟩;dsimp only;cases b with
  |nil=>
   rw[iA] at*;exact aT (by rw[fB];simp) J
  |cons x b=>
   have Q:=hs x (by simp);have h:bh (a++x::b)=bh a++(cN x.1++(cN x.2++bh b)):=by rw[ot,kK]
   have H:bh (a++x::b)=(bh a++cN x.1)++(cN x.2++bh b):=by rw[h];simp
   have r:=E;rw[h] at r;simp only[aY,eK] at r;have gL:(bh (a++x::b)).length=(bh a).length+(x.1.length+1+(x.2.length+1+(bh b).length)):=by rw[h];simp only[aY,eK]
   refine cJ (by rw[fB];simp;omega) ⟨_,c, ?_⟩;dsimp only;rw[h];refine aF (uI rfl Q.1 (by rw[<-h];exact E)) ?_;rintro _ G ⟨rfl,rfl⟩;refine⟨_,_,rfl,_,rfl,_,rfl,_,c, ?_⟩;have R:(((bh a).length+1+x.1.length:Nat):Int)=(((bh a++cN x.1).length:Nat):Int):=by
    rw[aY,eK];omega
   dsimp only;rw[R,H];refine aF (uI rfl Q.2 (by rw[<-H];exact E)) ?_;rintro _ G ⟨rfl,rfl⟩;refine⟨_,_,rfl,_,rfl,_,rfl, ?_⟩;obtain⟨g,args,hr,hc⟩:=q a x b G rfl J;refine⟨g,args,hr,aF hc ?_⟩;rintro _ w2 ⟨y,S,hf,Z⟩;have U:(bh (a++[x])).length=(bh a++cN x.1).length+1+x.2.length:=by
    rw[ot,kK];simp[eK,bh];omega
   have e4:(bh a++cN x.1).length=(bh a).length+(x.1.length+1):=by rw[aY,eK]
   refine⟨⟨rfl,rfl, ?_,a++[x],b,by simp, ?_,y⟩, ?_⟩
   ·rw[<-h];exact hf.at c (Z _)
   ·rw[U]
   ·rw[<-h];omega
theorem aes{w:ak}{l:List (List UInt8×List UInt8)}(hs:ia l)(hn:l.length<=1000)(hl:(bh l).length<=1073741824):
  au ag 168 #[mX l] w λ r w'=>Own w' 2 r l.length (l.flatMap db)/\aS w w'/\∀g,aN r=some g->w.heap.size<=g:=by
 apply aan;unfold v168;dsimp only[a_];have ho:=Ob.new w [aC (bs (bh l))] 136;have K:=bA w (.cells ⟨[aC (bs (bh l))]⟩ 136);have N:(w.alloc (.cells ⟨[aC (bs (bh l))]⟩ 136)).heap.size=w.heap.size+1:=by simp
 generalize w.alloc (.cells ⟨[aC (bs (bh l))]⟩ 136)=q at ho K N;have R:=Ob.new q [aa none 0 0] 44;have E:=bA q (.cells ⟨[aa none 0 0]⟩ 44);have Q:(q.alloc (.cells ⟨[aa none 0 0]⟩ 44)).heap.size=q.heap.size+1:=by simp
 generalize q.alloc (.cells ⟨[aa none 0 0]⟩ 44)=H at R E Q;refine⟨_,(ho.aH E).at 0 rfl, ?_⟩;have J:=K.trans E;refine aF (aer (w:=H) (l:=l) (λ a w'=>pE w' ⟨q.heap.size,0,none⟩ a (H.heap.size+1)/\H.heap.size+1<=w'.heap.size/\Fr (λ b _=>b=q.heap.size\/H.heap.size+1<=b) H w') hs hl ?_ ?_) ?_
 ·intro w' Z X;refine⟨⟨rfl,aa none 0 0,R.aH Z,Own.nil w' 2, ?_, ?_⟩,X,Fr.mono Z (λ _ _ _ x=>x.elim)⟩
  ·intro h;cases h
  ·intro g h;cases h
 ·intro a x b w' I ⟨hI,G,W⟩;have hx:=hs x (by rw[I];simp);have hal:a.length<=1000:=by rw[I,aY] at hn;omega
  refine⟨214,#[aV #[aC (bs x.1),aC (bs x.2)],an (some ⟨q.heap.size,0,none⟩)],by kernel_rfl,aF (aeq hI G (by omega) (by omega)) ?_⟩;rintro _ w'' ⟨U,y⟩;refine⟨⟨U,eX G y.size,W.step y (λ b o h _=>h)⟩,_,y, ?_⟩;rintro o (h|h)
  ·have:H.heap.size=q.heap.size:=h;omega
  ·omega
 ·rintro _ w3 ⟨⟨_,v,hv,u,eY,hb⟩,G,W⟩;obtain⟨p,c,rfl,_⟩:=u.ex;refine⟨_,_,_,by simpa using hv.at 0 rfl,u, ?_,λ g hg=> ?_⟩
  ·refine Fr.new J W ?_;rintro b o (rfl|h)
   ·omega
   ·omega
  ·have:=hb g hg;omega
def SB(w:ak)(b:kd)(v:ay)(l:List (List UInt8×List UInt8))(out:ByteArray):Prop:=Ob w b [v,aC out]/\Own w 2 v l.length (l.flatMap db)/\aN v≠some b.block
def CJ(b:kd)(v:ay):Nat->Nat->Prop:=λ x o=>(x=b.block/\b.off<=o/\o<b.off+2)\/aN v=some x
theorem Im{w:ak}{b:kd}{v:ay}{l:List (List UInt8×List UInt8)}{out:ByteArray}{x:List UInt8×List UInt8}(h:SB w b v l out)(W:l.length<=1000):
  au ag 252 #[an (some b),aC (bs x.1),aC (bs x.2)] w λ _ w'=>∃v',SB w' b v' (l++[x]) out/\Fr (CJ b v) w w'/\(aN v'=aN v\/∃g,aN v'=some g/\w.heap.size<=g):=by
 obtain⟨I,N,u⟩:=h;apply aar;unfold OE;obtain⟨p,c,rfl,_⟩:=N.ex;refine⟨_,_,_,by simpa using I.at 0 rfl, ?_⟩;dsimp only;refine RV N (by omega) (λ q E w' J K G=> ?_);have y:=I.fr K (λ o _ _ h=>u h);have U:=I.lt (by simp);have r:aN (aa q (l.length+1) E)≠some b.block:=by
  intro e;rcases G with G|⟨g,H,R⟩
  ·exact u (G▸e)
  ·rw[H] at e;cases e;omega
 refine⟨⟨trivial,by simpa using y.can 0 (by simp)⟩,aa q (l.length+1) E,⟨?_, ?_,r⟩, ?_,G⟩
 ·have:=y.set 0 (by simp) (aa q (l.length+1) E);simpa using this
 ·have Q:=J.fr (Fr.set w' b (aa q (l.length+1) E)) (λ g H o h=>r (by rw[H,h.1]));rw[aY];exact Q
 ·refine Fr.step (Fr.mono K (λ x o _ h=> .inr h)) (Fr.set w' b _) ?_;rintro x o ⟨rfl,rfl⟩ _;exact .inl ⟨rfl,bB _,by omega⟩
theorem aeu{w:ak}:au ag 250 #[] w λ r w'=>r=aV #[aC (bs [])]/\aS w w':=by
 apply aat;unfold OF;dsimp only[a_];have u:=Ob.new w [aC dk] 136;have h:=bA w (.cells ⟨[aC dk]⟩ 136);refine dB (m:=1) u (Fr.refl _ _) 0 (by simp) (by omega) _ (by trivial) (λ x q c=> ?_);exact⟨_,q.at 0 rfl,rfl,Fr.new h c (by rintro b o ⟨rfl,_⟩;exact bB _)⟩
theorem CK{w:ak}{b:kd}{v:ay}{l:List (List UInt8×List UInt8)}{out:ByteArray}(h:SB w b v l out):
  au ag 211 #[an (some b)] w λ _ w'=>∃v',SB w' b v' [] (bs [])/\Fr (CJ b v) w w'/\aN v'=aN v:=by
 obtain⟨K,R,y⟩:=h;apply aaq;unfold OD;obtain⟨p,c,rfl,hc⟩:=R.ex;refine⟨_,_,_,by simpa using K.at 0 rfl, ?_⟩;refine⟨_,λ w=>gV (e:=231) (by kernel_rfl) (z:=2) (by kernel_rfl) p l.length c 0 0 (bB _) (dO _) none _ (.inl ⟨rfl,rfl⟩) (.inr ⟨_,rfl⟩) w,_,_,_,rfl, ?_⟩;rw[RR,nJ,nJ];have q:aN (aa p 0 c)=aN (aa p l.length c):=by cases p<;>rfl
 have N:Own w 2 (aa p 0 c) 0 []:=by
  refine⟨by simp, ?_⟩;rcases R.2 with⟨r,H⟩|⟨g,cap,cur,W,r,H,h3,X,Z,h6⟩
  ·simp only[Value.slice.injEq] at r;obtain⟨rfl,_,rfl⟩:=r;exact .inl ⟨rfl,rfl⟩
  ·cases r;exact .inr ⟨g,c,cur,W,rfl,H,dO _,X,Z,by simp⟩
 refine⟨⟨trivial,by simpa using K.can 0 (by simp)⟩, ?_⟩;have E:=K.set 0 (by simp) (aa p 0 c);rw[add_zero] at E;have Q:=N.fr (Fr.set w b (aa p 0 c)) (λ g J o h=>y (by rw[<-q,J,h.1]));have I:=Fr.set w b (aa p 0 c);refine aF aeu ?_;rintro _ U ⟨rfl,u⟩;refine⟨_,rfl, ?_⟩;have G:=E.aH u;refine⟨⟨trivial,G.can 1 (by simp)⟩,aa p 0 c,⟨?_, ?_,by rw[q];exact y⟩, ?_,q⟩
 ·exact G.set 1 (by simp) (aC (bs []))
 ·exact(Q.aH u).fr (Fr.set U (b.add 1) _) (λ g J o h=>y (by rw[<-q,J,h.1,cT]))
 ·refine Fr.step (Fr.step (Fr.mono I ?_) u (λ _ _ x _=>x.elim)) (Fr.set U (b.add 1) _) ?_
  ·rintro x o _ ⟨rfl,rfl⟩;exact .inl ⟨rfl,bB _,by omega⟩
  ·rintro x o ⟨r,H⟩ _;rw[cT] at r;rw[fJ] at H;exact .inl ⟨r,by omega,by omega⟩
theorem aev{w:ak}{b:kd}{x:OA}:au ag 210 #[an (some b),an x] w λ _ w'=>w'=w:=by
 apply aap;exact rfl
theorem aew{w:ak}:au ag 203 #[] w λ r w'=>r=an none/\w'=w:=by
 apply aas;exact⟨rfl,rfl⟩
theorem aex{w:ak}{b:kd}{v:ay}{l:List (List UInt8×List UInt8)}(h:SB w b v l (bs []))(hs:ia l)(hp:0<l.length)(hl:(bh l).length<=1073741824):
  au ag 169 #[an (some b)] w λ r w'=>r=mX l/\Fr (CJ b v) w w':=by
 obtain⟨Z,hv,eY⟩:=h;apply aao;unfold OC;dsimp only[a_];have hot:=Ob.new w [aC dk] 136;have J:=bA w (.cells ⟨[aC dk]⟩ 136);have X:w.heap.size<(w.alloc (.cells ⟨[aC dk]⟩ 136)).heap.size:=by simp
 generalize w.alloc (.cells ⟨[aC dk]⟩ 136)=w1 at hot J X;obtain⟨p,c,rfl,_⟩:=hv.ex;refine⟨_,(Z.aH J).at 1 rfl,aF (adS (s:=[])) ?_⟩;rintro _ w2 ⟨rfl,H⟩;have q:=J.trans H;refine⟨_,rfl,cJ rfl ?_⟩;refine⟨_,_,_,by simpa using(Z.aH q).at 0 rfl,aF (RM (hv.cV.aH q) hs hl) ?_⟩;rintro _ K ⟨rfl,I⟩;have U:=q.trans I;refine⟨_,rfl, ?_⟩;obtain⟨w4,jT,jS,W⟩:=LN (z:=ah aG 0) qH K (bh l).length (by omega) (by omega);have y:=U.trans W;refine⟨_,w4,jT,_,_,_,rfl,_,_,_,by simpa using(Z.aH y).at 0 rfl, ?_⟩;have Ii:w.heap.size<K.heap.size:=by have:=(H.trans I).size;omega
 have jN:aN (aa p l.length c)≠some K.heap.size:=by
  intro hb;have:=hv.lt hb;omega
 have e1:(jx (bh l).length (ah aG 0)).length=(bh l).length:=by simp
 have k5:=RS (w:=w4) (c2:=(bh l).length) (a:=⟨K.heap.size,0,none⟩) (cs:=jx (bh l).length (ah aG 0)) (hv.cV.aH y) jN hs jS.ob (by simp) (by simp;exact hl) (by simp);rw[e1] at k5;refine aF k5 ?_;rintro _ N ⟨⟨m,rfl⟩,jR,Q⟩;have E:aS w N:=Fr.new y Q (by rintro b o ⟨rfl,_⟩;show w.heap.size<=K.heap.size;omega);have yE:cz N (aa (some ⟨K.heap.size,0,none⟩) (bh l).length (bh l).length) (bh l):=
  ⟨_,_,rfl,bB _,by rw[kF (z:=1) (λ _=>rfl)],λ j u hj=>⟨_,rfl,rfl,jR.at j hj⟩⟩
 refine⟨_,rfl,aF (RU yE) ?_⟩;rintro _ N ⟨rfl,rfl⟩;refine⟨_,rfl, ?_⟩;have aey:Ob N ⟨w.heap.size,0,none⟩ [aC dk]:=(hot.aH ((H.trans I).trans W)).fr Q (λ o _ _ h=>by
  have:=h.1;simp at this;omega)
 have G:=Z.aH E;have aoZ:b.block<w.heap.size:=Z.lt (by simp);refine⟨⟨trivial,G.can 1 (by simp)⟩, ?_⟩;have iJ:=G.set 1 (by simp) (aC (bs (bh l)));have R:=Fr.set N (b.add 1) (aC (bs (bh l)));have aqZ:Ob (N.setCell (b.add 1) (aC (bs (bh l)))) ⟨w.heap.size,0,none⟩ [aC dk]:=aey.fr R (λ o _ _ h=>by
  have:=h.1;rw[cT] at this;simp at this;omega)
 unfold Bm;refine⟨_,iJ.at 1 rfl, ?_⟩;refine dB (m:=1) aqZ (Fr.refl _ _) 0 (by simp) (by omega) _ (by trivial) (λ w7 pw lM=> ?_);refine⟨_,pw.at 0 rfl,rfl, ?_⟩;refine Fr.new (Fr.step (Fr.mono E (λ _ _ _ x=>x.elim)) R ?_) lM (by rintro x o ⟨rfl,_⟩;exact bB _);rintro x o ⟨h1,h2⟩ _;rw[cT] at h1;rw[fJ] at h2;exact .inl ⟨h1,by omega,by omega⟩
def bx(s:List UInt8):List ay:=[aC (bs s)]
abbrev dK(w:ak)(v:ay)(l:List (List UInt8)):Prop:=Sl bx 1 w v l
theorem gX{k:Nat}(h:k<=4611686018427387904):aq af ((k:Int)+1)=((k+1:Nat):Int):=by
 rw[bk (by omega) (by omega)];omega
theorem k6{w:ak}{v:ay}{l:List (List UInt8)}(h:dK w v l):
  au ag 6 #[v] w λ r w'=>(∃b,r=aQ b/\(b=true->l.length<=2147483647/\∀s∈l,s.length<=2147483647))/\w'=w:=by
 obtain⟨p,c,rfl,_⟩:=aX.ex h;apply c6;unfold v6;refine bn (λ _=>⟨⟨false,rfl,λ h=>by cases h⟩,rfl⟩) (λ Q=> ?_);have R:l.length<=2147483647:=by simp at Q;omega
 refine XJ (λ W N K I u w'=>p=W/\N=l.length/\c=K/\I=(l.length:Int)/\w=w'/\∃k:Nat,u=(k:Int)/\k<=l.length/\∀i (hi:i<k) (y:i<l.length),(l[i]).length<=2147483647) (λ _ _ _ I u _=>(I-u).toNat) ?_ ?_
 ·exact⟨rfl,rfl,rfl,rfl,rfl,0,rfl,by omega,λ i hi _=>absurd hi (oR _)⟩
 ·rintro _ _ _ _ _ w ⟨rfl,rfl,rfl,rfl,rfl,k,rfl,X,J⟩;unfold EX;refine bn (λ q=> ?_) (λ q=> ?_)
  ·have E:k<l.length:=by simp at q;omega
   refine Sl.ix (enc:=bx) (z:=1) (λ _=>rfl) (by omega) h (by omega) (by omega) (λ a _ U=> ?_);have G:=U 0 _ rfl;simp only[fH,add_zero] at G;refine⟨_,G,bn (λ _=>⟨⟨false,rfl,λ h=>by cases h⟩,rfl⟩) (λ x=> ?_)⟩;have H:(l[k]).length<=2147483647:=by rw[fB] at x;simp at x;omega
   rw[gX (by omega)];refine⟨⟨rfl,rfl,rfl,rfl,rfl,k+1,rfl,by omega,λ i hi y=> ?_⟩,by omega⟩;by_cases e:i=k
   ·subst e;exact H
   ·exact J i (by omega) y
  ·have E:k=l.length:=by simp at q;omega
   subst E;refine⟨⟨true,rfl,λ _=>⟨R,λ s H=> ?_⟩⟩,rfl⟩;obtain⟨i,hi,rfl⟩:=rF H;exact J i hi hi
theorem RY{w:ak}{v:ay}{l:List (List UInt8)}(h:dK w v l)(W:l.length<=2147483647):
  au ag 27 #[v] w λ r w'=>(∃b,r=aQ b/\(b=true->l.length<=200/\∀s∈l,s.length<=200))/\w'=w:=by
 obtain⟨p,c,rfl,_⟩:=aX.ex h;apply XS;unfold L9;refine XR (λ R K J u w'=>p=R/\K=l.length/\c=J/\w=w'/\∃k:Nat,u=(k:Int)/\k<=l.length/\∀i (hi:i<k) (y:i<l.length),(l[i]).length<=200) (λ _ _ _ u _=>((l.length:Int)-u).toNat) ?_ ?_
 ·exact⟨rfl,rfl,rfl,rfl,0,rfl,by omega,λ i hi _=>absurd hi (oR _)⟩
 ·rintro _ _ _ _ w ⟨rfl,rfl,rfl,rfl,k,rfl,U,I⟩;unfold E8;refine bn (λ q=> ?_) (λ q=> ?_)
  ·have E:k<l.length:=by simp at q;omega
   refine Sl.ix (enc:=bx) (z:=1) (λ _=>rfl) (by omega) h (by omega) (by omega) (λ a _ Q=> ?_);have G:=Q 0 _ rfl;simp only[fH,add_zero] at G;refine⟨_,G,bn (λ _=>⟨⟨false,rfl,λ h=>by cases h⟩,rfl⟩) (λ x=> ?_)⟩;have H:(l[k]).length<=200:=by rw[fB] at x;simp at x;omega
   rw[gX (by omega)];refine⟨⟨rfl,rfl,rfl,rfl,k+1,rfl,by omega,λ i hi y=> ?_⟩,by omega⟩;by_cases e:i=k
   ·subst e;exact H
   ·exact I i (by omega) y
  ·have E:k=l.length:=by simp at q;omega
   subst E;refine⟨⟨_,rfl,λ N=>⟨by simp at N;omega,λ s H=> ?_⟩⟩,rfl⟩;obtain⟨i,hi,rfl⟩:=rF H;exact I i hi hi
theorem RZ{w:ak}{v:ay}{l:List (List UInt8)}{s:List UInt8}(h:dK w v l)(W:l.length<=2147483647):
  au ag 58 #[v,aC (bs s)] w λ r w'=>r=aQ (decide (s∈l))/\w'=w:=by
 obtain⟨p,c,rfl,_⟩:=aX.ex h;apply X_;unfold Mn;refine X9 (λ R K J s' y w'=>p=R/\K=l.length/\c=J/\s'=bs s/\w=w'/\∃k:Nat,y=(k:Int)/\k<=l.length/\∀i (hi:i<k) (E:i<l.length),l[i]≠s) (λ _ _ _ _ y _=>((l.length:Int)-y).toNat) ?_ ?_
 ·exact⟨rfl,rfl,rfl,rfl,rfl,0,rfl,by omega,λ i hi _=>absurd hi (oR _)⟩
 ·rintro _ _ _ _ _ w ⟨rfl,rfl,rfl,rfl,rfl,k,rfl,U,I⟩;unfold Fq;refine bn (λ u=> ?_) (λ u=> ?_)
  ·have x:k<l.length:=by simp at u;omega
   refine Sl.ix (enc:=bx) (z:=1) (λ _=>rfl) (by omega) h (by omega) (by omega) (λ a _ N=> ?_);have G:=N 0 _ rfl;simp only[fH,add_zero] at G;refine⟨_,G,bn (λ q=> ?_) (λ q=> ?_)⟩
   ·rw[eG,eG] at q;have H:l[k]=s:=by simpa using q
    refine⟨?_,rfl⟩;have:s∈l:=H▸iy x;simp[this]
   ·rw[eG,eG] at q;have H:l[k]≠s:=by simpa using q
    rw[gX (by omega)];refine⟨⟨rfl,rfl,rfl,rfl,rfl,k+1,rfl,by omega,λ i hi E=> ?_⟩,by omega⟩;by_cases e:i=k
    ·subst e;exact H
    ·exact I i (by omega) E
  ·have x:k=l.length:=by simp at u;omega
   subst x;refine⟨?_,rfl⟩;have:s∉l:=λ Q=>by
    obtain⟨i,hi,e⟩:=rF Q;exact I i hi hi e
   simp[this]
structure bI where
 ref:Nat
 labels:List (List UInt8×List UInt8)
 chunks:List (Nat×Int×Int)
def ff(x:Nat×Int×Int):List ay:=[ah aj (x.1:Int),ah af x.2.1,ah af x.2.2]
def yG(x:Nat×ay×ay):List ay:=[ah aj (x.1:Int),x.2.1,x.2.2]
def im(w:ak)(v:ay)(l:List bI):Prop:=
 ∃c:List (Nat×ay×ay),c.length=l.length/\Sl yG 3 w v c/\∀i (h:i<c.length) (q:i<l.length),c[i].1=l[i].ref/\Sl db 2 w c[i].2.1 l[i].labels/\Sl ff 3 w c[i].2.2 l[i].chunks
theorem im.aH{w w':ak}{v:ay}{l:List bI}(h:im w v l)(q:aS w w'):im w' v l:=by
 obtain⟨r,u,x,c⟩:=h;exact⟨r,u,Sl.aH x q,λ i a b=>⟨(c i a b).1,Sl.aH (c i a b).2.1 q,Sl.aH (c i a b).2.2 q⟩⟩
theorem im.ex{w:ak}{v:ay}{l:List bI}(h:im w v l):∃p c,v=aa p l.length c/\l.length<=c:=by
 obtain⟨x,q,r,_⟩:=h;obtain⟨p,c,u,y⟩:=aX.ex r;exact⟨p,c,by rw[u,q],by omega⟩
theorem im.ix{w:ak}{len c:Nat}{p:OA}{l:List bI}(h:im w (aa p len c) l){i:Int}(E:0<=i)(hi:i<l.length){K:kd->Prop}
  (W:∀(a:kd) (q:OA) (c1:Nat) (r:OA) (c2:Nat),a.spot=none->at_ w a (ah aj ((l[i.toNat]'(by omega)).ref:Int))->at_ w (a.add 1) (aa q (l[i.toNat]'(by omega)).labels.length c1)->at_ w (a.add 2) (aa r (l[i.toNat]'(by omega)).chunks.length c2)->Sl db 2 w (aa q (l[i.toNat]'(by omega)).labels.length c1) (l[i.toNat]'(by omega)).labels->Sl ff 3 w (aa r (l[i.toNat]'(by omega)).chunks.length c2) (l[i.toNat]'(by omega)).chunks->K a):aU p len i 3 K:=by
 obtain⟨Z,h1,R,U⟩:=h;refine Sl.ix (enc:=yG) (z:=3) (λ _=>rfl) (by omega) R E (by omega) (λ a X y=> ?_);obtain⟨J,u,x⟩:=U i.toNat (by omega) (by omega);have G:=y 0 _ rfl;have H:=y 1 _ rfl;have I:=y 2 _ rfl;obtain⟨q,c1,N,_⟩:=aX.ex u;obtain⟨r,c2,Q,_⟩:=aX.ex x;rw[J] at G;rw[N] at H u;rw[Q] at I x;exact W a q c1 r c2 X (by simpa using G) H I u x
theorem yH{w:ak}{x:List UInt8×List UInt8}:au ag 123 #[aV #[aC (bs x.1),aC (bs x.2)]] w λ r w'=>(∃b,r=aQ b/\(b=true->x.1.length<=2147483647/\x.2.length<=2147483647))/\aS w w':=by
 apply XO;unfold L5;dsimp only[a_];have y:=Ob.new w [aC (bs x.1),aC (bs x.2)] 57;have c:=bA w (.cells ⟨[aC (bs x.1),aC (bs x.2)]⟩ 57);refine⟨_,by simpa using y.at 0 rfl,bn (λ _=>⟨⟨false,rfl,λ h=>by cases h⟩,c⟩) (λ q=>⟨_,y.at 1 rfl,bn (λ _=>⟨⟨false,rfl,λ h=>by cases h⟩,c⟩) (λ u=>⟨⟨true,rfl,λ _=> ?_⟩,c⟩)⟩)⟩;rw[fB] at q u;simp at q u;omega
theorem k54{w:ak}{v:ay}{l:List (List UInt8×List UInt8)}(h:Sl db 2 w v l):
  au ag 54 #[v] w λ r w'=>(∃b,r=aQ b/\(b=true->l.length<=2147483647/\∀x∈l,x.1.length<=2147483647/\x.2.length<=2147483647))/\aS w w':=by
 obtain⟨p,c,rfl,_⟩:=aX.ex h;apply XN;unfold L4;refine bn (λ _=>⟨⟨false,rfl,λ h=>by cases h⟩,aS.refl w⟩) (λ hc=> ?_);have hl:l.length<=2147483647:=by simp at hc;omega
 refine XM (λ p' L' C' t9 y w'=>p=p'/\L'=l.length/\c=C'/\t9=(l.length:Int)/\aS w w'/\∃k:Nat,y=(k:Int)/\k<=l.length/\∀i (hi:i<k) (E:i<l.length),(l[i]).1.length<=2147483647/\(l[i]).2.length<=2147483647) (λ _ _ _ t9 y _=>(t9-y).toNat) ?_ ?_
 ·exact⟨rfl,rfl,rfl,rfl,aS.refl w,0,rfl,by omega,λ i hi _=>absurd hi (oR _)⟩
 ·rintro _ _ _ _ _ w1 ⟨rfl,rfl,rfl,rfl,u,k,rfl,hk,ha⟩;unfold EZ;refine bn (λ q=> ?_) (λ q=> ?_)
  ·have G:k<l.length:=by simp at q;omega
   refine Sl.ix (enc:=db) (z:=2) (λ _=>rfl) (by omega) (Sl.aH h u) (by omega) (by omega) (λ a _ hm=> ?_);have J:=hm 0 _ rfl;have K:=hm 1 _ rfl;simp only[fH] at J K;refine⟨_,J,_,K, ?_⟩;dsimp only[a_];have ho:=Ob.new w1 [aC dk,aC dk] 57;have W:=bA w1 (.cells ⟨[aC dk,aC dk]⟩ 57);refine dB (m:=2) ho (Fr.refl _ _) 0 (by simp) (by omega) _ (by trivial) (λ w2 X R=> ?_);refine dB X R 1 (by simp) (by omega) _ (by trivial) (λ w3 N U=> ?_);have H:=u.trans (Fr.new W U (by rintro b o ⟨rfl,_⟩;exact bB _):aS w1 w3);refine⟨_,N.at 0 rfl,_,N.at 1 rfl,aF (yH (x:=l[k])) ?_⟩;rintro _ w4 ⟨⟨b,rfl,hb⟩,I⟩;refine⟨_,rfl,bn (λ _=>⟨⟨false,rfl,λ h=>by cases h⟩,H.trans I⟩) (λ Q=> ?_)⟩;have Z:=hb (by simpa using Q);rw[gX (by omega)];refine⟨⟨rfl,rfl,rfl,rfl,H.trans I,k+1,rfl,by omega,λ i hi E=> ?_⟩,by omega⟩;by_cases e:i=k
   ·subst e;exact Z
   ·exact ha i (by omega) E
  ·have G:k=l.length:=by simp at q;omega
   subst G;refine⟨⟨true,rfl,λ _=>⟨hl,λ s Z=> ?_⟩⟩,u⟩;obtain⟨i,hi,rfl⟩:=rF Z;exact ha i hi hi
def uL(x:bI):Prop:=x.labels.length<=2147483647/\x.chunks.length<=2147483647/\∀y∈x.labels,y.1.length<=2147483647/\y.2.length<=2147483647
theorem k26{w:ak}{x:bI}{y E:OA}{c1 c2:Nat}(J:Sl db 2 w (aa y x.labels.length c1) x.labels):
  au ag 26 #[aV #[ah aj (x.ref:Int),aa y x.labels.length c1,aa E x.chunks.length c2]] w λ r w'=>(∃b,r=aQ b/\(b=true->uL x))/\aS w w':=by
 apply XL;unfold L2;dsimp only[a_];have I:=Ob.new w [ah aj (x.ref:Int),aa y x.labels.length c1,aa E x.chunks.length c2] 47;have H:=bA w (.cells ⟨[ah aj (x.ref:Int),aa y x.labels.length c1,aa E x.chunks.length c2]⟩ 47);refine⟨_,_,_,I.at 1 rfl,aF (k54 (Sl.aH J H)) ?_⟩;rintro _ Q ⟨⟨b,rfl,K⟩,u⟩;have c:=H.trans u;refine⟨_,rfl,bn (λ _=>⟨⟨false,rfl,λ h=>by cases h⟩,c⟩) (λ N=> ?_)⟩;have q:=K (by simpa using N);refine⟨_,_,_,(I.aH u).at 2 rfl,bn (λ _=>⟨⟨false,rfl,λ h=>by cases h⟩,c⟩) (λ G=>⟨⟨true,rfl,λ _=>⟨q.1, ?_,q.2⟩⟩,c⟩)⟩;simp at G;omega
theorem k7{w:ak}{v:ay}{l:List bI}(h:im w v l):
  au ag 7 #[v] w λ r w'=>(∃b,r=aQ b/\(b=true->l.length<=2147483647/\∀x∈l,uL x))/\aS w w':=by
 obtain⟨p,c,rfl,_⟩:=h.ex;apply c7;unfold v7;refine bn (λ _=>⟨⟨false,rfl,λ h=>by cases h⟩,aS.refl w⟩) (λ hc=> ?_);have hl:l.length<=2147483647:=by simp at hc;omega
 refine XK (λ p' L' C' t9 G w'=>p=p'/\L'=l.length/\c=C'/\t9=(l.length:Int)/\aS w w'/\∃k:Nat,G=(k:Int)/\k<=l.length/\∀i (hi:i<k) (H:i<l.length),uL (l[i])) (λ _ _ _ t9 G _=>(t9-G).toNat) ?_ ?_
 ·exact⟨rfl,rfl,rfl,rfl,aS.refl w,0,rfl,by omega,λ i hi _=>absurd hi (oR _)⟩
 ·rintro _ _ _ _ _ w1 ⟨rfl,rfl,rfl,rfl,y,k,rfl,hk,ha⟩;unfold EY;refine bn (λ u=> ?_) (λ u=> ?_)
  ·have I:k<l.length:=by simp at u;omega
   refine im.ix (h.aH y) (by omega) (by omega) (λ a P1 c1 P2 c2 _ N Q R K jc=> ?_);simp only[fH] at N Q R K jc;refine⟨_,by simpa using N,_,_,_,Q,_,_,_,R, ?_⟩;dsimp only[a_];have ho:=Ob.new w1 [ah aj 0,aa none 0 0,aa none 0 0] 47;have mY:=bA w1 (.cells ⟨[ah aj 0,aa none 0 0,aa none 0 0]⟩ 47);refine dB (m:=3) ho (Fr.refl _ _) 0 (by simp) (by omega) _ (by trivial) (λ w2 gy W=> ?_);refine dB gy W 1 (by simp) (by omega) _ (by trivial) (λ w3 lL X=> ?_);refine dB lL X 2 (by simp) (by omega) _ (by trivial) (λ w4 E Z=> ?_);have q:aS w1 w4:=Fr.new mY Z (by rintro b o ⟨rfl,_⟩;exact bB _);refine⟨_,E.at 0 rfl,_,_,_,E.at 1 rfl,_,_,_,E.at 2 rfl,aF (k26 (x:=l[k]) (Sl.aH K q)) ?_⟩;rintro _ w5 ⟨⟨b,rfl,hb⟩,Io⟩;have J:=y.trans (q.trans Io);refine⟨_,rfl,bn (λ _=>⟨⟨false,rfl,λ h=>by cases h⟩,J⟩) (λ U=> ?_)⟩;have hs:=hb (by simpa using U);rw[gX (by omega)];refine⟨⟨rfl,rfl,rfl,rfl,J,k+1,rfl,by omega,λ i hi H=> ?_⟩,by omega⟩;by_cases e:i=k
   ·subst e;exact hs
   ·exact ha i (by omega) H
  ·have I:k=l.length:=by simp at u;omega
   subst I;refine⟨⟨true,rfl,λ _=>⟨hl,λ s hs=> ?_⟩⟩,y⟩;obtain⟨i,hi,rfl⟩:=rF hs;exact ha i hi hi
theorem R0{w:ak}{v:ay}{l:List (List UInt8×List UInt8)}(h:Sl db 2 w v l)(hl:l.length<=2147483647):
  au ag 55 #[v] w λ r w'=>(∃b,r=aQ b/\(b=true->ia l))/\w'=w:=by
 obtain⟨p,c,rfl,_⟩:=aX.ex h;apply XX;unfold Mc;refine XW (λ W R Q u w'=>p=W/\R=l.length/\c=Q/\w=w'/\∃k:Nat,u=(k:Int)/\k<=l.length/\∀i (hi:i<k) (E:i<l.length),(l[i]).1.length<=200/\(l[i]).2.length<=200) (λ _ _ _ u _=>((l.length:Int)-u).toNat) ?_ ?_
 ·exact⟨rfl,rfl,rfl,rfl,0,rfl,by omega,λ i hi _=>absurd hi (oR _)⟩
 ·rintro _ _ _ _ w ⟨rfl,rfl,rfl,rfl,k,rfl,Z,N⟩;unfold Fc;refine bn (λ q=> ?_) (λ q=> ?_)
  ·have G:k<l.length:=by simp at q;omega
   refine Sl.ix (enc:=db) (z:=2) (λ _=>rfl) (by omega) h (by omega) (by omega) (λ a _ U=> ?_);have H:=U 0 _ rfl;simp only[fH,add_zero] at H;refine⟨_,H,bn (λ _=>⟨⟨false,rfl,λ h=>by cases h⟩,rfl⟩) (λ x=> ?_)⟩;refine Sl.ix (enc:=db) (z:=2) (λ _=>rfl) (by omega) h (by omega) (by omega) (λ X _ J=> ?_);have I:=J 1 _ rfl;simp only[fH] at I;refine⟨_,I,bn (λ _=>⟨⟨false,rfl,λ h=>by cases h⟩,rfl⟩) (λ y=> ?_)⟩;have K:(l[k]).1.length<=200/\(l[k]).2.length<=200:=by rw[fB] at x y;simp at x y;omega
   unfold E';rw[gX (by omega)];refine⟨⟨rfl,rfl,rfl,rfl,k+1,rfl,by omega,λ i hi E=> ?_⟩,by omega⟩;by_cases e:i=k
   ·subst e;exact K
   ·exact N i (by omega) E
  ·have G:k=l.length:=by simp at q;omega
   subst G;refine⟨⟨_,rfl,λ _ s K=> ?_⟩,rfl⟩;obtain⟨i,hi,rfl⟩:=rF K;exact N i hi hi
def yI(l:List (Nat×Int×Int)):Prop:=∀i (h:i<l.length),(l[i]).2.1<=(l[i]).2.2/\ -1152921504606846976<=(l[i]).2.1/\(l[i]).2.2<=1152921504606846976/\(0<i->∀(c:i-1<l.length),(l[i-1]).2.2<(l[i]).2.1)
theorem R1{w:ak}{v:ay}{l:List (Nat×Int×Int)}(h:Sl ff 3 w v l)(hl:l.length<=2147483647):
  au ag 57 #[v] w λ r w'=>(∃b,r=aQ b/\(b=true->yI l/\l.length<=10))/\aS w w':=by
 obtain⟨p,c,rfl,_⟩:=aX.ex h;apply X1;unfold Mg;refine aqH (λ Z R Q G w'=>p=Z/\R=l.length/\c=Q/\aS w w'/\∃k:Nat,G=(k:Int)/\k<=l.length/\∀i (hi:i<k) (h:i<l.length),(l[i]).2.1<=(l[i]).2.2/\ -1152921504606846976<=(l[i]).2.1/\(l[i]).2.2<=1152921504606846976/\(0<i->∀(H:i-1<l.length),(l[i-1]).2.2<(l[i]).2.1))
  (λ _ _ _ G _=>((l.length:Int)-G).toNat) ?_ ?_
 ·exact⟨rfl,rfl,rfl,aS.refl w,0,rfl,by omega,λ i hi _=>absurd hi (oR _)⟩
 ·rintro _ _ _ _ N ⟨rfl,rfl,rfl,J,k,rfl,hk,ha⟩;unfold Ff;refine bn (λ E=> ?_) (λ E=> ?_)
  ·have q:k<l.length:=by simp at E;omega
   have hd:=J.trans (cu N);have X:=Sl.aH h hd;have u:tR (λ r w'=>(∃b,r=aQ b/\(b=true->yI l/\l.length<=10))/\aS w w') N.drew:=⟨⟨false,rfl,λ h=>by cases h⟩,hd⟩;have get:∀{K:kd->Prop} (i:Nat) (hi:i<l.length) {x:Int},x=(i:Int)->(∀a:kd,at_ N.drew (a.add 1) (ah af (l[i]).2.1)->at_ N.drew (a.add 2) (ah af (l[i]).2.2)->K a)->aU p l.length x 3 K:=by
    intro K i hi x hx hK;subst hx;refine Sl.ix (enc:=ff) (z:=3) (λ _=>rfl) (by omega) X (by omega) (by omega) (λ a _ hm=>hK a ?_ ?_)
    ·simpa using hm 1 _ rfl
    ·simpa using hm 2 _ rfl
   refine get k q rfl (λ a m1 m2=>⟨_,m1, ?_⟩);refine get k q rfl (λ a m1 m2=>⟨_,m2,bn (λ _=>u) (λ h1=> ?_)⟩);refine get k q rfl (λ a m1 m2=>⟨_,m1,bn (λ _=>u) (λ H=> ?_)⟩);refine get k q rfl (λ a m1 m2=>⟨_,m2,bn (λ _=>u) (λ h3=> ?_)⟩);simp at h1 H h3;have next:(0<k->∀(H:k-1<l.length),(l[k-1]).2.2<(l[k]).2.1)->wG (λ r w'=>(∃b,r=aQ b/\(b=true->yI l/\l.length<=10))/\aS w w') (λ Z R Q y w'=>(p=Z/\R=l.length/\c=Q/\aS w w'/\∃k:Nat,y=(k:Int)/\k<=l.length/\∀i (hi:i<k) (h:i<l.length),(l[i]).2.1<=(l[i]).2.2/\ -1152921504606846976<=(l[i]).2.1/\(l[i]).2.2<=1152921504606846976/\(0<i->∀(H:i-1<l.length),(l[i-1]).2.2<(l[i]).2.1))/\((l.length:Int)-y).toNat<((l.length:Int)-(k:Int)).toNat) p l.length c (k:Int) N.drew:=by
    intro I;unfold wG;rw[gX (by omega)];refine⟨⟨rfl,rfl,rfl,hd,k+1,rfl,by omega,λ i hi W=> ?_⟩,by omega⟩;by_cases e:i=k
    ·subst e;exact⟨h1,H,h3,I⟩
    ·exact ha i (by omega) W
   refine bn (λ I=> ?_) (λ I=>next (λ U=>by simp at I;omega));have h4':0<k:=by simp at I;omega
   have e1:aq af ((k:Int)-1)=((k-1:Nat):Int):=by rw[bk (by omega) (by omega)];omega
   refine get k q rfl (λ a m1 m2=>⟨_,m1, ?_⟩);dsimp only;rw[e1];refine get (k-1) (by omega) rfl (λ a q1 q2=>⟨_,q2,bn (λ _=>u) (λ U=>next (λ _ h6=> ?_))⟩);simp at U;exact U
  ·have q:k=l.length:=by simp at E;omega
   subst q;refine⟨⟨_,rfl,λ hb=>⟨λ i hi=>ha i hi hi,by simp at hb;omega⟩⟩,J⟩
def yJ(l:List (List UInt8×List UInt8)):Prop:=(∀x∈l,x.1≠[]/\x.2≠[])/\sI l
theorem yK{x y:List UInt8}(c:ds x y=false)(q:x≠y):ds y x=true:=by
 have H:¬jy x y<0:=λ h=>by rw[(yC x y).1 h] at c;cases c
 have key:∀(a b:List UInt8),jy a b=0->a=b:=by
  intro a;induction a with
  |nil=>intro b h;cases b with|nil=>rfl|cons y b=>simp[jy] at h
  |cons u a w=>
   intro b h;cases b with
   |nil=>simp[jy] at h
   |cons y b=>
    unfold jy at h;split at h
    ·cases h
    ·split at h
     ·cases h
     ·rename_i E G;have r:u=y:=UInt8.le_antisymm (UInt8.not_lt.1 G) (UInt8.not_lt.1 E);rw[r,w b h]
 apply(yC y x).1;rw[Ih];have I:jy x y≠0:=λ h=>q (key x y h)
 omega
theorem R2{w:ak}{v:ay}{l:List (List UInt8×List UInt8)}(h:Sl db 2 w v l)(hl:l.length<=2147483647):
  au ag 56 #[v] w λ r w'=>(∃b,r=aQ b/\(b=true->yJ l))/\aS w w':=by
 obtain⟨p,c,rfl,_⟩:=aX.ex h;apply XZ;unfold Me;refine XY (λ p' W U G w'=>p=p'/\W=l.length/\c=U/\aS w w'/\∃k:Nat,G=(k:Int)/\k<=l.length/\∀i (hi:i<k) (h:i<l.length),(l[i]).1≠[]/\(l[i]).2≠[]/\(0<i->∀(H:i-1<l.length),ds (l[i-1]).1 (l[i]).1=true))
  (λ _ _ _ G _=>((l.length:Int)-G).toNat) ?_ ?_
 ·exact⟨rfl,rfl,rfl,aS.refl w,0,rfl,by omega,λ i hi _=>absurd hi (oR _)⟩
 ·rintro _ _ _ _ Q ⟨rfl,rfl,rfl,N,k,rfl,hk,R⟩;unfold Fe;refine bn (λ E=> ?_) (λ E=> ?_)
  ·have q:k<l.length:=by simp at E;omega
   have hd:=N.trans (cu Q);have iP:=Sl.aH h hd;have y:wE (λ r w'=>(∃b,r=aQ b/\(b=true->yJ l))/\aS w w') Q.drew:=⟨⟨false,rfl,λ h=>by cases h⟩,hd⟩;have get:∀{K:kd->Prop} (i:Nat) (hi:i<l.length) {x:Int},x=(i:Int)->(∀a:kd,at_ Q.drew a (aC (bs (l[i]).1))->at_ Q.drew (a.add 1) (aC (bs (l[i]).2))->K a)->aU p l.length x 2 K:=by
    intro K i hi x hx hK;subst hx;refine Sl.ix (enc:=db) (z:=2) (λ _=>rfl) (by omega) iP (by omega) (by omega) (λ a _ hm=>hK a ?_ ?_)
    ·simpa using hm 0 _ rfl
    ·simpa using hm 1 _ rfl
   have e0:(⟨#[]⟩:ByteArray).toList=[]:=eG [];refine get k q rfl (λ a m1 m2=>⟨_,m1,bn (λ _=>y) (λ h1=> ?_)⟩);refine get k q rfl (λ a m1 m2=>⟨_,m2,bn (λ _=>y) (λ H=> ?_)⟩);rw[eG,e0] at h1 H;have X:(l[k]).1≠[]:=by simpa using h1
   have Z:(l[k]).2≠[]:=by simpa using H
   have next:(0<k->∀(H:k-1<l.length),ds (l[k-1]).1 (l[k]).1=true)->wD (λ r w'=>(∃b,r=aQ b/\(b=true->yJ l))/\aS w w') (λ p' W U u w'=>(p=p'/\W=l.length/\c=U/\aS w w'/\∃k:Nat,u=(k:Int)/\k<=l.length/\∀i (hi:i<k) (h:i<l.length),(l[i]).1≠[]/\(l[i]).2≠[]/\(0<i->∀(H:i-1<l.length),ds (l[i-1]).1 (l[i]).1=true))/\((l.length:Int)-u).toNat<((l.length:Int)-(k:Int)).toNat) p l.length c (k:Int) Q.drew:=by
    intro I;unfold wD;rw[gX (by omega)];refine⟨⟨rfl,rfl,rfl,hd,k+1,rfl,by omega,λ i hi UH=> ?_⟩,by omega⟩;by_cases e:i=k
    ·subst e;exact⟨X,Z,I⟩
    ·exact R i (by omega) UH
   refine bn (λ I=> ?_) (λ I=>next (λ J=>by simp at I;omega));have h4':0<k:=by simp at I;omega
   have e1:aq af ((k:Int)-1)=((k-1:Nat):Int):=by rw[bk (by omega) (by omega)];omega
   refine get k q rfl (λ a m1 m2=>⟨_,m1, ?_⟩);dsimp only;rw[e1];refine get (k-1) (by omega) rfl (λ a q1 q2=>⟨_,q1,bn (λ _=>y) (λ J=>next (λ _ h6=> ?_))⟩);rw[eG,eG] at J;simp at J;exact yK J.1 J.2
  ·have q:k=l.length:=by simp at E;omega
   subst q;refine⟨⟨_,rfl,λ _=>⟨λ x hx=> ?_,λ i hi=> ?_⟩⟩,N⟩
   ·obtain⟨i,hi,rfl⟩:=rF hx;exact⟨(R i hi hi).1,(R i hi hi).2.1⟩
   ·have:=(R (i+1) hi hi).2.2 (by omega) (by omega);simpa using this
end Go.Proofs
namespace Go.V
def iQ:List (List UInt8×List UInt8)->List (List UInt8×List UInt8)->Int
 |[],b=> -(b.length:Int)
 |x::a,[]=>((x::a).length:Int)
 |x::a,y::b=>if x.1≠y.1 then(if ds x.1 y.1 then-1 else 1) else if x.2≠y.2 then(if ds x.2 y.2 then-1 else 1) else iQ a b
end Go.V
namespace Go.Proofs
open Go Go.V
theorem aeD:∀{a b},0<iQ a b->CF (ib a) (ib b):=by
 intro a;induction a with
 |nil=>intro b h;simp[iQ] at h;omega
 |cons x a R=>
  intro b h;cases b with
  |nil=>exact .inl ⟨x.1,x.2::ib a,by simp[ib]⟩
  |cons y b=>
   have J:ib (x::a)=x.1::x.2::ib a:=by simp[ib]
   have K:ib (y::b)=y.1::y.2::ib b:=by simp[ib]
   rw[J,K];unfold iQ at h;split at h
   ·rename_i r;split at h
    ·omega
    ·rename_i c;exact .inr ⟨[],x.1,y.1,x.2::ib a,y.2::ib b,rfl,rfl,yK (by simpa using c) r⟩
   ·rename_i r;have G:x.1=y.1:=by simpa using r
    split at h
    ·rename_i c;split at h
     ·omega
     ·rename_i N;exact .inr ⟨[x.1],x.2,y.2,ib a,ib b,rfl,by rw[G];rfl,yK (by simpa using N) c⟩
    ·rename_i c;have I:x.2=y.2:=by simpa using c
     rw[G,I];rcases R h with⟨z,q,w⟩|⟨C,z,u,q,H,w,Q,E⟩
     ·exact .inl ⟨z,q,by rw[w];rfl⟩
     ·exact .inr ⟨y.1::y.2::C,z,u,q,H,by rw[w];rfl,by rw[Q];rfl,E⟩
theorem Ip{w:ak}{u v:ay}{a b:List (List UInt8×List UInt8)}(ha:Sl db 2 w u a)(hb:Sl db 2 w v b)(hla:a.length<=2147483647)(sJ:b.length<=2147483647):
  au ag 39 #[u,v] w λ r w'=>r=ah af (iQ a b)/\aS w w':=by
 obtain⟨p,c,rfl,_⟩:=aX.ex ha;obtain⟨q,cq,rfl,_⟩:=aX.ex hb;apply Ya;unfold Mp;refine X' (λ p' L' C' q' M' D' i w'=>p=p'/\L'=a.length/\c=C'/\q=q'/\M'=b.length/\cq=D'/\aS w w'/\∃k:Nat,i=(k:Int)/\k<=a.length/\k<=b.length/\iQ a b=iQ (a.drop k) (b.drop k))
  (λ _ _ _ _ _ _ i _=>((a.length:Int)-i).toNat) ?_ ?_
 ·exact⟨rfl,rfl,rfl,rfl,rfl,rfl,aS.refl w,0,rfl,by omega,by omega,rfl⟩
 ·rintro _ _ _ _ _ _ _ w1 ⟨rfl,rfl,rfl,rfl,rfl,rfl,kV,k,rfl,mY,yF,he⟩;unfold Ft;have done:(k=a.length\/k=b.length)->wN (λ r w'=>r=ah af (iQ a b)/\aS w w') p a.length c q b.length cq w1:=by
   intro hd;unfold wN;refine⟨?_,kV⟩;rw[bk (by omega) (by omega),he];rcases hd with rfl|rfl
   ·rw[List.drop_length];have:iQ [] (b.drop a.length)= -((b.drop a.length).length:Int):=rfl;rw[this,hY];congr 1;omega
   ·rw[List.drop_length];cases eZ:a.drop b.length with
    |nil=>
     have:=congrArg fZ eZ;rw[hY] at this;simp at this;have:iQ [] []=0:=rfl;rw[this];congr 1;omega
    |cons x X=>
     have hln:=congrArg fZ eZ;rw[hY] at hln;have:iQ (x::X) []=((x::X).length:Int):=rfl;rw[this];congr 1;omega
  refine bn (λ Q=> ?_) (λ Q=>done (.inl (by simp at Q;omega)));have aeF:k<a.length:=by simp at Q;omega
  refine bn (λ R=> ?_) (λ R=>done (.inr (by simp at R;omega)));have aeG:k<b.length:=by simp at R;omega
  have h:iQ (a.drop k) (b.drop k)=if(a[k]).1≠(b[k]).1 then(if ds (a[k]).1 (b[k]).1 then-1 else 1) else if(a[k]).2≠(b[k]).2 then(if ds (a[k]).2 (b[k]).2 then-1 else 1) else iQ (a.drop (k+1)) (b.drop (k+1)):=by
   rw[gS aeF,gS aeG,iQ]
  have y:∀{I:ak} {K:kd->Prop},aS w I->(∀m:kd,at_ I m (aC (bs (a[k]).1))->at_ I (m.add 1) (aC (bs (a[k]).2))->K m)->aU p a.length (k:Int) 2 K:=by
   intro I K U hK;refine Sl.ix (enc:=db) (z:=2) (λ _=>rfl) (by omega) (Sl.aH ha U) (by omega) (by omega) (λ m _ hm=>hK m ?_ ?_)
   ·simpa using hm 0 _ rfl
   ·simpa using hm 1 _ rfl
  have E:∀{I:ak} {K:kd->Prop},aS w I->(∀m:kd,at_ I m (aC (bs (b[k]).1))->at_ I (m.add 1) (aC (bs (b[k]).2))->K m)->aU q b.length (k:Int) 2 K:=by
   intro I K U hK;refine Sl.ix (enc:=db) (z:=2) (λ _=>rfl) (by omega) (Sl.aH hb U) (by omega) (by omega) (λ m _ hm=>hK m ?_ ?_)
   ·simpa using hm 0 _ rfl
   ·simpa using hm 1 _ rfl
  have d1:=kV.trans (cu w1);have J:=d1.trans (cu w1.drew);have d3:=J.trans (cu w1.drew.drew);unfold Fs;refine y d1 (λ m1 W _=>⟨_,W,E d1 (λ m2 Z _=>⟨_,Z, ?_⟩)⟩);dsimp only;rw[eG,eG];refine bn (λ h1=> ?_) (λ h1=> ?_)
  ·have G:(a[k]).1≠(b[k]).1:=by simpa using h1
   refine y J (λ m1 W _=>⟨_,W,E J (λ m2 Z _=>⟨_,Z, ?_⟩)⟩);dsimp only;rw[eG,eG];refine bn (λ N=>⟨?_,J⟩) (λ N=>⟨?_,J⟩)
   ·rw[he,h,if_pos G,if_pos N]
   ·rw[he,h,if_pos G,if_neg (by simp[N])]
  ·have G:¬(a[k]).1≠(b[k]).1:=by simpa using h1
   refine y J (λ m1 _ W=>⟨_,W,E J (λ m2 _ Z=>⟨_,Z, ?_⟩)⟩);dsimp only;rw[eG,eG];refine bn (λ N=> ?_) (λ N=> ?_)
   ·have H:(a[k]).2≠(b[k]).2:=by simpa using N
    refine y d3 (λ m1 _ W=>⟨_,W,E d3 (λ m2 _ Z=>⟨_,Z, ?_⟩)⟩);dsimp only;rw[eG,eG];refine bn (λ h3=>⟨?_,d3⟩) (λ h3=>⟨?_,d3⟩)
    ·rw[he,h,if_neg G,if_pos H,if_pos h3]
    ·rw[he,h,if_neg G,if_pos H,if_neg (by simp[h3])]
   ·have H:¬(a[k]).2≠(b[k]).2:=by simpa using N
    rw[gX (by omega)];refine⟨⟨rfl,rfl,rfl,rfl,rfl,rfl,J,k+1,rfl,by omega,by omega, ?_⟩,by omega⟩;rw[he,h,if_neg G,if_neg H]
def CM(l:List (List UInt8)):Prop:=∀i,0<i->∀(h:i<l.length) (c:i-1<l.length),ds (l[i-1]) (l[i])=true
def pG(s:List (List UInt8))(l:List bI):Prop:=
 CM s/\(∀i,0<i->∀(h:i<l.length) (c:i-1<l.length),0<=iQ (l[i]).labels (l[i-1]).labels)/\∀x∈l,∀y∈x.labels,y.1∈s/\y.2∈s
theorem pH{w:ak}{p:OA}{len c:Nat}{l:List (List UInt8)}(h:dK w (aa p len c) l)(i:Nat)(hi:i<l.length){x:Int}(u:x=(i:Int)){K:kd->Prop}(q:∀a:kd,at_ w a (aC (bs (l[i])))->K a):aU p len x 1 K:=by
 subst u;refine Sl.ix (enc:=bx) (z:=1) (λ _=>rfl) (by omega) h (by omega) (by omega) (λ a _ r=>q a ?_);simpa using r 0 _ rfl
theorem sK{w:ak}{p:OA}{len c:Nat}{l:List (List UInt8×List UInt8)}(h:Sl db 2 w (aa p len c) l)(i:Nat)(hi:i<l.length){x:Int}(u:x=(i:Int)){K:kd->Prop}
  (r:∀a:kd,at_ w a (aC (bs (l[i]).1))->at_ w (a.add 1) (aC (bs (l[i]).2))->K a):aU p len x 2 K:=by
 subst u;refine Sl.ix (enc:=db) (z:=2) (λ _=>rfl) (by omega) h (by omega) (by omega) (λ a _ q=>r a ?_ ?_)
 ·simpa using q 0 _ rfl
 ·simpa using q 1 _ rfl
theorem kq{w:ak}{len c:Nat}{p:OA}{l:List bI}(h:im w (aa p len c) l)(i:Nat)(hi:i<l.length){x:Int}(y:x=(i:Int)){K:kd->Prop}
  (u:∀(a:kd) (q:OA) (c1:Nat) (r:OA) (c2:Nat),at_ w a (ah aj ((l[i]).ref:Int))->at_ w (a.add 1) (aa q (l[i]).labels.length c1)->at_ w (a.add 2) (aa r (l[i]).chunks.length c2)->Sl db 2 w (aa q (l[i]).labels.length c1) (l[i]).labels->Sl ff 3 w (aa r (l[i]).chunks.length c2) (l[i]).chunks->K a):aU p len x 3 K:=by
 subst y;refine im.ix h (by omega) (by omega) (λ a q c1 r c2 _ E G H I J=>u a q c1 r c2 ?_ ?_ ?_ ?_ ?_)
 all_goals simp only[fH] at*
 all_goals assumption
theorem k30{w:ak}{u v:ay}{s:List (List UInt8)}{l:List bI}(hu:dK w u s)(hv:im w v l)(hs:s.length<=2147483647)(hl:l.length<=2147483647)(hf:∀x∈l,uL x):
  au ag 30 #[u,v] w λ r w'=>(∃n:Int,r=ah af n/\(n<0->pG s l))/\aS w w':=by
 obtain⟨p,c,rfl,_⟩:=aX.ex hu;obtain⟨q,cq,rfl,_⟩:=hv.ex;apply X8;unfold v30;have no:∀(n:Int) (w':ak),0<=n->aS w w'->(∃m:Int,ah af n=ah af m/\(m<0->pG s l))/\aS w w':=λ n w' hn hk=>⟨⟨n,rfl,λ h=>absurd h (by omega)⟩,hk⟩
 refine X7 (λ p' U Q q' W R i w'=>p=p'/\U=s.length/\c=Q/\q=q'/\W=l.length/\cq=R/\aS w w'/\∃k:Nat,i=(k:Int)/\1<=k/\∀i,0<i->i<k->∀(h:i<s.length) (K:i-1<s.length),ds (s[i-1]) (s[i])=true)
  (λ _ _ _ _ _ _ i _=>((s.length:Int)-i).toNat) ?_ ?_
 ·exact⟨rfl,rfl,rfl,rfl,rfl,rfl,aS.refl w,1,rfl,bB _,λ i N G=>by omega⟩
 ·rintro _ _ _ _ _ _ _ w1 ⟨rfl,rfl,rfl,rfl,rfl,rfl,kV,k,rfl,hk,ha⟩;unfold Fp;refine bn (λ X=> ?_) (λ X=> ?_)
  ·have gT:k<s.length:=by simp at X;omega
   have d1:=kV.trans (cu w1);have yL:=Sl.aH hu d1;refine pH yL k gT rfl (λ a m1=>⟨_,m1, ?_⟩);have e1:aq af ((k:Int)-1)=((k-1:Nat):Int):=by rw[bk (by omega) (by omega)];omega
   dsimp only;rw[e1];refine pH yL (k-1) (by omega) rfl (λ a m2=>⟨_,m2,bn (λ _=>no _ _ (by omega) d1) (λ G=> ?_)⟩);rw[eG,eG] at G;simp at G;rw[gX (by omega)];refine⟨⟨rfl,rfl,rfl,rfl,rfl,rfl,d1,k+1,rfl,by omega,λ i N hi K h3=> ?_⟩,by omega⟩;by_cases e:i=k
   ·subst e;exact yK G.1 G.2
   ·exact ha i N (by omega) K h3
  ·have aeI:CM s:=λ i N h K=>ha i N (by simp at X;omega) h K
   refine X6 (λ p' U Q q' W R i w'=>p=p'/\U=s.length/\c=Q/\q=q'/\W=l.length/\cq=R/\aS w w'/\∃k:Nat,i=(k:Int)/\k<=l.length/\(∀i,0<i->i<k->∀(h:i<l.length) (K:i-1<l.length),0<=iQ (l[i]).labels (l[i-1]).labels)/\∀i,i<k->∀(h:i<l.length),∀y∈(l[i]).labels,y.1∈s/\y.2∈s)
    (λ _ _ _ _ _ _ i _=>((l.length:Int)-i).toNat) ?_ ?_
   ·exact⟨rfl,rfl,rfl,rfl,rfl,rfl,kV,0,rfl,by omega,λ i N G=>by omega,λ i G=>by omega⟩
   ·rintro _ _ _ _ _ _ _ w2 ⟨rfl,rfl,rfl,rfl,rfl,rfl,rR,j,rfl,hj,hb,hw⟩;unfold Fo;refine bn (λ Z=> ?_) (λ Z=> ?_)
    ·have I:j<l.length:=by simp at Z;omega
     have R3:=hf _ (iy I);have inner:∀(w3:ak),aS w w3->(0<j->∀(K:j-1<l.length),0<=iQ (l[j]).labels (l[j-1]).labels)->
       wL (λ r w'=>(∃n:Int,r=ah af n/\(n<0->pG s l))/\aS w w') (λ p' U Q q' W R i' w'=>(p=p'/\U=s.length/\c=Q/\q=q'/\W=l.length/\cq=R/\aS w w'/\∃k:Nat,i'=(k:Int)/\k<=l.length/\(∀i,0<i->i<k->∀(h:i<l.length) (K:i-1<l.length),0<=iQ (l[i]).labels (l[i-1]).labels)/\∀i,i<k->∀(h:i<l.length),∀y∈(l[i]).labels,y.1∈s/\y.2∈s)/\((l.length:Int)-i').toNat<((l.length:Int)-(j:Int)).toNat) p s.length c q l.length cq (j:Int) w3:=by
      intro w3 ja aeJ;unfold wL;refine X5 (λ p' U Q q' W R i k w'=>p=p'/\U=s.length/\c=Q/\q=q'/\W=l.length/\cq=R/\i=(j:Int)/\aS w w'/\∃m:Nat,k=(m:Int)/\m<=(l[j]).labels.length/\∀n (hn:n<m) (h:n<(l[j]).labels.length),((l[j]).labels[n]).1∈s/\((l[j]).labels[n]).2∈s)
       (λ _ _ _ _ _ _ _ k _=>(((l[j]).labels.length:Int)-k).toNat) ?_ ?_
      ·exact⟨rfl,rfl,rfl,rfl,rfl,rfl,rfl,ja,0,rfl,by omega,λ n hn=>by omega⟩
      ·rintro _ _ _ _ _ _ _ _ w4 ⟨rfl,rfl,rfl,rfl,rfl,rfl,rfl,E,m,rfl,hm,iR⟩;unfold Fm;have jF:=R3.1;refine kq (hv.aH E) j I rfl (λ a P1 c1 P2 c2 _ G _ J _=>⟨_,_,_,G,bn (λ H=> ?_) (λ H=> ?_)⟩)
       ·have hm':m<(l[j]).labels.length:=by simp at H;omega
        refine kq (hv.aH E) j I rfl (λ a P1 c1 P2 c2 _ G _ J _=>⟨_,_,_,G, ?_⟩);refine sK J m hm' rfl (λ a2 x1 _=>⟨_,x1,aF (RZ (Sl.aH hu E) hs) ?_⟩);rintro _ w4 ⟨rfl,rfl⟩;refine⟨_,rfl,bn (λ _=> ?_) (λ jE=> ?_)⟩
        ·unfold wK;refine no _ _ ?_ E;rw[bk (by omega) (by omega)];omega
        ·have aeK:((l[j]).labels[m]).1∈s:=by simpa using jE
         refine kq (hv.aH E) j I rfl (λ a P1 c1 P2 c2 _ G _ J _=>⟨_,_,_,G, ?_⟩);refine sK J m hm' rfl (λ a2 _ x2=>⟨_,x2,aF (RZ (Sl.aH hu E) hs) ?_⟩);rintro _ w4 ⟨rfl,rfl⟩;refine⟨_,rfl,bn (λ _=> ?_) (λ je=> ?_)⟩
         ·unfold wK;refine no _ _ ?_ E;rw[bk (by omega) (by omega)];omega
         ·have aeL:((l[j]).labels[m]).2∈s:=by simpa using je
          unfold Fl;rw[gX (by omega)];refine⟨⟨rfl,rfl,rfl,rfl,rfl,rfl,rfl,E,m+1,rfl,by omega,λ n hn h=> ?_⟩,by omega⟩;by_cases e:n=m
          ·subst e;exact⟨aeK,aeL⟩
          ·exact iR n (by omega) h
       ·have hm':m=(l[j]).labels.length:=by simp at H;omega
        rw[gX (by omega)];refine⟨⟨rfl,rfl,rfl,rfl,rfl,rfl,E,j+1,rfl,by omega,λ i N hi h K=> ?_,λ i hi h y hy=> ?_⟩,by omega⟩
        ·by_cases e:i=j
         ·subst e;exact aeJ N K
         ·exact hb i N (by omega) h K
        ·by_cases e:i=j
         ·subst e;obtain⟨n,hn,rfl⟩:=rF hy;exact iR n (by omega) hn
         ·exact hw i (by omega) h y hy
     refine bn (λ H=> ?_) (λ H=>inner _ (rR.trans (cu w2)) (λ h=>by simp at H;omega));have hj0:0<j:=by simp at H;omega
     have d2:=rR.trans (cu w2);have e1:aq af ((j:Int)-1)=((j-1:Nat):Int):=by rw[bk (by omega) (by omega)];omega
     refine kq (hv.aH d2) j I rfl (λ a P1 c1 P2 c2 _ G _ J _=>⟨_,_,_,G, ?_⟩);dsimp only;rw[e1];refine kq (hv.aH d2) (j-1) (by omega) rfl (λ a P1 c1 P2 c2 _ G _ jc _=>⟨_,_,_,G,aF (Ip J jc R3.1 (hf _ (iy (by omega))).1) ?_⟩);rintro _ w5 ⟨rfl,Io⟩;have d5:=d2.trans Io;refine⟨_,rfl,bn (λ _=> ?_) (λ h5=>inner _ d5 (λ _ h6=> ?_))⟩
     ·unfold Fj;refine no _ _ ?_ d5;rw[bk (by omega) (by omega)];omega
     ·simp at h5;exact h5
    ·have I:j=l.length:=by simp at Z;omega
     subst I;refine⟨⟨-1,rfl,λ _=>⟨aeI,λ i N h K=>hb i N h h K,λ x hx y hy=> ?_⟩⟩,rR⟩;obtain⟨i,hi,rfl⟩:=rF hx;exact hw i hi hi y hy
def Up:Nat->List Nat->Nat->Prop
 |a,[],b=>a=b
 |a,x::l,b=>a<=x/\Up x l b
theorem aeM:∀{l:List Nat} {a b x:Nat},Up a l b->b<=x->Up a (l++[x]) x:=by
 intro l;induction l with
 |nil=>intro a b x h c;have:a=b:=h;subst this;exact⟨c,rfl⟩
 |cons y l q=>intro a b x h c;exact⟨h.1,q h.2 c⟩
def allRefs(l:List bI):List Nat:=l.flatMap λ x=>x.chunks.map (·.1)
def CN(l:List bI)(i:Nat)(h:i<l.length):Prop:=
 (l[i]).ref≠0/\(0<i->∀(c:i-1<l.length),(l[i-1]).ref<(l[i]).ref/\iQ (l[i]).labels (l[i-1]).labels≠0)/\(l[i]).labels.length≠0/\(l[i]).labels.length<=10/\
  ia (l[i]).labels/\yJ (l[i]).labels/\yI (l[i]).chunks/\(l[i]).chunks.length<=10
def ng(l:List bI):Prop:=l.length<=20/\(∀i (h:i<l.length),CN l i h)/\∃b,Up 0 (allRefs l) b
theorem yM{w:ak}{p:OA}{len c:Nat}{l:List (Nat×Int×Int)}(h:Sl ff 3 w (aa p len c) l)(i:Nat)(hi:i<l.length){x:Int}(u:x=(i:Int)){K:kd->Prop}
  (r:∀a:kd,at_ w a (ah aj ((l[i]).1:Int))->at_ w (a.add 1) (ah af (l[i]).2.1)->at_ w (a.add 2) (ah af (l[i]).2.2)->K a):aU p len x 3 K:=by
 subst u;refine Sl.ix (enc:=ff) (z:=3) (λ _=>rfl) (by omega) h (by omega) (by omega) (λ a _ q=>r a ?_ ?_ ?_)
 ·simpa using q 0 _ rfl
 ·simpa using q 1 _ rfl
 ·simpa using q 2 _ rfl
theorem k28{w:ak}{v:ay}{l:List bI}(hv:im w v l)(hl:l.length<=2147483647)(hf:∀x∈l,uL x):
  au ag 28 #[v] w λ r w'=>(∃b,r=aQ b/\(b=true->ng l))/\aS w w':=by
 obtain⟨p,c,rfl,_⟩:=hv.ex;apply XV;unfold v28;have bad:∀w',aS w w'->(∃b,aQ false=aQ b/\(b=true->ng l))/\aS w w':=λ w' hk=>⟨⟨false,rfl,λ h=>by cases h⟩,hk⟩
 refine bn (λ _=>bad _ (aS.refl w)) (λ hc=> ?_);have R4:l.length<=20:=by simp at hc;omega
 refine XU (λ p' L' C' last i w'=>p=p'/\L'=l.length/\c=C'/\aS w w'/\∃k E:Nat,i=(k:Int)/\last=(E:Int)/\k<=l.length/\(∀i (h:i<l.length),i<k->CN l i h)/\Up 0 (allRefs (l.take k)) E)
  (λ _ _ _ _ i _=>((l.length:Int)-i).toNat) ?_ ?_
 ·exact⟨rfl,rfl,rfl,aS.refl w,0,0,rfl,rfl,by omega,λ i h h1=>by omega,rfl⟩
 ·rintro _ _ _ _ _ w1 ⟨rfl,rfl,rfl,kV,k,E,rfl,rfl,hk,ha,kJ⟩;unfold E_;refine bn (λ fj=> ?_) (λ fj=> ?_)
  ·have Q:k<l.length:=by simp at fj;omega
   have u:=hf _ (iy Q);refine kq (hv.aH kV) k Q rfl (λ a P1 c1 P2 c2 m0 m1 m2 gL jc=> ?_);refine⟨_,by simpa using m0,_,_,_,m1,_,_,_,m2, ?_⟩;dsimp only[a_];have ho:=Ob.new w1 [ah aj 0,aa none 0 0,aa none 0 0] 47;have mY:=bA w1 (.cells ⟨[ah aj 0,aa none 0 0,aa none 0 0]⟩ 47);refine dB (m:=3) ho (Fr.refl _ _) 0 (by simp) (by omega) _ (by trivial) (λ w2 gy mZ=> ?_);refine dB gy mZ 1 (by simp) (by omega) _ (by trivial) (λ w3 lL R5=> ?_);refine dB lL R5 2 (by simp) (by omega) _ (by trivial) (λ w4 jS oq=> ?_);have W:aS w1 w4:=Fr.new mY oq (by rintro b o ⟨rfl,_⟩;exact bB _);have y:=Sl.aH gL W;have K:=Sl.aH jc W;have ko:=kV.trans W;have R6:Ob w4 ⟨w1.heap.size,0,none⟩ [ah aj ((l[k]).ref:Int),aa P1 (l[k]).labels.length c1,aa P2 (l[k]).chunks.length c2]:=jS;clear jS lL gy mZ R5 oq ho mY m0 m1 m2;refine XT (λ p' L' C' last i x m w'=>p=p'/\L'=l.length/\c=C'/\i=(k:Int)/\x=⟨w1.heap.size,0,none⟩/\aS w4 w'/\∃m' G:Nat,m=(m':Int)/\last=(G:Int)/\m'<=(l[k]).chunks.length/\Up 0 (allRefs (l.take k)++((l[k]).chunks.take m').map (·.1)) G)
    (λ _ _ _ _ _ _ m _=>(((l[k]).chunks.length:Int)-m).toNat) ?_ ?_
   ·exact⟨rfl,rfl,rfl,rfl,rfl,aS.refl w4,0,E,rfl,rfl,by omega,by simpa using kJ⟩
   ·rintro _ _ _ last _ _ _ w5 ⟨rfl,rfl,rfl,rfl,rfl,R,m,G,rfl,rfl,hm,ej⟩;have jR:=R6.aH R;have rS:=ko.trans R;unfold E9;have ao2:=u.2.1;refine⟨_,_,_,jR.at 2 rfl,bn (λ kL=> ?_) (λ kL=> ?_)⟩
    ·have hm':m<(l[k]).chunks.length:=by simp at kL;omega
     refine⟨_,_,_,jR.at 2 rfl,yM (Sl.aH K R) m hm' rfl (λ a x0 _ _=>⟨_,x0,bn (λ _=>bad _ rS) (λ uM=> ?_)⟩)⟩;refine⟨_,_,_,jR.at 2 rfl,yM (Sl.aH K R) m hm' rfl (λ a x0 _ _=>⟨_,x0, ?_⟩)⟩;rw[gX (by omega)];refine⟨⟨rfl,rfl,rfl,rfl,rfl,R,m+1,_,rfl,rfl,by omega, ?_⟩,by omega⟩;have e:(l[k]).chunks.take (m+1)=(l[k]).chunks.take m++[(l[k]).chunks[m]]:=jm hm';rw[e,iE,<-dx];exact aeM ej (by simp at uM;omega)
    ·have hm':m=(l[k]).chunks.length:=by simp at kL;omega
     subst hm';rw[fY] at ej;have hd:=R.trans (cu w5);have fin:∀H,aS w4 H->CN l k Q->wu (λ r w'=>(∃b,r=aQ b/\(b=true->ng l))/\aS w w') (λ p' L' C' aeO i' w'=>(p=p'/\L'=l.length/\c=C'/\aS w w'/\∃k E:Nat,i'=(k:Int)/\aeO=(E:Int)/\k<=l.length/\(∀i (h:i<l.length),i<k->CN l i h)/\Up 0 (allRefs (l.take k)) E)/\((l.length:Int)-i').toNat<((l.length:Int)-(k:Int)).toNat) p l.length c (G:Int) (k:Int) H:=by
      intro H J hok;unfold wu;rw[gX (by omega)];refine⟨⟨rfl,rfl,rfl,ko.trans J,k+1,G,rfl,rfl,by omega,λ i h hi=> ?_, ?_⟩,by omega⟩
      ·by_cases e:i=k
       ·subst e;exact hok
       ·exact ha i h (by omega)
      ·have e9:allRefs (l.take (k+1))=allRefs (l.take k)++(l[k]).chunks.map (·.1):=by
        rw[jm Q];unfold allRefs;rw[jK];simp
       rw[e9];exact ej
     have no:∀H,aS w4 H->kG (λ r w'=>(∃b,r=aQ b/\(b=true->ng l))/\aS w w') H:=λ H J=>bad _ (ko.trans J)
     have O:∀H,aS w4 H->Ob H ⟨w1.heap.size,0,none⟩ [ah aj ((l[k]).ref:Int),aa P1 (l[k]).labels.length c1,aa P2 (l[k]).chunks.length c2]:=λ H J=>R6.aH J
     have N:∀H,aS w4 H->at_ H ⟨w1.heap.size,0,none⟩ (ah aj ((l[k]).ref:Int)):=λ H J=>by simpa using(O H J).at 0 rfl
     refine⟨_,N _ hd,bn (λ _=>no _ hd) (λ hz=> ?_)⟩;have pI:(l[k]).ref≠0:=by simp at hz;omega
     refine bn (λ hp=> ?_) (λ hp=> ?_)
     ·have R7:0<k:=by simp at hp;omega
      have e1:aq af ((k:Int)-1)=((k-1:Nat):Int):=by rw[bk (by omega) (by omega)];omega
      have R8:=hv.aH (ko.trans hd);have Q1:k-1<l.length:=by omega
      have hfm:=hf _ (iy Q1);refine⟨_,N _ hd, ?_⟩;rw[e1];refine kq R8 (k-1) Q1 rfl (λ a2 _ _ _ _ n0 _ _ _ _=>⟨_,n0,bn (λ _=>no _ hd) (λ hr=> ?_)⟩);refine⟨_,_,_,(O _ hd).at 1 rfl,kq R8 (k-1) Q1 rfl (λ a3 _ _ _ _ _ n1 _ g1 _=>⟨_,_,_,n1,aF (Ip (Sl.aH y hd) g1 u.1 hfm.1) ?_⟩)⟩;rintro _ wA ⟨rfl,Z⟩;have q:=hd.trans Z;refine⟨_,rfl,Z.at n0,N _ q,N _ q,bn (λ _=>no _ q) (λ Ir=> ?_)⟩;refine⟨_,_,_,(O _ q).at 1 rfl,bn (λ _=>no _ q) (λ h1=> ?_)⟩;refine⟨_,_,_,(O _ q).at 1 rfl,bn (λ _=>no _ q) (λ h2=> ?_)⟩;refine⟨_,_,_,(O _ q).at 1 rfl,aF (R0 (Sl.aH y q) u.1) ?_⟩;rintro _ wB ⟨⟨b1,rfl,jE⟩,hwB⟩;subst hwB;refine⟨_,rfl,(O _ q).at 1 rfl,(O _ q).at 1 rfl,Z.at n0,N _ q,N _ q,bn (λ _=>no _ q) (λ h3=> ?_)⟩;refine⟨_,_,_,(O _ q).at 1 rfl,aF (R2 (Sl.aH y q) u.1) ?_⟩;rintro _ w7 ⟨⟨b2,rfl,je⟩,X⟩;have I:=q.trans X;refine⟨_,rfl,(O _ I).at 1 rfl,(O _ I).at 1 rfl,(Z.trans X).at n0,N _ I,N _ I,bn (λ _=>no _ I) (λ h4=> ?_)⟩;refine⟨_,_,_,(O _ I).at 2 rfl,aF (R1 (Sl.aH K I) u.2.1) ?_⟩;rintro _ w8 ⟨⟨b3,rfl,jU⟩,CO⟩;have U:=I.trans CO;refine⟨_,rfl,(O _ U).at 1 rfl,(O _ U).at 1 rfl,(Z.trans (X.trans CO)).at n0,N _ U,N _ U,bn (λ _=>no _ U) (λ h5=>fin _ U ?_)⟩;have q3:=jU (by simpa using h5);refine⟨pI,λ _ _=>⟨by simp at hr;omega,λ e=>by rw[e] at Ir;simp at Ir⟩,λ e=>by rw[e] at h1;simp at h1,by simp at h2;omega,jE (by simpa using h3),je (by simpa using h4),q3.1,q3.2⟩
     ·have R7:¬0<k:=by simp at hp;omega
      refine⟨_,_,_,(O _ hd).at 1 rfl,bn (λ _=>no _ hd) (λ h1=> ?_)⟩;refine⟨_,_,_,(O _ hd).at 1 rfl,bn (λ _=>no _ hd) (λ h2=> ?_)⟩;refine⟨_,_,_,(O _ hd).at 1 rfl,aF (R0 (Sl.aH y hd) u.1) ?_⟩;rintro _ H ⟨⟨b1,rfl,jE⟩,rfl⟩;refine⟨_,rfl,(O _ hd).at 1 rfl,(O _ hd).at 1 rfl,N _ hd,bn (λ _=>no _ hd) (λ h3=> ?_)⟩;refine⟨_,_,_,(O _ hd).at 1 rfl,aF (R2 (Sl.aH y hd) u.1) ?_⟩;rintro _ w7 ⟨⟨b2,rfl,je⟩,X⟩;have I:=hd.trans X;refine⟨_,rfl,(O _ I).at 1 rfl,(O _ I).at 1 rfl,N _ I,bn (λ _=>no _ I) (λ h4=> ?_)⟩;refine⟨_,_,_,(O _ I).at 2 rfl,aF (R1 (Sl.aH K I) u.2.1) ?_⟩;rintro _ w8 ⟨⟨b3,rfl,jU⟩,CO⟩;have U:=I.trans CO;refine⟨_,rfl,(O _ U).at 1 rfl,(O _ U).at 1 rfl,N _ U,bn (λ _=>no _ U) (λ h5=>fin _ U ?_)⟩;have q3:=jU (by simpa using h5);exact⟨pI,λ h=>absurd h R7,λ e=>by rw[e] at h1;simp at h1,by simp at h2;omega,jE (by simpa using h3),je (by simpa using h4),q3.1,q3.2⟩
  ·have Q:k=l.length:=by simp at fj;omega
   subst Q;rw[fY] at kJ;exact⟨⟨true,rfl,λ _=>⟨R4,λ i h=>ha i h h,E,kJ⟩⟩,kV⟩
abbrev Refs(w:ak)(v:ay)(l:List Nat):Prop:=Sl cO 1 w v l
theorem uN{w:ak}{p:OA}{len c:Nat}{l:List Nat}(h:Refs w (aa p len c) l)(i:Nat)(hi:i<l.length){x:Int}(u:x=(i:Int)){K:kd->Prop}(q:∀a:kd,at_ w a (ah aj (l[i]:Int))->K a):aU p len x 1 K:=by
 subst u;refine Sl.ix (enc:=cO) (z:=1) (λ _=>rfl) (by omega) h (by omega) (by omega) (λ a _ r=>q a ?_);simpa using r 0 _ rfl
theorem k21{w:ak}{u v:ay}{l:List Nat}(y:Refs w u l)(E:Refs w v l)(X:l.length<=2147483647):
  au ag 21 #[u,v] w λ r w'=>r=aQ true/\aS w w':=by
 obtain⟨p,c,rfl,_⟩:=aX.ex y;obtain⟨q,K,rfl,_⟩:=aX.ex E;apply c21;unfold v21;refine aT (by simp) ?_;refine asu (λ Q I G R J H i w'=>p=Q/\I=l.length/\c=G/\q=R/\J=l.length/\K=H/\aS w w'/\∃k:Nat,i=(k:Int)/\k<=l.length) (λ _ _ _ _ _ _ i _=>((l.length:Int)-i).toNat) ?_ ?_
 ·exact⟨rfl,rfl,rfl,rfl,rfl,rfl,aS.refl w,0,rfl,by omega⟩
 ·rintro _ _ _ _ _ _ _ U ⟨rfl,rfl,rfl,rfl,rfl,rfl,x,k,rfl,W⟩;unfold arH;refine bn (λ N=> ?_) (λ _=>⟨rfl,x⟩);have h:k<l.length:=by simp at N;omega
  have d:=x.trans (cu U);refine uN (Sl.aH y d) k h rfl (λ a m=>⟨_,m,uN (Sl.aH E d) k h rfl (λ b m2=>⟨_,m2,aT (by simp) ?_⟩)⟩);rw[gX (by omega)];exact⟨⟨rfl,rfl,rfl,rfl,rfl,rfl,d,k+1,rfl,by omega⟩,by omega⟩
theorem aeS:nV ag 22 9 1 16 [aC dk]:=⟨by kernel_rfl,by kernel_rfl,rfl,by decide⟩
theorem aeT(l:List (List UInt8)):∀u∈l.flatMap bx,u.oneCell'=true:=by
 intro u c;simp only[jJ,bx,oO] at c;obtain⟨b,_,rfl⟩:=c;rfl
def CP(base:Nat)(w:ak)(v:ay)(l:List (List UInt8)):Prop:=Own w 1 v l.length (l.flatMap bx)/\∀g,aN v=some g->base<=g
def gY(s:List UInt8):List (List UInt8)->List (List UInt8)
 |[]=>[s]
 |x::l=>if ds x s then x::gY s l else if x=s then x::l else s::x::l
theorem R9{s:List UInt8}:∀{l:List (List UInt8)} {k:Nat},k<=l.length->(∀j (h:j<l.length),j<k->ds (l[j]) s=true)->gY s l=l.take k++gY s (l.drop k):=by
 intro l;induction l with
 |nil=>intro k c _;simp
 |cons x l w=>
  intro k c h;cases k with
  |zero=>simp
  |succ k=>
   have q:ds x s=true:=h 0 (by simp) (by omega);rw[List.take_succ_cons,List.drop_succ_cons,gY,if_pos q,w (by simpa using c) (λ j r u=>h (j+1) (by simpa using r) (by omega))];rfl
theorem Is(w:ak):CP w.heap.size (w.alloc (.cells #[] 9)) (aa (some ⟨w.heap.size,0,none⟩) 0 0) []:=by
 refine⟨⟨by simp, .inr ⟨w.heap.size,0,#[],9,rfl,heap_alloc_new w _,bB _,by omega,by simp,by simp⟩⟩,λ g c=> ?_⟩;cases c;exact bB _
theorem R_(w:ak):(bw 22 0 #[]).run ag w= .ok (aa (some ⟨w.heap.size,0,none⟩) 0 0) (w.alloc (.cells #[] 9)):=by kernel_rfl
theorem CQ(w:ak)(s:List UInt8):(bw 22 1 #[(0,aC (bs s))]).run ag w= .ok (aa (some ⟨w.heap.size,0,none⟩) 1 1) (w.alloc (.cells ⟨[aC (bs s)]⟩ 9)):=by kernel_rfl
theorem CR(w:ak)(s:List UInt8):dK (w.alloc (.cells ⟨[aC (bs s)]⟩ 9)) (aa (some ⟨w.heap.size,0,none⟩) 1 1) [s]:=aX.new w 1 [aC (bs s)] 9 1 1 rfl (bB _)
theorem R'{w:ak}{p:OA}{len c:Nat}{l:List (List UInt8)}(h:dK w (aa p len c) l)(lo hi:Nat)(r:lo<=hi)(u:hi<=l.length):
  dK w (aa (C4 p lo c 1) (hi-lo) (c-lo)) ((l.drop lo).take (hi-lo)):=by
 have:=aX.sub h lo hi r u;have q:∀m:List (List UInt8),m.flatMap bx=m.map λ s=>aC (bs s):=λ m=>qA _ _
 rw[mH,mH,q,<-List.map_drop,<-List.map_take,<-q] at this;have x:((l.drop lo).take (hi-lo)).length=hi-lo:=by rw[fS,hY];omega
 show aX w 1 _ _ _;rw[x];exact this
theorem yO{w:ak}{v x:ay}{l m:List (List UInt8)}{K:OA->Nat->Nat->ak->Prop}(h:Own w 1 v l.length (l.flatMap bx))(J:dK w x m)(Q:l.length+m.length<=1000000000)
  (H:∀p c w',Own w' 1 (aa p (l.length+m.length) c) (l++m).length ((l++m).flatMap bx)->Fr (λ b _=>aN v=some b) w w'->(aN (aa p (l.length+m.length) c)=aN v\/∃g,aN (aa p (l.length+m.length) c)=some g/\w.heap.size<=g)->K p (l.length+m.length) c w'):
  aP ag (cM #[22,22] 22 #[v,x]) w λ r N=>az (ax r) λ p n c=>K p n c N:=by
 have q:=aX.src (P:=ag) (tx:=22) (d:=9) (by kernel_rfl) J (aeT m);obtain⟨v',w',I,u,G,y⟩:=Own.append (ty:=22) aeS h q (by omega) (by omega);obtain⟨p,c,rfl,_⟩:=u.ex;refine⟨_,w',I,_,_,_,rfl,H _ _ _ ?_ (G.mono (λ b o _ E=>E.1)) y⟩;rw[aY,jK];exact u
theorem dK.away{w w':ak}{v u:ay}{l:List (List UInt8)}(h:dK w v l)(x:Fr (λ b _=>aN u=some b) w w')(q:∀g,aN v=some g->aN u≠some g):dK w' v l:=
 aX.fr h x (λ a l c e o _ _ r=>q a.block (by rw[e];rfl) r)
theorem It{w0 w:ak}{A S T:ay}{a t:List (List UInt8)}{s:List UInt8}{K:ay->ak->Prop}(U:Own w 1 A a.length (a.flatMap bx))(Q:∀g,aN A=some g->w0.heap.size<=g)(hS:dK w S [s])(hT:dK w0 T t)(u:aS w0 w)
  (hl:a.length+t.length<=1000000)(Z:∀v' w',dK w' v' (a++s::t)->aS w0 w'->K v' w'):
  aP ag (cM #[22,22] 22 #[A,S]) w λ r y=>az (ax r) λ p n c=>
   aP ag (cM #[22,22] 22 #[aa p n c,T]) y λ J N=>az (ax J) λ p n c=>K (aa p n c) N:=by
 refine yO U hS (by simp;omega) (λ p c y W hf q=> ?_);have x:aS w0 y:=u.new hf (λ b _ h=>Q b h);have E:Own y 1 (aa p (a++[s]).length c) (a++[s]).length ((a++[s]).flatMap bx):=by
  simpa using W
 have e:(a.length+[s].length)=(a++[s]).length:=by simp
 rw[e] at q⊢;refine yO E (Sl.aH hT x) (by simp;omega) (λ p2 c2 N X G R=> ?_);have H:aS w0 N:=x.new G (λ b _ h=>by
  rcases q with q|⟨g,hg,I⟩
  ·exact Q b (q▸h)
  ·rw[hg] at h;cases h;exact eX u.size I)
 refine Z _ _ ?_ H;have:=X.cV;rw[dx] at this;exact this
theorem aeU{w w0:ak}{p:OA}{c k:Nat}{l:List (List UInt8)}{s:List UInt8}{K:ay->ak->Prop}(h:dK w0 (aa p l.length c) l)(hc:l.length<=c)(mm:aS w0 w)(hk:k<=l.length)(hl:l.length<=100000)
  (hK:∀v' w',dK w' v' (l.take k++s::l.drop k)->aS w0 w'->K v' w'):tS K p l.length c (bs s) (k:Int) w:=by
 unfold tS;refine⟨_,λ w=>gV (e:=9) (by kernel_rfl) (z:=1) (by kernel_rfl) p l.length c 0 k (dO _) (by omega) none _ (.inl ⟨rfl,rfl⟩) (.inr ⟨_,rfl⟩) w,_,_,_,rfl, ?_⟩;refine⟨_,λ w=>gV (e:=9) (by kernel_rfl) (z:=1) (by kernel_rfl) p l.length c k l.length hk hc _ none (.inr ⟨_,rfl⟩) (.inl ⟨rfl,rfl⟩) w,_,_,_,rfl, ?_⟩;have ha:=R' h 0 k (dO _) hk;have hb:=R' h k l.length hk (bB _);rw[T2,nJ] at ha;rw[lD (by rw[hY];omega)] at hb;have y:=mm.trans (cu w);have J:(l.take k).length+(l.drop k).length<=1000000:=by rw[fS,hY];omega
 refine⟨?_, ?_⟩
 ·refine⟨_,_,R_ _,_,_,_,rfl, ?_, ?_⟩
  ·have X:=(Is w.drew).1;have H:=y.trans (bA w.drew (.cells #[] 9));refine yO X (Sl.aH ha H) (by rw[fS];simp;omega) (λ Z c1 x W N q=> ?_);have E:∀g,aN (aa Z (([]:List (List UInt8)).length+(l.take k).length) c1)=some g->w0.heap.size<=g:=by
    intro g r;rcases q with q|⟨g',G,I⟩
    ·rw[q] at r;cases r;exact y.size
    ·rw[G] at r;cases r;exact eX H.size I
   have u:aS w0 x:=H.new N (λ b _ h=>by cases h;exact y.size);refine⟨_,_,CQ _ s,_,_,_,rfl, ?_⟩;exact It (by simpa using W.aH (bA x _)) E (CR x s) hb (u.trans (bA x _)) J hK
  ·have X:=(Is w.drew).1;have H:=y.trans (bA w.drew (.cells #[] 9));refine⟨_,_,CQ _ s,_,_,_,rfl, ?_⟩;have U:=H.trans (bA (w.drew.alloc (.cells #[] 9)) (.cells ⟨[aC (bs s)]⟩ 9));refine yO (X.aH (bA _ _)) (Sl.aH ha U) (by rw[fS];simp;omega) (λ Z c1 x W N q=> ?_);have E:∀g,aN (aa Z (([]:List (List UInt8)).length+(l.take k).length) c1)=some g->w0.heap.size<=g:=by
    intro g r;rcases q with q|⟨g',G,I⟩
    ·rw[q] at r;cases r;exact y.size
    ·rw[G] at r;cases r;exact eX U.size I
   have u:aS w0 x:=U.new N (λ b _ h=>by cases h;exact y.size);refine It (by simpa using W) E (dK.away (CR _ s) N ?_) hb u J hK;intro g r;cases r;simp[aN]
 ·refine⟨_,_,CQ _ s,_,_,_,rfl, ?_⟩;have hS:=CR w.drew s;have Q:=y.trans (bA w.drew (.cells ⟨[aC (bs s)]⟩ 9));refine⟨_,_,R_ _,_,_,_,rfl, ?_⟩;have X:=(Is (w.drew.alloc (.cells ⟨[aC (bs s)]⟩ 9))).1;have R:=Q.trans (bA _ (.cells #[] 9));refine yO X (Sl.aH ha R) (by rw[fS];simp;omega) (λ Z c1 x W N q=> ?_);have E:∀g,aN (aa Z (([]:List (List UInt8)).length+(l.take k).length) c1)=some g->w0.heap.size<=g:=by
   intro g r;rcases q with q|⟨g',G,I⟩
   ·rw[q] at r;cases r;exact Q.size
   ·rw[G] at r;cases r;exact eX R.size I
  have u:aS w0 x:=R.new N (λ b _ h=>by cases h;exact Q.size);refine It (by simpa using W) E (dK.away (Sl.aH hS (bA _ _)) N ?_) hb u J hK;intro g r;cases r;simp[aN]
theorem yP{w:ak}{v:ay}{l:List (List UInt8)}{s:List UInt8}(h:dK w v l)(hl:l.length<=100000):
  au ag 29 #[v,aC (bs s)] w λ r w'=>dK w' r (gY s l)/\aS w w':=by
 obtain⟨p,c,rfl,X⟩:=aX.ex h;apply X4;unfold Mi;have fin:∀k,k<=l.length->(∀j (h:j<l.length),j<k->ds (l[j]) s=true)->(∀(h:k<l.length),ds (l[k]) s=false/\l[k]≠s)->tS (λ r w'=>dK w' r (gY s l)/\aS w w') p l.length c (bs s) (k:Int) w:=by
  intro k H I W;refine aeU h X (aS.refl w) H hl (λ v' w' J K=>⟨?_,K⟩);rw[R9 H I];by_cases x:k<l.length
  ·have N:=W x;rw[gS x] at J⊢;unfold gY;rw[if_neg (by rw[N.1];simp),if_neg N.2];exact J
  ·have:l.drop k=[]:=List.drop_eq_nil_of_le (by omega);rw[this] at J⊢;exact J
 refine X3 (λ p' U R s' i w'=>p=p'/\U=l.length/\c=R/\s'=bs s/\w'=w/\∃k:Nat,i=(k:Int)/\k<=l.length/\∀j (h:j<l.length),j<k->ds (l[j]) s=true) (λ _ _ _ _ i _=>((l.length:Int)-i).toNat) ?_ ?_
 ·exact⟨rfl,rfl,rfl,rfl,rfl,0,rfl,by omega,by intro j _ h;omega⟩
 ·rintro _ _ _ _ _ Q ⟨rfl,rfl,rfl,rfl,rfl,k,rfl,H,x⟩;unfold Fi;have E:(∀(h:k<l.length),ds (l[k]) s=false)->wI (λ r w'=>dK w' r (gY s l)/\aS Q w') p l.length c (bs s) (k:Int) Q:=by
   intro I;unfold wI;refine bn (λ u=> ?_) (λ u=> ?_)
   ·have q:k<l.length:=by simp at u;omega
    refine pH h k q rfl (λ a m=>⟨_,m, ?_⟩);refine bn (λ G=> ?_) (λ G=> ?_)
    ·have y:l[k]=s:=by simpa[eG] using G
     unfold Fh;refine⟨?_,aS.refl _⟩;rw[R9 H x,gS q];unfold gY;rw[if_neg (by rw[I q];simp),if_pos y,<-gS q,kC];exact h
    ·have y:l[k]≠s:=by simpa[eG] using G
     exact fin k H x (λ h=>⟨I h,y⟩)
   ·have q:¬k<l.length:=by simp at u;omega
    exact fin k H x (λ h=>absurd h q)
  refine bn (λ u=> ?_) (λ u=> ?_)
  ·have q:k<l.length:=by simp at u;omega
   refine pH h k q rfl (λ a m=>⟨_,m, ?_⟩);refine bn (λ G=> ?_) (λ G=> ?_)
   ·have y:ds (l[k]) s=true:=by simpa[eG] using G
    unfold Fg;rw[gX (by omega)];refine⟨⟨rfl,rfl,rfl,rfl,rfl,k+1,rfl,by omega, ?_⟩,by omega⟩;intro j Z Lj;by_cases e:j=k
    ·subst e;exact y
    ·exact x j Z (by omega)
   ·exact E (λ _=>by simpa[eG] using G)
  ·have q:¬k<l.length:=by simp at u;omega
   exact E (λ h=>absurd h q)
abbrev Wd:=List UInt8
theorem uO:∀{x y z:Wd},ds x y=true->ds y z=true->ds x z=true
 |x,y,[],_,h=>by cases y<;>simp[ds] at h
 |x,[],c::z,h,_=>by cases x<;>simp[ds] at h
 |[],b::y,c::z,_,_=>rfl
 |a::x,b::y,c::z,q,r=>by
  simp only[ds,Bool.or_eq_true,decide_eq_true_eq,Bool.and_eq_true,beq_iff_eq] at q r⊢;rcases q with q|⟨rfl,q⟩<;>rcases r with r|⟨rfl,r⟩
  ·exact .inl (UInt8.lt_trans q r)
  ·exact .inl q
  ·exact .inl r
  ·exact .inr ⟨rfl,uO q r⟩
theorem CS{x y:Wd}(h:ds x y=true):x≠y:=by
 intro e;subst e;rw[nf] at h;cases h
abbrev WS(l:List Wd):Prop:=l.Pairwise λ x y=>ds x y=true
theorem Sa:∀{l:List Wd},CM l->WS l:=by
 intro l;induction l with
 |nil=>intro _;exact .nil
 |cons x l E=>
  intro h;have w:CM l:=λ i hi u G=>by
   have:=h (i+1) (by omega) (by simpa using u) (by simp;omega);cases i with
   |zero=>omega
   |succ i=>simpa using this
  have r:=E w;refine .cons ?_ r;cases l with
  |nil=>simp
  |cons y l=>
   have q:ds x y=true:=h 1 (by omega) (by simp) (by simp);intro z c;rcases dX.1 c with rfl|c
   ·exact q
   ·exact uO q ((iF.1 r).1 z c)
theorem ow{l:List Wd}(h:WS l):l.Nodup:=h.imp CS
theorem CU:∀{a b:List Wd},WS a->WS b->(∀x,x∈a↔x∈b)->a=b:=by
 intro a;induction a with
 |nil=>
  intro b _ _ h;cases b with
  |nil=>rfl
  |cons y b=>have:=(h y).2 (by simp);cases this
 |cons x a N=>
  intro b H I h;cases b with
  |nil=>have:=(h x).1 (by simp);cases this
  |cons y b=>
   have c:=iF.1 H;have q:=iF.1 I;have w:x=y:=by
    rcases dX.1 ((h x).1 (by simp)) with e|J
    ·exact e
    ·rcases dX.1 ((h y).2 (by simp)) with e|K
     ·exact e.symm
     ·have E:=q.1 x J;have G:=c.1 y K;have:=uO E G;rw[nf] at this;cases this
   subst w;congr 1;apply N c.2 q.2;intro z;constructor
   ·intro u;rcases dX.1 ((h z).1 (by simp[u])) with e|r
    ·subst e;have:=c.1 z u;rw[nf] at this;cases this
    ·exact r
   ·intro u;rcases dX.1 ((h z).2 (by simp[u])) with e|r
    ·subst e;have:=q.1 z u;rw[nf] at this;cases this
    ·exact r
theorem Sb{s:Wd}:∀{l:List Wd} {x:Wd},x∈gY s l↔x=s\/x∈l:=by
 intro l;induction l with
 |nil=>intro x;simp[gY]
 |cons y l q=>
  intro x;unfold gY;split
  ·simp only[dX,q];constructor
   ·rintro(h|h|h)<;>simp[h]
   ·rintro(h|h|h)<;>simp[h]
  ·split
   ·rename_i r c;subst c;simp
   ·simp
theorem aeV{s:Wd}:∀{l:List Wd},WS l->WS (gY s l):=by
 intro l;induction l with
 |nil=>intro _;simp[gY]
 |cons y l x=>
  intro h;have h':=iF.1 h;unfold gY;split
  ·rename_i r;refine iF.2 ⟨?_,x h'.2⟩;intro z c;rcases Sb.1 c with rfl|c
   ·exact r
   ·exact h'.1 z c
  ·split
   ·exact h
   ·rename_i u w;have q:ds s y=true:=yK (by simpa using u) w;refine iF.2 ⟨?_,h⟩;intro z c;rcases dX.1 c with rfl|c
    ·exact q
    ·exact uO q (h'.1 z c)
theorem Iu(s:Wd):∀(l:List Wd),(gY s l).length<=l.length+1/\l.length<=(gY s l).length:=by
 intro l;induction l with
 |nil=>simp[gY]
 |cons y l c=>
  unfold gY;split
  ·simp;omega
  ·split<;>simp
def nh(a l:List Wd):List Wd:=l.foldl (λ a s=>gY s a) a
def kW(l:List Wd):List Wd:=nh [] l
theorem aeW:∀{l a:List Wd} {x:Wd},x∈nh a l↔x∈a\/x∈l:=by
 intro l;induction l with
 |nil=>intro a x;simp[nh]
 |cons y l c=>
  intro a x;have:=c (a:=gY y a) (x:=x);simp only[nh,qo] at this⊢;rw[this,Sb,dX];constructor
  ·rintro((h|h)|h)<;>simp[h]
  ·rintro(h|h|h)<;>simp[h]
theorem aeX:∀{l a:List Wd},WS a->WS (nh a l):=by
 intro l;induction l with
 |nil=>intro a h;exact h
 |cons y l c=>intro a h;exact c (aeV h)
theorem aeY:∀(l a:List Wd),(nh a l).length<=a.length+l.length:=by
 intro l;induction l with
 |nil=>intro a;simp[nh]
 |cons y l h=>
  intro a;have c:=h (gY y a);have q:=(Iu y a).1;simp only[nh,qo,dH] at c⊢;omega
theorem Iv{l:List Wd}{x:Wd}:x∈kW l↔x∈l:=by rw[kW,aeW];simp
theorem ox(l:List Wd):WS (kW l):=aeX .nil
theorem yQ(l:List Wd):(kW l).length<=l.length:=by have:=aeY l [];simpa[kW] using this
abbrev eh:=List (Wd×Wd)
def jf(l:eh)(n:Wd):Wd:=
 match l with
 |[]=>[]
 |x::l=>if x.1=n then x.2 else jf l n
def ni(L:List eh):List Wd:=kW (L.flatMap λ x=>x.map (·.1))
def valuesOf(L:List eh)(n:Wd):List Wd:=kW ((L.map λ x=>jf x n).filter λ v=>v≠[])
theorem Sc{L:List eh}{n:Wd}:n∈ni L↔∃x∈L,∃v,(n,v)∈x:=by
 rw[ni,Iv,jJ];constructor
 ·rintro⟨x,q,h⟩;obtain⟨⟨a,b⟩,c,rfl⟩:=dt.1 h;exact⟨x,q,b,c⟩
 ·rintro⟨x,q,v,h⟩;exact⟨x,q,dt.2 ⟨_,h,rfl⟩⟩
theorem ae0:∀{l:eh} {n:Wd},jf l n≠[]->(n,jf l n)∈l:=by
 intro l;induction l with
 |nil=>intro n h;exact absurd rfl h
 |cons x l c=>
  intro n h;unfold jf at h⊢;split
  ·rename_i e;subst e;simp
  ·rename_i e;rw[if_neg e] at h;exact jI _ (c h)
theorem ae1{l:eh}(h:sI l):WS (l.map (·.1)):=by
 apply Sa;intro i hi c r;have q:i<l.length:=by simpa using c
 have:=h (i-1) (by omega);simp only[mJ];have e:i-1+1=i:=by omega
 simp only[e] at this;exact this
theorem Sd:∀{l:eh} {n v:Wd},(l.map (·.1)).Nodup->(n,v)∈l->jf l n=v:=by
 intro l;induction l with
 |nil=>intro n v _ h;cases h
 |cons x l q=>
  intro n v c h;rw[hW,aq9] at c;unfold jf;rcases dX.1 h with rfl|h
  ·simp
  ·have:x.1≠n:=λ e=>c.1 (by rw[e];exact dt.2 ⟨_,h,rfl⟩)
   rw[if_neg this];exact q c.2 h
theorem CV{L:List eh}{n v:Wd}(q:∀x∈L,(x.map (·.1)).Nodup/\∀y∈x,y.2≠[]):v∈valuesOf L n↔∃x∈L,(n,v)∈x:=by
 rw[valuesOf,Iv,oN,dt];constructor
 ·rintro⟨⟨x,c,rfl⟩,h⟩;exact⟨x,c,ae0 (by simpa using h)⟩
 ·rintro⟨x,c,h⟩;have e:=Sd (q x c).1 h;exact⟨⟨x,c,e⟩,by simpa using(q x c).2 _ h⟩
def pad(k n:Nat):Wd:=jx ((k-n % k) % k) 0
theorem Se(k n:Nat):(pad k n).length=(k-n % k) % k:=by simp[pad]
theorem sM{k:Nat}(n:Nat)(h:0<k):(pad k n).length<k:=by rw[Se];exact Nat.mod_lt _ h
theorem CW{k:Nat}(n:Nat)(h:0<k):(n+(pad k n).length) % k=0:=by
 rw[Se,Nat.add_mod,Nat.mod_mod];have q:n % k<k:=Nat.mod_lt _ h;by_cases c:n % k=0
 ·rw[c];simp
 ·rw[lC (a:=k-n % k) (by omega)];have:n % k+(k-n % k)=k:=by omega
  rw[this,Nat.mod_self]
def dh(b:Wd):Wd:=be 4 b.length++(b++be 4 (cI 0 b))
def fk(b:Wd):Wd:=bm b.length++(b++be 4 (cI 0 b))
theorem pJ(b:Wd):(dh b).length=b.length+8:=by simp[dh,cH];omega
def bo(S:List Wd)(s:Wd):Nat:=S.idxOf s
def cY(S:List Wd):Wd:=be 4 S.length++S.flatMap b8
abbrev iq:=Nat×Int×Int
def kX:Int->Nat->List iq->Wd
 |_,_,[]=>[]
 |t0,h,c::cs=>bm (c.2.1-t0).toNat++(bm (c.2.2-c.2.1).toNat++(bm (eO (aq af ((c.1:Int)-h)))++kX c.2.2 c.1 cs))
def lP:List iq->Wd
 |[]=>[]
 |c::cs=>bm (eO c.2.1)++(bm (c.2.2-c.2.1).toNat++(bm c.1++kX c.2.2 c.1 cs))
def fy(S:List Wd)(l:eh):Wd:=l.flatMap λ x=>bm (bo S x.1)++bm (bo S x.2)
def cA(S:List Wd)(x:bI):Wd:=bm x.labels.length++(fy S x.labels++(bm x.chunks.length++lP x.chunks))
def dr(S:List Wd)(F:Wd)(x:bI):Wd:=F++(pad 16 F.length++fk (cA S x))
def gM(F:Wd):Nat:=(F.length+(pad 16 F.length).length)/16
def eH(S:List Wd)(F:Wd)(L:List bI):Wd:=L.foldl (dr S) F
def eC(S:List Wd):Wd->List bI->List Nat
 |_,[]=>[]
 |F,x::L=>gM F::eC S (dr S F x) L
def fM(refs:List Nat):Wd:=be 4 refs.length++refs.flatMap (be 4)
def cX(t:Wd×Wd×Nat):Wd:=bm 2++(b8 t.1++(b8 t.2.1++bm t.2.2))
def eP(T:List (Wd×Wd×Nat)):Wd:=be 4 T.length++T.flatMap cX
def sN(L:List bI)(R:List Nat)(n v:Wd):List Nat:=((L.zip R).filter λ p=>decide ((n,v)∈p.1.labels)).map (·.2)
def kr(L:List bI):List (Wd×Wd):=(ni (L.map (·.labels))).flatMap λ n=>(valuesOf (L.map (·.labels)) n).map λ v=>(n,v)
def eu(a b c d e f:Nat):Wd:=be 8 a++(be 8 b++(be 8 c++(be 8 d++(be 8 e++be 8 f))))
def yR(L:List bI)(R:List Nat)(t:Wd×Wd×Nat):List Nat:=if t.1=[] then R else sN L R t.1 t.2.1
structure jV(S:List Wd)(L:List bI)(B:Wd)(R:List Nat)(T:List (Wd×Wd×Nat)):Prop where
 len:B.length<=67108864
 head:∃r,B=be 4 3131758336++2::r
 toc:∃pre a b c d pt,pt+52<=B.length/\b<18446744073709551616/\a<18446744073709551616/\c<18446744073709551616/\d<18446744073709551616/\
  B=pre++(eu 5 a b c d pt++be 4 (cI 0 (eu 5 a b c d pt)))/\∃r,B.drop pt=dh (eP T)++r
 sym:∃r,B.drop 5=dh (cY S)++r
 ser:∀i (h:i<L.length) (q:i<R.length),∃r,B.drop (16*R[i])=fk (cA S (L[i]))++r/\16*R[i]+5<=B.length
 yS:R.length=L.length
 fT:∀x∈R,0<x/\x<4294967296
 ae4:R.Pairwise (·<·)
 post:∀t∈T,t.2.2<=B.length/\∃r,B.drop t.2.2=dh (fM (yR L R t))++r
 Iw:T.map (λ t=>(t.1,t.2.1))=([],[])::kr L
theorem Sf(a l:List Wd)(x:Wd):nh a (l++[x])=gY x (nh a l):=by simp[nh]
theorem Sg(l:List Wd)(x:Wd):kW (l++[x])=gY x (kW l):=Sf [] l x
theorem ae5(x:Wd×Wd)(l:eh)(n:Wd):jf (x::l) n=if x.1=n then x.2 else jf l n:=rfl
theorem Sh{w:ak}{v:ay}{l:List Wd}(h:dK w v l)(Z:l.length<=90000):
  au ag 16 #[v] w λ r w'=>dK w' r (kW l)/\aS w w':=by
 obtain⟨p,c,rfl,y⟩:=aX.ex h;apply Yc;unfold Mr;refine Yb (λ U Q N K J I i w'=>p=U/\Q=l.length/\c=N/\aS w w'/\∃k:Nat,i=(k:Int)/\k<=l.length/\dK w' (aa K J I) (kW (l.take k))) (λ _ _ _ _ _ _ i _=>((l.length:Int)-i).toNat) ?_ ?_
 ·exact⟨rfl,rfl,rfl,aS.refl w,0,rfl,by omega,aX.nil w 1 none 0⟩
 ·rintro _ _ _ K J I _ w1 ⟨rfl,rfl,rfl,x,k,rfl,X,G⟩;unfold Fu;refine bn (λ y=> ?_) (λ y=> ?_)
  ·have u:k<l.length:=by simp at y;omega
   refine pH (Sl.aH h x) k u rfl (λ a m=>⟨_,m, ?_⟩);have R:=yQ (l.take k);rw[fS] at R;refine aF (yP G (by omega)) ?_;rintro r w2 ⟨H,E⟩;obtain⟨q,W,rfl,_⟩:=aX.ex H;refine⟨_,_,_,rfl, ?_⟩;rw[gX (by omega)];refine⟨⟨rfl,rfl,rfl,x.trans E,k+1,rfl,by omega, ?_⟩,by omega⟩;rw[<-l7 u,Sg];exact H
  ·have u:¬k<l.length:=by simp at y;omega
   rw[lD (by omega)] at G;exact⟨G,x⟩
theorem k23{w:ak}{v:ay}{l:eh}{n:Wd}(h:Sl db 2 w v l)(N:l.length<=2147483647):
  au ag 23 #[v,aC (bs n)] w λ r w'=>r=aC (bs (jf l n))/\w'=w:=by
 obtain⟨p,c,rfl,y⟩:=aX.ex h;apply Yq;unfold MD;refine Yp (λ J H G I i w'=>p=J/\H=l.length/\c=G/\I=bs n/\w'=w/\∃k:Nat,i=(k:Int)/\k<=l.length/\jf l n=jf (l.drop k) n) (λ _ _ _ _ i _=>((l.length:Int)-i).toNat) ?_ ?_
 ·exact⟨rfl,rfl,rfl,rfl,rfl,0,rfl,by omega,rfl⟩
 ·rintro _ _ _ _ _ Q ⟨rfl,rfl,rfl,rfl,rfl,k,rfl,K,x⟩;unfold FH;refine bn (λ y=> ?_) (λ y=> ?_)
  ·have q:k<l.length:=by simp at y;omega
   rw[gS q,ae5] at x;refine sK h k q rfl (λ a m0 m1=>⟨_,m0, ?_⟩);refine bn (λ E=> ?_) (λ E=> ?_)
   ·have u:(l[k]).1=n:=by simpa[eG] using E
    refine sK h k q rfl (λ a m0 m1=>⟨_,m1, ?_,rfl⟩);rw[x,if_pos u]
   ·have u:(l[k]).1≠n:=by simpa[eG] using E
    rw[if_neg u] at x;rw[gX (by omega)];exact⟨⟨rfl,rfl,rfl,rfl,rfl,k+1,rfl,by omega,x⟩,by omega⟩
  ·have q:¬k<l.length:=by simp at y;omega
   rw[List.drop_eq_nil_of_le (by omega)] at x;rw[x];exact⟨rfl,rfl⟩
def Si(x:Nat×ay):List ay:=[ah aj (x.1:Int),x.2]
def nj(w:ak)(v:ay)(l:List (Nat×eh)):Prop:=
 ∃c:List (Nat×ay),c.length=l.length/\Sl Si 2 w v c/\∀i (h:i<c.length) (q:i<l.length),c[i].1=l[i].1/\Sl db 2 w c[i].2 l[i].2
theorem nj.aH{w w':ak}{v:ay}{l:List (Nat×eh)}(h:nj w v l)(r:aS w w'):nj w' v l:=by
 obtain⟨c,u,x,q⟩:=h;exact⟨c,u,Sl.aH x r,λ i a b=>⟨(q i a b).1,Sl.aH (q i a b).2 r⟩⟩
theorem nj.ex{w:ak}{v:ay}{l:List (Nat×eh)}(h:nj w v l):∃p c,v=aa p l.length c/\l.length<=c:=by
 obtain⟨x,q,r,_⟩:=h;obtain⟨p,c,u,y⟩:=aX.ex r;exact⟨p,c,by rw[u,q],by omega⟩
theorem Ix{w:ak}{p:OA}{len c:Nat}{l:List (Nat×eh)}(h:nj w (aa p len c) l)(i:Nat)(hi:i<l.length){x:Int}(Q:x=(i:Int)){K:kd->Prop}
  (N:∀(a:kd) (q:OA) (c1:Nat),at_ w a (ah aj ((l[i]).1:Int))->at_ w (a.add 1) (aa q (l[i]).2.length c1)->Sl db 2 w (aa q (l[i]).2.length c1) (l[i]).2->K a):aU p len x 2 K:=by
 subst Q;obtain⟨R,U,I,J⟩:=h;refine Sl.ix (enc:=Si) (z:=2) (λ _=>rfl) (by omega) I (by omega) (by omega) (λ a W E=> ?_);obtain⟨G,y⟩:=J i (by omega) hi;have r:=E 0 _ rfl;have u:=E 1 _ rfl;simp only[fH] at r u;obtain⟨q,c1,H,_⟩:=aX.ex y;rw[G] at r;rw[H] at u y;exact N a q c1 (by simpa using r) u y
theorem ae7{L:List eh}{i k:Nat}(h:i<L.length)(c:k<(L[i]).length):
  ((L.take i).flatMap λ x=>x.map (·.1))++((L[i]).take (k+1)).map (·.1)=(((L.take i).flatMap λ x=>x.map (·.1))++((L[i]).take k).map (·.1))++[((L[i])[k]).1]:=by
 rw[<-l7 c];simp only[iE,hW,List.map_nil,dx]
theorem yT{w:ak}{v:ay}{l:List (Nat×eh)}(h:nj w v l)(hl:l.length<=1000)(hs:∀x∈l,x.2.length<=50):
  au ag 14 #[v] w λ r w'=>dK w' r (ni (l.map (·.2)))/\aS w w':=by
 obtain⟨p,c,rfl,G⟩:=h.ex;apply Yk;unfold FC;have y:∀i,i<=l.length->(((l.map (·.2)).take i).flatMap λ x=>x.map (·.1)).length<=i*50:=by
  intro i;induction i with
  |zero=>simp
  |succ i ih=>
   intro hi;have h1:=ih (by omega);rw[<-l7 (l:=l.map (·.2)) (i:=i) (by rw[fu];omega),jK,aY];have:=hs (l[i]) (by simp);simp at this⊢;simp at h1;omega
 refine Yj (λ Z U R Q N K i w'=>p=Z/\U=l.length/\c=R/\aS w w'/\∃k:Nat,i=(k:Int)/\k<=l.length/\dK w' (aa Q N K) (ni ((l.map (·.2)).take k))) (λ _ _ _ _ _ _ i _=>((l.length:Int)-i).toNat) ?_ ?_
 ·exact⟨rfl,rfl,rfl,aS.refl w,0,rfl,by omega,aX.nil w 1 none 0⟩
 ·rintro _ _ _ Q N K _ w1 ⟨rfl,rfl,rfl,J,i,rfl,hi,I⟩;unfold FB;refine bn (λ G=> ?_) (λ G=> ?_)
  ·have u:i<l.length:=by simp at G;omega
   refine Yi (λ Z U R Q N K i' k w'=>p=Z/\U=l.length/\c=R/\i'=(i:Int)/\aS w w'/\∃X:Nat,k=(X:Int)/\X<=(l[i]).2.length/\dK w' (aa Q N K) (kW ((((l.map (·.2)).take i).flatMap λ x=>x.map (·.1))++((l[i]).2.take X).map (·.1)))) (λ _ _ _ _ _ _ _ k _=>(((l[i]).2.length:Int)-k).toNat) ?_ ?_
   ·refine⟨rfl,rfl,rfl,rfl,J,0,rfl,by omega, ?_⟩;rw[List.take_zero,List.map_nil,iA];exact I
   ·rintro _ _ _ Q N K _ _ w2 ⟨rfl,rfl,rfl,rfl,E,k,rfl,hk,I⟩;unfold FA;refine Ix (h.aH E) i u rfl (λ a P1 c1 m0 m1 m2=>⟨_,_,_,m1, ?_⟩);refine bn (λ G=> ?_) (λ G=> ?_)
    ·have H:k<(l[i]).2.length:=by simp at G;omega
     refine Ix (h.aH E) i u rfl (λ a P1 c1 m0 m1 m2=>⟨_,_,_,m1, ?_⟩);refine sK m2 k H rfl (λ b n0 n1=>⟨_,n0, ?_⟩);have hb:=yQ ((((l.map (·.2)).take i).flatMap λ x=>x.map (·.1))++((l[i]).2.take k).map (·.1));have je:=y i (by omega);have jU:=hs (l[i]) (by simp);rw[aY,fu,fS] at hb;refine aF (yP I (by omega)) ?_;rintro r w3 ⟨h3,W⟩;obtain⟨q,cq,rfl,_⟩:=aX.ex h3;refine⟨_,_,_,rfl, ?_⟩;rw[gX (by omega)];refine⟨⟨rfl,rfl,rfl,rfl,E.trans W,k+1,rfl,by omega, ?_⟩,by omega⟩;have e:=ae7 (L:=l.map (·.2)) (i:=i) (k:=k) (by simpa using u) (by simpa using H);simp only[mJ] at e;rw[e,Sg];exact h3
    ·have H:¬k<(l[i]).2.length:=by simp at G;omega
     rw[gX (by omega)];refine⟨⟨rfl,rfl,rfl,E,i+1,rfl,by omega, ?_⟩,by omega⟩;rw[lD (l:=(l[i]).2) (by omega)] at I;rw[<-l7 (l:=l.map (·.2)) (i:=i) (by simpa using u),ni,jK];simp only[fG,List.flatMap_nil,iA,mJ];exact I
  ·have u:¬i<l.length:=by simp at G;omega
   rw[lD (by simp;omega)] at I;exact⟨I,J⟩
theorem k15{w:ak}{v:ay}{l:List (Nat×eh)}{n:Wd}(h:nj w v l)(hl:l.length<=1000)(hs:∀x∈l,x.2.length<=50):
  au ag 15 #[v,aC (bs n)] w λ r w'=>dK w' r (valuesOf (l.map (·.2)) n)/\aS w w':=by
 obtain⟨p,c,rfl,H⟩:=h.ex;apply Ym;unfold Mz;refine Yl (λ p' Z X n' W U R i w'=>p=p'/\Z=l.length/\c=X/\n'=bs n/\aS w w'/\∃k:Nat,i=(k:Int)/\k<=l.length/\dK w' (aa W U R) (valuesOf ((l.map (·.2)).take k) n)) (λ _ _ _ _ _ _ _ i _=>((l.length:Int)-i).toNat) ?_ ?_
 ·exact⟨rfl,rfl,rfl,rfl,aS.refl w,0,rfl,by omega,aX.nil w 1 none 0⟩
 ·rintro _ _ _ _ W U R _ w1 ⟨rfl,rfl,rfl,rfl,y,i,rfl,hi,I⟩;unfold FD;refine bn (λ H=> ?_) (λ H=> ?_)
  ·have E:i<l.length:=by simp at H;omega
   refine Ix (h.aH y) i E rfl (λ a P1 c1 m0 m1 m2=>⟨_,_,_,m1, ?_⟩);have jU:=hs (l[i]) (by simp);refine aF (k23 m2 (by omega)) ?_;rintro _ w1 ⟨rfl,rfl⟩;refine⟨_,rfl, ?_⟩;have e:(l.map (·.2)).take (i+1)=(l.map (·.2)).take i++[(l[i]).2]:=by
    rw[<-l7 (by simpa using E)];simp
   have N:valuesOf ((l.map (·.2)).take (i+1)) n=if jf (l[i]).2 n=[] then valuesOf ((l.map (·.2)).take i) n else gY (jf (l[i]).2 n) (valuesOf ((l.map (·.2)).take i) n):=by
    rw[e];unfold valuesOf kW;rw[iE,List.filter_append];by_cases G:jf (l[i]).2 n=[]
    ·simp[G]
    ·simp[G,Sf]
   refine bn (λ G=> ?_) (λ G=> ?_)
   ·have u:jf (l[i]).2 n≠[]:=by
     intro u;rw[u] at G;simp[eG] at G
    have hb:=yQ ((((l.map (·.2)).take i).map λ x=>jf x n).filter λ v=>v≠[]);have J:=List.length_filter_le (λ v:Wd=>v≠[]) (((l.map (·.2)).take i).map λ x=>jf x n);rw[fu,fS] at J;refine aF (yP I (by unfold valuesOf;omega)) ?_;rintro r w3 ⟨Q,K⟩;obtain⟨q,cq,rfl,_⟩:=aX.ex Q;refine⟨_,_,_,rfl, ?_⟩;unfold wT;rw[gX (by omega)];refine⟨⟨rfl,rfl,rfl,rfl,y.trans K,i+1,rfl,by omega, ?_⟩,by omega⟩;rw[N,if_neg u];exact Q
   ·have u:jf (l[i]).2 n=[]:=by simpa[eG] using G
    unfold wT;rw[gX (by omega)];refine⟨⟨rfl,rfl,rfl,rfl,y,i+1,rfl,by omega, ?_⟩,by omega⟩;rw[N,if_pos u];exact I
  ·have E:¬i<l.length:=by simp at H;omega
   rw[lD (by simp;omega)] at I;exact⟨I,y⟩
theorem cE(n:Nat)(w:ak):(C2 .neq 86 (br n) (bt aA) aA aA).run ag w= .ok (aQ false) w:=by kernel_rfl
theorem pK(n:Nat)(w:ak):(C2 .eql 86 (br n) (bt aA) aA aA).run ag w= .ok (aQ true) w:=by kernel_rfl
end Go.Proofs
