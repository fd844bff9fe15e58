/- Part 4 of the proof of FnCloneApart: what the law and the program compute, walked. -/
import Derived.Test.YtgajepeipddacaaGreatJ3
open Go.RowKit Go.Proofs.Tryz
open Array renaming getElem?_eq_some_iff->AE
open ByteArray renaming size_append->G4
open Go renaming Addr->Ai,Calls->AX,Ending->Bx,Oper->ER,Value->AS,World->AB,below_drewN->BC,cell_of_row->AZ,frozen_of_row->A7,heap_alloc_new->Ah,heap_setCell_same->Ao,info_parts->D6
open Go.Act renaming put->AQ
open Go.Addr renaming add_lit->Ba
open Go.ByteArray renaming toList_eq->BU
open Go.Lib renaming contains->Cf,hid->AA
open Go.Proofs.Tryz renaming prog->AC
open Go.Region renaming binds->Ev,ready->CP,wanted->Du
open Go.RowKit renaming Below->AL,intOf->Aa
open Go.RowKit.Below renaming heap_alloc->B5,heap_setCell->A8,refl->AW
open Go.Value renaming ownBlock->A6,slice->AO
open Go.World renaming block_lt_of_cell?->Bn,cell?_alloc_mark->BI,cell?_setCell_far->BN,frozen?_of_block->Bj,frozen?_setCell->EK,ownsRow_nil->Aw,setCell->Cb
open List renaming append_assoc->Bw,append_nil->Ey,drop_eq_getElem_cons->Ck,eq_nil_of_length_eq_zero->Ag,filter_append->Ds,filter_cons->CW,flatMap_cons->A_,getD_eq_getElem?_getD->Ae,getElem?_eq_getElem->AK,getElem_append_left->Cs,getElem_inj->C0,getElem_map->BD,getElem_mem->AD,getElem_of_mem->An,getElem_take->F_,length_append->AN,length_cons->Ak,length_drop->DN,length_map->Aq,length_nil->Ar,length_pos_iff->Bg,length_range->D7,length_reverse->EF,length_take->At,map_append->B3,map_congr_left->Ay,map_cons->Bz,mem_append->AV,mem_cons->BQ,mem_cons_of_mem->Ab,mem_cons_self->Af,mem_filter->Cd,mem_map->BL,mem_map_of_mem->BK,mem_reverse->CA,mem_singleton->AP,mem_take_iff_getElem->C7,nil_append->BY,nodup_append->BA,nodup_cons->B4,range->BV,reverse_reverse->CO,setIfInBounds_toArray->Cx,take_append_drop->Av,take_length->AU,take_of_length_le->BP,take_succ_eq_append_getElem->AF,take_zero->BM
open Nat renaming add_zero->Dj,eq_zero_or_pos->BJ,le_of_lt->Ca,le_refl->AG,le_trans->AH,lt_of_lt_of_le->AR,lt_or_ge->Be,zero_add->By,zero_le->AY
open Option renaming getD_some->BE,map_none->BF,map_some->As
open Option.some renaming inj->Cw
open Go.Proofs.YtgajepeipddacaaGreat
namespace Go.Proofs.YtgajepeipddacaaGreat
set_option linter.unusedVariables false
set_option maxRecDepth 100000
set_option maxHeartbeats 40000000
variable{B A c g i k n p r x:Nat}{F:Fo}{Q:Exit->Act->AB->Prop}{R:AB->Prop}{S:Nat->Prop}{a L:Option Ai}{Z C h D u O:Nat->Nat}{E z:Array AS}{l:List At2}{X:Array Bool}{H f:Nat->Nd}{I J Y:List Nat}{U:Int}{T:Array ER}{P:Nat->Int}{s:bY}{V W:Nat->Dn}{t:List Nd}{v:AS}{w N M wr:AB}
structure KS(r g fc fb:Nat)(s:bY)(kb:Nat->Nat)(w:AB):Prop where
 kno:Ct s.F (λi=>i<s.N) s.nd (M1 r) fb kb w
 fst:w.heap[fb]? =some (.cells #[.slice (some ⟨g,0,none⟩) r fc,.int .i64 (s.N:Int),.bool s.op] 56 (0,0))
 row:w.ownsRow fb 57 1 (.slice (some ⟨g,0,none⟩) r fc) r (Ad kb (BV r))
theorem KS.rs{e t:Nat}(h:KS r g e t s O w):RS r s.N g e t O w s O w:=⟨h.kno,h.fst,λ_ _=>rfl,λy o a=>by omega,Al.refl _ _ _⟩
theorem KS.up{t a:Nat}(h:KS r g t a s O w)(e:AL w.heap.size w M):KS r g t a s O M:=⟨h.kno.up e,(e.block _ (AE.1 h.fst).1).trans h.fst,BB h.row (λb _ o=>e.block b o)⟩
theorem KS.next{e t:Nat}{s2:bY}{kb2:Nat->Nat}(h:KS r g e t s O w)(hr:r<=s.N)(R:RS r s.N g e t O w s2 kb2 M):KS r g e t s2 kb2 M:=by
 refine⟨R.kno,R.fst,?_⟩;have k:=R.kept h.row (λi n=>by obtain⟨_,_,_,_,_,a,_,_⟩:=h.kno.node i n;exact Ax h.row a (by decide)) (Ax h.row h.fst (by decide));rw[FG (kb:=O) (kb2:=kb2) λy o=>R.old y (AR (List.mem_range.1 o) hr)];exact k
theorem KS.cell{t a:Nat}(h:KS r g t a s O w){j:Nat}(e:j<r):w.cell? ⟨g,j,none⟩=some (.pointer (some ⟨O j,0,none⟩)):=by
 have:=h.row.cells (g:=g) rfl j (.pointer (some ⟨O j,0,none⟩)) (by simp[Ad,e]);rw[Ba,By]at this;exact this
theorem KS.f0{e t:Nat}(h:KS r g e t s O w):w.cell? ⟨t,0,none⟩=some (.slice (some ⟨g,0,none⟩) r e):=by rw[AZ w _ 0 _ _ _ h.fst];rfl
def O0(r g i o:Nat)(l l2:List Int)(R:List Nat->List Nat->bY->Prop)(w:AB)(e:Bx)(w':AB):Prop:=
 ∃b,e= .returned (.bool b)/\(b=true->∃t ws s2 a,Ik r l t/\t≠[]/\Ik r l2 ws/\R t ws s2/\KS r g i o s2 a w')/\AL o w w'
def Sv(s:bY)(xs ws:List Nat):bY:={Bl 3 s xs ws xs.length with F:=CB (Bl 3 s xs ws xs.length).F xs}
def Ox(r n g o a:Nat)(kb:Nat->Nat)(F0:Fo)(nd0:Nat->Nd)(xs ws:List Nat)(s0:bY)(w:AB)(e:Bx)(w':AB):Prop:=
 ∃b,e= .returned (.bool b)/\(b=true->ws≠[]/\GB F0 ws xs/\(¬Jn 3->∀x∈xs,(nd0 x).kind=3)/\(Jn 3->∀x∈xs,F0.par x≠none)/\GB F0 xs []/\∃t,RS r n g o a kb w (Sv s0 xs ws) t w')/\AL a w w'
theorem NM.bK{l1 l2:List Nat}(h:NM 3 F x p l1 l2):NM 5 F x p l1 l2:=by
 rcases h with h|h|h|h
 .exact absurd h.1 (by decide)
 .exact absurd h.1 (by decide)
 .exact absurd h.1 (by decide)
 exact .inr (.inr (.inr ⟨.inr rfl,h.2⟩))
theorem SS(op:Int)(s:bY)(xs ws:List Nat)(e:xs≠[]):∃x,x∈xs/\Bl op s xs ws xs.length=Bm op true (Bl op s xs ws (xs.length-1)) x ws:=by
 have t:0<xs.length:=Bg.2 e;refine⟨xs[xs.length-1]'(by omega),AD _,?_⟩;have e1:xs.length=(xs.length-1)+1:=by omega
 conv=>lhs;rw[e1]
 show Bm op (decide (xs.length-1+1=xs.length)) _ (xs.getD (xs.length-1) 0) ws=_;rw[decide_eq_true (by omega:xs.length-1+1=xs.length),Ae,AK (by omega),BE]
theorem UA(hr2:r<=200)(hrn:r<=n){F0:Fo}(o0:F0.Ok (λi=>i<n) D)(hn:n<=600)(hnb:∀i,i<n->Kk (f i)/\(f i).attrs.length<=2000)(hh:∀i,i<n->D i<=600){fc V:Nat}(hR:RS r n g fc V O w ⟨F0,n,f,false⟩ O w)(hfw:V<=w.heap.size)
 (xs ws:List Nat)(hxr:∀x∈xs,x<r)(hwr:∀x∈ws,x<r)(hxn:xs.Nodup)(hwn:ws.Nodup)(hx0:xs≠[]){base:Nat}(a:Option Ai)(c:Nat)(ho1:w.ownsRow base 57 1 (.slice a xs.length c) xs.length (Ad O xs))(a2:Option Ai)(c2:Nat)(ho2:w.ownsRow base 57 1 (.slice a2 ws.length c2) ws.length (Ad O ws)):
 AX AC 38 #[.pointer (some ⟨V,0,none⟩),.int .i64 5,.slice a xs.length c,.slice a2 ws.length c2] w (Ox r n g fc V O F0 f xs ws ⟨F0,n,f,false⟩ w):=by
 have hxl:xs.length<=200:=by have:=BH hxn hxr;omega
 have hwl:ws.length<=200:=by have:=BH hwn hwr;omega
 have hxs:∀x∈xs,x<n:=λx h=>by have:=hxr x h;omega
 have hws:∀x∈ws,x<n:=λx h=>by have:=hwr x h;omega
 have hkf:∀i,i<n->V<=O i:=λi hi=>(hR.kno.node i hi).1;have hty1:∀i,i<n->(AO a xs.length c).ownBlock≠some (O i):=λi hi=>by
  obtain⟨_,_,_,_,_,hhn,_,_⟩:=hR.kno.node i hi;exact Ax ho1 hhn (by decide)
 have hty2:∀i,i<n->(AO a2 ws.length c2).ownBlock≠some (O i):=λi hi=>by
  obtain⟨_,_,_,_,_,hhn,_,_⟩:=hR.kno.node i hi;exact Ax ho2 hhn (by decide)
 have HRow1:Hid (∀s S wr,RS r n g fc V O w s S wr->B6 wr wr.heap.size a (Ad O xs)):=λs S wr R=>Bh (R.kept ho1 hty1 (Ax ho1 hR.fst (by decide)));have HRow2:Hid (∀s S wr,RS r n g fc V O w s S wr->B6 wr wr.heap.size a2 (Ad O ws)):=λs S wr R=>Bh (R.kept ho2 hty2 (Ax ho2 hR.fst (by decide)));have HBel:Hid (∀s S wr,RS r n g fc V O w s S wr->AL V w wr):=λs S wr R=>R.below hfw hkf;have HAp:=AA (Fg o0 (OO D n) ws xs hws hxs (by omega) (by omega) a2 c2 a c w hR.kno (Bh ho2) (Bh ho1));have HAp5:Hid (∀w1,AL w.heap.size w w1->AX AC 59 #[.slice a xs.length c,.slice none 0 0] w1 λe w'=>∃b,e= .returned (.bool b)/\(b=true->GB F0 xs [])/\AL w1.heap.size w1 w'):=λw1 hb=>Fg o0 (OO D n) xs [] hxs (by simp) (by omega) (by simp) a c none 0 w1 (hR.kno.up hb) ((Bh ho1).up hb) (.inl rfl);have HX0:=AA hx0;have HGuard:Hid (∀w1,AL w.heap.size w w1->AX AC 60 #[.slice a xs.length c] w1 (λe w'=>∃b,e= .returned (.bool b)/\(b=true->∀x∈xs,F0.par x≠none)/\w1=w')):=λw1 hb=>JT xs hxs (by omega) a c w1 (hR.kno.up hb) ((Bh ho1).up hb);have HInv:Hid (GB F0 ws xs->(∀x∈xs,F0.par x≠none)->∀i,i<xs.length->∃h',Inv n F0 D f 3 xs ws (Bl 3 ⟨F0,n,f,false⟩ xs ws i) h'/\(Bl 3 ⟨F0,n,f,false⟩ xs ws i).N<=1200+i*ws.length):=λhA J=>Hl (h:=D) (.inr (.inr (.inr rfl))) o0 hn ⟨o0,AG _,λ_ _ _ _=>⟨rfl,rfl⟩,λx hx y Q=>by
  obtain⟨i,hi,rfl⟩:=An hx;obtain⟨j,hj,rfl⟩:=An Q;exact hA.2 i j hi hj,λ_=>J,λy Q=>⟨y,Q,rfl⟩⟩ (λx hx=>⟨hws x hx,hh x (hws x hx)⟩) hxs (by show n<=1200;omega)
 have HR0:=AA hR;have HX:=AA hxs;have HW:=AA hws;have HWn:=AA hwn;have HHt:Hid (∀x∈ws,x<n/\D x<=600):=λx hx=>⟨hws x hx,hh x (hws x hx)⟩;have HNb:=AA hnb;have HO0:=AA o0;clear hR ho1 ho2 hty1 hty2 hkf hxs hws hnb hh hx0 o0 hxr hwr;go_enter func38,ntmps38;go_wp2_with fail;refine HAp.o.mono ?_;rintro e w1 ⟨b1,rfl,hA,hb1⟩;have HR1:=AA (HR0.o.up hb1);have HB1:=AA (HBel.o _ _ _ HR1.o);have HG:=AA (HGuard.o w1 hb1);have HBw:=AA hb1;clear hb1;cases b1
 .clear hA;go_wp2;go_ret;exact⟨false,rfl,by simp,HB1.o⟩
 have HA:=AA (hA rfl);clear hA;go_wp2_with fail;refine HG.o.mono ?_;rintro e w2 ⟨b2,rfl,J,rfl⟩;cases b2
 .clear J;go_wp2;go_ret;exact⟨false,rfl,by simp,HB1.o⟩
 have HP:=AA (J rfl);clear J HG;rcases BJ ws.length with hz|hz
 .have ez:((ws.length:Int)==0)=true:=beq_iff_eq.2 (by omega);clear hz;go_wp2;go_ret;exact⟨false,rfl,by simp,HB1.o⟩
 have ez:((ws.length:Int)==0)=false:=CY.2 (by omega);have HNe:Hid (ws≠[]):=λe=>by rw[e]at hz;simp at hz
 have HIv:=AA (HInv.o HA.o HP.o);have HA5:=AA (HAp5.o w1 (HBw.o));clear hz HInv HGuard HAp5;go_wp2_with fail;refine HA5.o.mono ?_;rintro e w3 ⟨b5,rfl,hA5,hb5⟩;have ee:=AA (HR1.o.up hb5);have HB3:=AA (HBel.o _ _ _ ee.o);clear hb5 HA5;cases b5
 .clear hA5;go_wp2;go_ret;exact⟨false,rfl,by simp,HB3.o⟩
 have HA5:=AA (hA5 rfl);clear hA5 HB1;have HB1:=HB3;clear HB3 HR1;have HR1:=ee;clear ee;go_wp2;go_loopw [10,11,12,13] (λv v11 v12 v13 wr=>∃(i:Nat) (S:Nat->Nat),i<=xs.length/\v= .int .i64 i/\RS r n g fc V O w (Bl 3 ⟨F0,n,f,false⟩ xs ws i) S wr) (λv _ _ _ _=>xs.length-(Aa v).toNat)
 .exact⟨0,O,AY _,rfl,HR1.o⟩
 obtain⟨i,kb2,hi,rfl,hR2⟩:=hrel;obtain⟨W2,rfl⟩:∃W2:AB,W2=wr:=⟨_,rfl⟩;have HR2:=AA hR2;clear hR2;by_cases U:i<xs.length
 .obtain⟨h2,hI,hbd⟩:=HIv.o i U;have HS1:Hid (Bl 3 ⟨F0,n,f,false⟩ xs ws (i+1)=Bm 3 (decide (i+1=xs.length)) (Bl 3 ⟨F0,n,f,false⟩ xs ws i) xs[i] ws):=by
   show Bm 3 (decide (i+1=xs.length)) _ (xs.getD i 0) ws=_;rw[Ae,AK U,BE]
  obtain⟨s,hs⟩:∃s,s=Bl 3 ⟨F0,n,f,false⟩ xs ws i:=⟨_,rfl⟩;rw[<-hs]at hI hbd HR2 HS1;have hbd2:s.N<=41200:=by
   have:i*ws.length<=200*200:=Nat.mul_le_mul (by omega) hwl;omega
  have HI:=AA hI;have hle:=hI.le;clear hs hI hbd;obtain⟨last,hlast⟩:∃last,last=decide (i+1=xs.length):=⟨_,rfl⟩;rw[<-hlast]at HS1;have Y:=AA hlast;clear hlast;go_wp2;go_loopw [11,12,13] (λv11 v12 v13 wr=>∃(j:Nat) (S:Nat->Nat) (la:Option Ai) (lc:Nat),j<=ws.length/\v12= .int .i64 j/\v11= .slice la j lc/\RS r n g fc V O w (Ap last s (ws.take j)) S wr/\wr.ownsRow w.heap.size 57 1 (.slice la j lc) j (Ad S (CI last s (ws.take j)))/\GH (Ap last s (ws.take j)) S (.slice la j lc) wr) (λ_ v _ _=>ws.length-(Aa v).toNat)
  .exact⟨0,kb2,none,0,AY _,rfl,rfl,by rw[BM];exact HR2.o,by rw[BM];cases last<;>exact Aw _ _ _ _,λy _ u _=>FO.nil _ _ _⟩
  obtain⟨j,t,la,lc,hj,rfl,rfl,d,K,hapt⟩:=hrel;obtain⟨W3,rfl⟩:∃W3:AB,W3=wr:=⟨_,rfl⟩;by_cases Z:j<ws.length
  .obtain⟨b,o,rfl,hbB,hc⟩:=(HRow2.o _ _ _ d).at_ (by rw[AM];omega);have g1:=hc j (by rw[AM];exact Z);have hwm:=HW.o _ (AD Z);have hw2:=HHt.o _ (AD Z);rw[A5 Z,<-d.old _ hwm]at g1;have et:Hid (CI last s (ws.take (j+1))=CI last s (ws.take j)++[if last then ws[j]else(Ap last s (ws.take j)).N]):=by
    rw[Hid,AF Z,En]
   have M:Hid (Ap last s (ws.take (j+1))=if last then(Ap last s (ws.take j)).cut ws[j]else CZ 600 (Ap last s (ws.take j)) ws[j]):=by
    rw[Hid,AF Z,DW]
   have B:Hid ((CI last s (ws.take j)).length=j):=by rw[Hid,DT,At];omega
   have ee:=AA d;have HOw:=AA K;have HAp3:=AA hapt;have HWm:Hid (∀m,ws.take m=ws.take m):=λ_=>rfl;cases last
   .simp only[Bool.false_eq_true,if_false]at et M;obtain⟨ha,A⟩:=Lr HI.o HHt.o j;have hbN:=Di HO0.o hn HI.o HHt.o (c:=41200) (by omega) hbd2 (j+1);rw[M.o]at hbN;have hAle:=A.le;have hwA:ws[j]<(Ap false s (ws.take j)).N:=by omega
    have HCp:=AA (Fj 600 A.ok d.kno (AH hfw d.turn.size) hwA (by rw[A.hold _ (by omega),(HI.o.sub _ (AD Z) _ .self).2];exact hw2.2) (λy Q=>AI (by omega)) d.fst (by omega) (λy Q=>by obtain⟨z,hz,e⟩:=A.nds y Q;rw[e];exact HNb.o z hz));obtain⟨hb',E⟩:=DK 600 _ _ _ A.ok hwA (by rw[A.hold _ (by omega),(HI.o.sub _ (AD Z) _ .self).2];exact hw2.2);have HE:=AA E;have HRt:Hid (∀y∈CI false s (ws.take j),y<(Ap false s (ws.take j)).N):=λy Q=>(A.root y Q).2.1;have HnN:Hid (n<=(Ap false s (ws.take j)).N):=AH hle hAle;have hnl:(i:Int)<(xs.length:Int)-1:=by
     have:=Y.o;have:¬(i+1=xs.length):=of_decide_eq_false this.symm;omega
    obtain⟨x,hx⟩:∃x,x=ws[j]:=⟨_,rfl⟩;rw[<-hx]at g1 HCp HE M;obtain⟨G,hst⟩:∃G,G=Ap false s (ws.take j):=⟨_,rfl⟩;rw[<-hst]at HCp HE M ee HAp3 HRt HnN et;obtain⟨L,hL⟩:∃L,L=CI false s (ws.take j):=⟨_,rfl⟩;rw[<-hL]at et B HOw HRt;clear hc d K hapt hwm hw2 A E hbN hAle hwA hx hst hL Y HWm;go_wp2_with fail;refine HCp.o.mono ?_;intro e q J;obtain⟨l,rfl,C,ho4,ha4⟩:=ee.o.copied HnN.o HE.o.lt J HOw.o HRt.o HAp3.o;have H:=AA (Gw C.kno G.N HE.o.lt HE.o.root);have HR4:=AA C;have HA4:=AA ha4;have HZr:Hid (B6 (q.alloc (.cells #[.pointer (some ⟨l G.N,0,none⟩)] 57)) (q.alloc (.cells #[.pointer (some ⟨l G.N,0,none⟩)] 57)).heap.size (some ⟨q.heap.size,0,none⟩) (Ad l [G.N])):=E8 q l G.N _ rfl;have HZo:Hid ((q.alloc (.cells #[.pointer (some ⟨l G.N,0,none⟩)] 57)).ownsRow w.heap.size 57 1 (.slice la j lc) L.length (Ad l L)):=(by rw[B.o];exact ho4.alloc _);have X:AL q.heap.size q (q.alloc (.cells #[.pointer (some ⟨l G.N,0,none⟩)] 57)):=Ac;have HZs:Hid (w.heap.size<=(q.alloc (.cells #[.pointer (some ⟨l G.N,0,none⟩)] 57)).heap.size):=AH C.turn.size X.size;have HGr:Hid (∀w5 v2,(q.alloc (.cells #[.pointer (some ⟨l G.N,0,none⟩)] 57)).grownBy w5 (AO la j lc).ownBlock->(v2.ownBlock=(AO la j lc).ownBlock\/v2.ownBlock=some (q.alloc (.cells #[.pointer (some ⟨l G.N,0,none⟩)] 57)).heap.size)->RS r n g fc V O w (CZ 600 G x) l w5/\GH (CZ 600 G x) l v2 w5):=λw5 v2 hg hat=>(HR4.o.up X).grow (AG _) HZo.o (HA4.o.up (λy Q=>HR4.o.kno.lt Q) X) hg hat;clear J C ho4 ha4 X g1;go_wp2_with fail;refine H.o.mono ?_;rintro e w5 ⟨rfl,rfl⟩;go_wp2_with(at_builtin;refine Az _ rfl (.tmp 86) (.tmp 88) rfl l w.heap.size (.slice la j lc) L rfl HZo.o (some ⟨w5.heap.size,0,none⟩) 1 1 [G.N] rfl rfl HZr.o (by have:=B.o;simp only[Ak,Ar];omega) HZs.o ?_);intro a5 c5 w6 W hg2 ea;obtain⟨k1,k2⟩:=HGr.o w6 (.slice a5 (L.length+1) c5) hg2 (by simpa using ea);have k:w6.ownsRow w.heap.size 57 1 (.slice a5 (L.length+1) c5) (L.length+1) (Ad l (L++[G.N])):=(by simpa using W);rw[B.o]at k2 k;have HK1:=AA k1;have HK2:=AA k2;have HK3:=AA k;clear W hg2 ea k1 k2 k;go_wp2;go_roundw
    .refine⟨j+1,l,a5,c5,by omega,by go_num,by rw[B.o],by rw[M.o];exact HK1.o,by rw[et.o];exact HK3.o,by rw[M.o];exact HK2.o⟩
    simp[Aa];omega
   simp only[if_true]at et M;have T:=GL HI.o.ok (ws.take j);have hwA:ws[j]<(Ap true s (ws.take j)).N:=by rw[T.N];omega
   have H:=AA (Hg T.ok d.kno (AH hfw d.turn.size) ws[j] hwA (λp=>by have:=T.ok.Yu (λi hi=>hi) p;rw[T.N]at this;omega));have hnl:¬((i:Int)<(xs.length:Int)-1):=by
    have:=Y.o;have:i+1=xs.length:=of_decide_eq_true this.symm;omega
   obtain⟨x,hx⟩:∃x,x=ws[j]:=⟨_,rfl⟩;rw[<-hx]at g1 H M et;obtain⟨G,hst⟩:∃G,G=Ap true s (ws.take j):=⟨_,rfl⟩;rw[<-hst]at H M ee HAp3;obtain⟨L,hL⟩:∃L,L=CI true s (ws.take j):=⟨_,rfl⟩;rw[<-hL]at et B HOw;clear hc d K hapt hwm hw2 T hwA hx hst hL Y HWm;go_wp2_with fail;refine H.o.mono ?_;intro e q J;obtain⟨rfl,C,ho4,ha4⟩:=ee.o.cut J HOw.o HAp3.o;have HR4:=AA C;have HA4:=AA ha4;have HZr:Hid (B6 (q.alloc (.cells #[.pointer (some ⟨t x,0,none⟩)] 57)) (q.alloc (.cells #[.pointer (some ⟨t x,0,none⟩)] 57)).heap.size (some ⟨q.heap.size,0,none⟩) (Ad t [x])):=E8 q t x _ rfl;have HZo:Hid ((q.alloc (.cells #[.pointer (some ⟨t x,0,none⟩)] 57)).ownsRow w.heap.size 57 1 (.slice la j lc) L.length (Ad t L)):=by rw[B.o];exact ho4.alloc _
   have X:AL q.heap.size q (q.alloc (.cells #[.pointer (some ⟨t x,0,none⟩)] 57)):=Ac;have HZs:Hid (w.heap.size<=(q.alloc (.cells #[.pointer (some ⟨t x,0,none⟩)] 57)).heap.size):=AH C.turn.size X.size;have HGr:Hid (∀w5 v2,(q.alloc (.cells #[.pointer (some ⟨t x,0,none⟩)] 57)).grownBy w5 (AO la j lc).ownBlock->(v2.ownBlock=(AO la j lc).ownBlock\/v2.ownBlock=some (q.alloc (.cells #[.pointer (some ⟨t x,0,none⟩)] 57)).heap.size)->RS r n g fc V O w (G.cut x) t w5/\GH (G.cut x) t v2 w5):=λw5 v2 hg hat=>(HR4.o.up X).grow (AG _) HZo.o (HA4.o.up (λy Q=>HR4.o.kno.lt Q) X) hg hat;clear J C ho4 ha4 X g1;go_wp2_with(at_builtin;refine Az _ rfl (.tmp 86) (.tmp 88) rfl t w.heap.size (.slice la j lc) L rfl HZo.o (some ⟨q.heap.size,0,none⟩) 1 1 [x] rfl rfl HZr.o (by have:=B.o;simp only[Ak,Ar];omega) HZs.o ?_);intro a5 c5 w6 W hg2 ea;obtain⟨k1,k2⟩:=HGr.o w6 (.slice a5 (L.length+1) c5) hg2 (by simpa using ea);have k:w6.ownsRow w.heap.size 57 1 (.slice a5 (L.length+1) c5) (L.length+1) (Ad t (L++[x])):=by simpa using W
   rw[B.o]at k2 k;have HK1:=AA k1;have HK2:=AA k2;have HK3:=AA k;clear W hg2 ea k1 k2 k;go_wp2;go_roundw
   .refine⟨j+1,t,a5,c5,by omega,by go_num,by rw[B.o],by rw[M.o];exact HK1.o,by rw[et.o];exact HK3.o,by rw[M.o];exact HK2.o⟩
   simp[Aa];omega
  have ej:j=ws.length:=by omega
  rw[ej,AU]at d K;obtain⟨b,o,rfl,hbB,hc⟩:=(HRow1.o _ _ _ d).at_ (by rw[AM];omega);have g1:=hc i (by rw[AM];exact U);have hxm:=HX.o _ (AD U);rw[A5 U,<-d.old _ hxm]at g1;obtain⟨h3,l1,l2,q1,q2,q3,q4,q5,q6,q7,q8⟩:=EM (.inr (.inr (.inr rfl))) HI.o HWn.o HHt.o HX.o (AD U) last;have hNb:(Ap last s ws).N<=81000:=by
   cases last
   .have:=Di HO0.o hn HI.o HHt.o (c:=41200) (by omega) hbd2 ws.length;rw[AU]at this;omega
   have:=(GL HI.o.ok ws).N;omega
  have hkl:=q1.Yu (λi hi=>hi) (CK 3 (Ap last s ws).F xs[i]);have hLlen:=DT last s ws;have HIns:Hid (AX AC 62 #[.pointer (some ⟨V,0,none⟩),.int .i64 5,.pointer (some ⟨t xs[i],0,none⟩),.slice la ws.length lc] W3 (DJ (Ap last s ws).F (λi=>i<(Ap last s ws).N) (Ap last s ws).nd (M1 r) V t (CK 3 (Ap last s ws).F xs[i]) l1.length (CI last s ws) W3)):=by
   have hown':=K;rw[<-hLlen]at hown'|-;exact FT q1 d.kno (AH hfw d.turn.size) 5 xs[i] _ l1 l2 q4.bK q5 q6 q2 (by omega) (CI last s ws) (λy Q=>⟨(q7 y Q).1,(q7 y Q).2.1,(q7 y Q).2.2.1⟩) q8 (by omega) w.heap.size la lc hown' _
  have HEnd:Hid (∀e q,DJ (Ap last s ws).F (λi=>i<(Ap last s ws).N) (Ap last s ws).nd (M1 r) V t (CK 3 (Ap last s ws).F xs[i]) l1.length (CI last s ws) W3 e q->e= .returned (.tuple #[])/\RS r n g fc V O w (Bl 3 ⟨F0,n,f,false⟩ xs ws (i+1)) t q):=λe q J=>by
   obtain⟨z1,z2⟩:=d.ins J;refine⟨z1,?_⟩;rw[HS1.o];rw[q3]at z2;exact z2
  obtain⟨x,hx⟩:∃x,x=xs[i]:=⟨_,rfl⟩;rw[<-hx]at g1 HIns HEnd;subst ej;clear hc d K hapt hxm q1 q2 q3 q4 q5 q6 q7 q8 hNb hkl hLlen hx Y HS1;go_wp2_with fail;refine HIns.o.mono ?_;intro e q J;obtain⟨rfl,C⟩:=HEnd.o e q J;have HR4:=AA C;clear J C g1;go_wp2;go_roundw
  .exact⟨i+1,t,by omega,by go_num,HR4.o⟩
  simp[Aa];omega
 have e:i=xs.length:=by omega
 subst e;have hfin:∃h',(Bl 3 ⟨F0,n,f,false⟩ xs ws xs.length).F.Ok (λi=>i<(Bl 3 ⟨F0,n,f,false⟩ xs ws xs.length).N) h'/\n<=(Bl 3 ⟨F0,n,f,false⟩ xs ws xs.length).N/\(Bl 3 ⟨F0,n,f,false⟩ xs ws xs.length).N<=41200:=by
  obtain⟨x,hx,e⟩:=SS 3 ⟨F0,n,f,false⟩ xs ws HX0.o;have hp:0<xs.length:=Bg.2 HX0.o;obtain⟨h2,I,hb⟩:=HIv.o (xs.length-1) (by omega);obtain⟨h3,k1,k2,-,-⟩:=KL (.inr (.inr (.inr rfl))) I HWn.o HW.o HX.o hx;rw[<-e]at k1 k2;have h9:(xs.length-1)*ws.length<=200*200:=Nat.mul_le_mul (by omega) hwl;exact⟨h3,k1,by rw[k2];exact I.le,by rw[k2];omega⟩
 obtain⟨hF,oF,leF,boF⟩:=hfin;obtain⟨sF,hsF⟩:∃sF,sF=Bl 3 ⟨F0,n,f,false⟩ xs ws xs.length:=⟨_,rfl⟩;rw[<-hsF]at oF leF boF HR2;have HOF:=AA oF;have HSF:=AA hsF;clear oF hsF;go_wp2;go_loopw [14] (λv wr=>∃(i:Nat),i<=xs.length/\v= .int .i64 i/\RS r n g fc V O w {sF with F:=CB sF.F (xs.take i)} kb2 wr) (λv _=>xs.length-(Aa v).toNat)
 .exact⟨0,AY _,rfl,HR2.o⟩
 obtain⟨i,hi,rfl,P⟩:=hrel;by_cases U:i<xs.length
 .obtain⟨b,o,rfl,hbB,hc⟩:=(HRow1.o _ _ _ P).at_ (by rw[AM];omega);have g1:=hc i (by rw[AM];exact U);have hxm:=HX.o _ (AD U);rw[A5 U,<-P.old _ hxm]at g1;have oc:=Hh HOF.o (xs.take i);have H:=AA (Hg oc P.kno (AH hfw P.turn.size) xs[i] (show xs[i]<sF.N by omega) (λp=>by have:=oc.Yu (N:=sF.N) (λi hi=>hi) p;omega));have HTk:Hid (CB sF.F (xs.take (i+1))=(CB sF.F (xs.take i)).cut xs[i]):=by rw[Hid,AF U,Is]
  have HR5:=AA P;obtain⟨y,Q⟩:∃y,y=xs[i]:=⟨_,rfl⟩;rw[<-Q]at g1 H HTk;clear hc Q P oc hxm;go_wp2_with fail;refine H.o.mono ?_;intro e w3 J;obtain⟨rfl,hR6,-,-⟩:=HR5.o.cut J (base:=w.heap.size) (la:=none) (j:=0) (lc:=0) (L:=[]) (Aw _ _ _ _) (λy _ u _=>FO.nil _ _ _);have HR6:Hid (RS r n g fc V O w {sF with F:=CB sF.F (xs.take (i+1))} kb2 w3):=by rw[Hid,HTk.o];exact hR6
  clear J hR6 g1;go_wp2;go_roundw
  .exact⟨i+1,by omega,by go_num,HR6.o⟩
  simp[Aa];omega
 have e:i=xs.length:=by omega
 subst e;rw[AU]at P;have HE:Hid (RS r n g fc V O w (Sv ⟨F0,n,f,false⟩ xs ws) kb2 wr):=by
  rw[Hid];unfold Sv;rw[<-HSF.o];exact P
 have HBe:=AA (HBel.o _ _ _ P);clear P;go_wp2;go_ret;exact⟨true,rfl,λ_=>⟨HNe.o,HA.o,λh=>absurd (by decide) h,λ_=>HP.o,HA5.o,kb2,HE.o⟩,HBe.o⟩
def MD(F:Fo)(S:Nat->Prop)(nd:Nat->Nd)(t:Nat->Int)(B:Nat)(kb:Nat->Nat)(p k x:Nat)(w:AB)(e:Bx)(w':AB):Prop:=
 e= .returned (.tuple #[])/\Ct ((F.cut x).put p k x) S nd t B kb w'/\Al S kb w w'
theorem Mj{t:Fo}{e:AB}(hF:t=F.cut x)(T:Al S O w e)(h:Ct (t.put p k x) S H P B O N/\Al S O e N):MD F S H P B O p k x w (.returned (.tuple #[])) N:=⟨rfl,by rw[<-hF];exact h.1,T.trans h.2⟩
theorem Pf{F0:Fo}(o:F0.Ok S u)(h0:Ct F0 S H P B O w)(et:B<=w.heap.size)(p x:Nat)(z:S p)(j:S x)(hpx:p≠x)(l1 l2:List Nat)(hk0:(F0.cut x).kids p=l1++l2)(ea:∀p,(F0.kids p).length<=90000)(k:Nat)(hkk:k=l1.length):
 AX AC 64 #[.pointer (some ⟨O p,0,none⟩),.int .i64 (k:Nat),.pointer (some ⟨O x,0,none⟩)] w (MD F0 S H P B O p k x w):=by
 subst hkk;have HC:=AA (L3 o h0 et x j (λp=>by have:=ea p;omega));have HBw:=AA et;have hlen1:((F0.cut x).kids p).length<=100000:=by
  have h1:((F0.cut x).kids p).length<=(F0.kids p).length:=List.length_filter_le _ _;have:=ea p;omega
 clear h0 et ea o;go_enter func64,ntmps64;go_wp2_with fail;refine HC.o.mono ?_;rintro e wc ⟨rfl,h,hT0⟩;have HT0:=AA hT0;have et:B<=wc.heap.size:=AH HBw.o hT0.size;obtain⟨F,hFd⟩:∃F,F=F0.cut x:=⟨_,rfl⟩;have hx:F.par x=none:=by rw[hFd];exact AJ rfl
 have hlen:(F.kids p).length<=100000:=by rw[hFd];exact hlen1
 have hk:F.kids p=l1++l2:=by rw[hFd];exact hk0
 rw[<-hFd]at h;have HFd:=AA hFd;clear hT0 hlen1 hk0 hFd;obtain⟨-,-,-,ka,kc,c7,hkc,hown⟩:=h.cells z;rcases hown.2 with⟨e,e2⟩|⟨b,cap,cur,e,hg,hh,hn,hm,hz,u⟩
 .rw[e]at c7;have e3:F.kids p=[]:=Ag e2;rw[hk,List.append_eq_nil_iff]at e3;obtain⟨e1,e2⟩:=e3;clear hown hkc e;have HFn:Hid (∀(s:AB) (N:Option Ai) (c2 n:Nat) (L:List Nat),L=l1++[x]++l2->n=L.length->AL wc.heap.size wc s->s.ownsRow wc.heap.size 57 1 (.slice N n c2) n (Ad O L)->
                                           Ct (F.put p l1.length x) S H P B O ((s.setCell ⟨O p,7,none⟩ (.slice N n c2)).setCell ⟨O x,6,none⟩ (.pointer (some ⟨O p,0,none⟩)))/\Al S O wc ((s.setCell ⟨O p,7,none⟩ (.slice N n c2)).setCell ⟨O x,6,none⟩ (.pointer (some ⟨O p,0,none⟩)))):=by
   intro s N c2 n L hL hn d ho;subst hn;have M:=((h.up d).Ys z (Bf ho et)).Yt j (some p);have e:(F.Ys p L).Yt x (some p)=F.put p l1.length x:=by
    refine Fo.Yv (λq=>rfl) (λq=> ?_);show(if q=p then L else F.kids q)=(if q=p then G6 (F.kids q) l1.length x else F.kids q);by_cases e:q=p
    .rw[AJ e,AJ e,e,hk,Dd,hL];simp
    rw[AI e,AI e]
   rw[e]at M;exact⟨M,((Al.Yq d).set z 7 _).set j 6 _⟩
  have hne:O p≠O x:=λe=>hpx (h.inj p x z j e);have C:=h.lt z;have U:=h.lt j;obtain⟨pf,-⟩:=h.cells z;obtain⟨xf,R,-⟩:=h.cells j;rw[hx]at R;simp only[Au,BF]at R;have a:Hid (∀W,AL wc.heap.size wc W->W.cell? ⟨O p,7,none⟩=some (.slice none 0 0)/\W.frozen? ⟨O p,7,none⟩=false/\W.frozen? ⟨O x,6,none⟩=false/\W.cell? ⟨O x,6,none⟩=some (.pointer none)):=λW d=>⟨(d.cell (p:=⟨O p,_,none⟩) C).trans c7,(Bj (d.block _ C)).trans (pf 7),(Bj (d.block _ U)).trans (xf 6),(d.cell (p:=⟨O x,_,none⟩) U).trans R⟩;have HZ:Hid (∀(s:AB) (v:AS),s.frozen? ⟨O x,6,none⟩=false->s.cell? ⟨O x,6,none⟩=some (.pointer none)->(s.setCell ⟨O p,7,none⟩ v).frozen? ⟨O x,6,none⟩=false/\(s.setCell ⟨O p,7,none⟩ v).cell? ⟨O x,6,none⟩=some (.pointer none)):=λs v h2 h3=>⟨by rw[EK];exact h2,by rw[BN _ _ _ _ (by exact hne)];exact h3⟩;have c:AL wc.heap.size wc (wc.alloc (.cells #[] 57)):=Ac;have HB0:=AA c;have HE:Hid ((wc.alloc (.cells #[] 57)).ownsRow wc.heap.size 57 1 (.slice (some ⟨wc.heap.size,0,none⟩) 0 0) 0 []):=De wc 57 1;have HB1:Hid (∀E,(wc.alloc (.cells #[] 57)).grownBy E (AO (some ⟨wc.heap.size,0,none⟩) 0 0).ownBlock->AL wc.heap.size wc E):=λE hg=>c.grown hg c.size (λk e=>by cases e;exact AG _);have Z:Hid (∀E s,AL wc.heap.size wc E->∀{v:AS} {n:Nat} {L:List AS},E.ownsRow wc.heap.size 57 1 v n L->E.grownBy s v.ownBlock->AL wc.heap.size wc s):=λE s d v n L ho hg=>d.grown hg d.size (λk e=>(ho.lt k e).1);have hc0:=(a.o wc (AW _ _)).1;have hcA:=(a.o _ c).1;subst e1 e2;have HR1:Hid (∀W,AL wc.heap.size wc W->B6 W W.heap.size none (Ad O [])):=λW _=> .inl rfl;have HR2:=HR1;clear h hx hk c pf xf R c7;go_wp2_with(at_builtin;refine Az _ rfl (.tmp 9) (.tmp 15) rfl O wc.heap.size (.slice (some ⟨wc.heap.size,0,none⟩) 0 0) [] rfl HE.o none 0 0 ([]:List Nat) rfl rfl (HR1.o _ HB0.o) (by first|omega|(simp only[Ar]<;>omega)) (by simp) ?_);intro a1 c1 T t V _;try simp only[BY]at t
  try simp only[BY]
  have i:=HB1.o T V;have HO1:=AA t;have Hb1:=AA i;have hs1:=i.size;have I:Hid ((T.alloc (.cells #[.pointer (some ⟨O x,0,none⟩)] 57)).ownsRow wc.heap.size 57 1 (.slice a1 ([]:List Nat).length c1) ([]:List Nat).length (Ad O ([]:List Nat))):=t.alloc _;have HRx:Hid (B6 (T.alloc (.cells #[.pointer (some ⟨O x,0,none⟩)] 57)) (T.alloc (.cells #[.pointer (some ⟨O x,0,none⟩)] 57)).heap.size (some ⟨T.heap.size,0,none⟩) (Ad O [x])):=by
   refine .inr ⟨T.heap.size,0,rfl,by simp,λq D=> ?_⟩;have e0:q=0:=by simp[Ad]at D;omega
   subst e0;rw[BI];rfl
  have A:Hid (AL wc.heap.size wc (T.alloc (.cells #[.pointer (some ⟨O x,0,none⟩)] 57))):=i.alloc i.size _;have ee:=A.o.size;clear V t i;go_wp2_with(at_builtin;refine Az _ rfl (.tmp 17) (.tmp 19) rfl O wc.heap.size (.slice a1 ([]:List Nat).length c1) ([]:List Nat) rfl I.o (some ⟨T.heap.size,0,none⟩) 1 1 [x] rfl rfl HRx.o (by first|omega|(simp only[Ar,Ak]<;>omega)) ee ?_);intro N c2 W2 y G _;have r:=Z.o _ W2 A.o I.o G;obtain⟨X,hX⟩:∃X,X=([]:List Nat)++[x]:=⟨_,rfl⟩;have Q:Hid (X.length=([]:List Nat).length+1):=by rw[hX];exact AN
  have J:Hid (W2.ownsRow wc.heap.size 57 1 (.slice N 1 c2) X.length (Ad O X)):=by rw[Q.o,hX];exact y
  have HX:=AA hX;have K:=AA r;have hs2:=r.size;obtain⟨q7,-⟩:=a.o W2 r;have hXn:X.length<=200000:=by have h9:=Q.o;first|omega|(simp only[Ar]at h9;omega)
  clear G y r hX;go_wp2_with(at_builtin;refine Az _ rfl (.tmp 22) (.tmp 28) rfl O wc.heap.size (.slice N 1 c2) X rfl J.o none 0 0 ([]:List Nat) rfl rfl (HR2.o _ K.o) (by first|omega|(simp only[Ar]<;>omega)) hs2 ?_);intro a3 c3 W3 f Y _;have m:=Z.o W2 W3 K.o J.o Y;obtain⟨r7,f7,f6,R⟩:=a.o W3 m;obtain⟨f6b,x6b⟩:=HZ.o W3 (.slice a3 X.length c3) f6 R;have HO3:=AA f;have Hb3:=AA m;clear Y f m q7;go_wp2_with fail
  go_end0;exact Mj HFd.o HT0.o (HFn.o W3 a3 c3 X.length X (by rw[HX.o];rfl) (by simp) Hb3.o HO3.o)
 injection e with e1 _ e3;subst e1 e3;obtain⟨l,ho0⟩:∃l:Nat,l=0:=⟨_,rfl⟩;have hc:∀q (D:q<(Ad O (F.kids p)).length),wc.cell? ⟨b,l+q,none⟩=some (Ad O (F.kids p))[q]:=λq D=>by
  have:=hown.cells (g:=b) rfl q (Ad O (F.kids p))[q] (AK D);rw[Ba]at this;rw[ho0];exact this
 have hbB:=(AE.1 hh).1;rw[<-ho0]at c7;clear hown hh hn hm hz u hg ho0;by_cases hcap:kc=l1.length
 .have HFn:Hid (∀(s:AB) (N:Option Ai) (c2 n:Nat) (L:List Nat),L=l1++[x]++l2->n=L.length->AL wc.heap.size wc s->s.ownsRow wc.heap.size 57 1 (.slice N n c2) n (Ad O L)->
   Ct (F.put p l1.length x) S H P B O ((s.setCell ⟨O p,7,none⟩ (.slice N n c2)).setCell ⟨O x,6,none⟩ (.pointer (some ⟨O p,0,none⟩)))/\Al S O wc ((s.setCell ⟨O p,7,none⟩ (.slice N n c2)).setCell ⟨O x,6,none⟩ (.pointer (some ⟨O p,0,none⟩)))):=by
   intro s N c2 n L hL hn d ho;subst hn;have M:=((h.up d).Ys z (Bf ho et)).Yt j (some p);have e:(F.Ys p L).Yt x (some p)=F.put p l1.length x:=by
    refine Fo.Yv (λq=>rfl) (λq=> ?_);show(if q=p then L else F.kids q)=(if q=p then G6 (F.kids q) l1.length x else F.kids q);by_cases e:q=p
    .rw[AJ e,AJ e,e,hk,Dd,hL];simp
    rw[AI e,AI e]
   rw[e]at M;exact⟨M,((Al.Yq d).set z 7 _).set j 6 _⟩
  have hne:O p≠O x:=λe=>hpx (h.inj p x z j e);have C:=h.lt z;have U:=h.lt j;obtain⟨pf,-⟩:=h.cells z;obtain⟨xf,R,-⟩:=h.cells j;rw[hx]at R;simp only[Au,BF]at R;have a:Hid (∀W,AL wc.heap.size wc W->W.cell? ⟨O p,7,none⟩=some (.slice (some ⟨b,l,none⟩) (F.kids p).length kc)/\W.frozen? ⟨O p,7,none⟩=false/\W.frozen? ⟨O x,6,none⟩=false/\W.cell? ⟨O x,6,none⟩=some (.pointer none)):=λW d=>⟨(d.cell (p:=⟨O p,_,none⟩) C).trans c7,(Bj (d.block _ C)).trans (pf 7),(Bj (d.block _ U)).trans (xf 6),(d.cell (p:=⟨O x,_,none⟩) U).trans R⟩;have HZ:Hid (∀(s:AB) (v:AS),s.frozen? ⟨O x,6,none⟩=false->s.cell? ⟨O x,6,none⟩=some (.pointer none)->(s.setCell ⟨O p,7,none⟩ v).frozen? ⟨O x,6,none⟩=false/\(s.setCell ⟨O p,7,none⟩ v).cell? ⟨O x,6,none⟩=some (.pointer none)):=λs v h2 h3=>⟨by rw[EK];exact h2,by rw[BN _ _ _ _ (by exact hne)];exact h3⟩;have c:AL wc.heap.size wc (wc.alloc (.cells #[] 57)):=Ac;have HB0:=AA c;have HE:Hid ((wc.alloc (.cells #[] 57)).ownsRow wc.heap.size 57 1 (.slice (some ⟨wc.heap.size,0,none⟩) 0 0) 0 []):=De wc 57 1;have HB1:Hid (∀E,(wc.alloc (.cells #[] 57)).grownBy E (AO (some ⟨wc.heap.size,0,none⟩) 0 0).ownBlock->AL wc.heap.size wc E):=λE hg=>c.grown hg c.size (λk e=>by cases e;exact AG _);have Z:Hid (∀E s,AL wc.heap.size wc E->∀{v:AS} {n:Nat} {L:List AS},E.ownsRow wc.heap.size 57 1 v n L->E.grownBy s v.ownBlock->AL wc.heap.size wc s):=λE s d v n L ho hg=>d.grown hg d.size (λk e=>(ho.lt k e).1);have hc0:=(a.o wc (AW _ _)).1;have hcA:=(a.o _ c).1;have hkl:(F.kids p).length=l1.length+l2.length:=by rw[hk,AN]
  have hl20:l2=[]:=Ag (by omega);have HR1:Hid (∀W,AL wc.heap.size wc W->B6 W W.heap.size (some ⟨b,l,none⟩) (Ad O l1)):=by
   intro W d;rcases BJ l1.length with h0|h0
   .rw[Ag h0];exact .inl rfl
   refine .inr ⟨b,l,rfl,by have:=d.size;omega,λq D=> ?_⟩;rw[AM]at D;rw[d.cell (p:=⟨b,_,none⟩) hbB,hc q (by rw[AM];omega),A5 D,A5 (by omega)];simp only[hk];rw[Cs D]
  have HR2:Hid (∀W,AL wc.heap.size wc W->B6 W W.heap.size (some ⟨b,l,none⟩) (Ad O l2)):=λW _=>by rw[hl20];exact .inl rfl
  have HL2:Hid (0=l2.length):=by rw[hl20];rfl
  have hL3:l1.length+l2.length<=100000:=by omega
  subst hcap;have hA2:l1.length<=(F.kids p).length:=by omega
  have hA3:(0:Int)<=(l1.length:Int):=by omega
  have hA5:(l1.length:Int)<=((F.kids p).length:Int):=by omega
  clear h hx hk c pf xf R c7 hc hkl hl20;go_wp2_with(at_builtin;refine Az _ rfl (.tmp 9) (.tmp 15) rfl O wc.heap.size (.slice (some ⟨wc.heap.size,0,none⟩) 0 0) [] rfl HE.o (some ⟨b,l,none⟩) l1.length l1.length l1 rfl rfl (HR1.o _ HB0.o) (by first|omega|(simp only[Ar]<;>omega)) (by simp) ?_);intro a1 c1 T t V _;try simp only[BY]at t
  try simp only[BY]
  have i:=HB1.o T V;have HO1:=AA t;have Hb1:=AA i;have hs1:=i.size;have I:Hid ((T.alloc (.cells #[.pointer (some ⟨O x,0,none⟩)] 57)).ownsRow wc.heap.size 57 1 (.slice a1 l1.length c1) l1.length (Ad O l1)):=t.alloc _;have HRx:Hid (B6 (T.alloc (.cells #[.pointer (some ⟨O x,0,none⟩)] 57)) (T.alloc (.cells #[.pointer (some ⟨O x,0,none⟩)] 57)).heap.size (some ⟨T.heap.size,0,none⟩) (Ad O [x])):=by
   refine .inr ⟨T.heap.size,0,rfl,by simp,λq D=> ?_⟩;have e0:q=0:=by simp[Ad]at D;omega
   subst e0;rw[BI];rfl
  have A:Hid (AL wc.heap.size wc (T.alloc (.cells #[.pointer (some ⟨O x,0,none⟩)] 57))):=i.alloc i.size _;have ee:=A.o.size;clear V t i;go_wp2_with(at_builtin;refine Az _ rfl (.tmp 17) (.tmp 19) rfl O wc.heap.size (.slice a1 l1.length c1) l1 rfl I.o (some ⟨T.heap.size,0,none⟩) 1 1 [x] rfl rfl HRx.o (by first|omega|(simp only[Ar,Ak]<;>omega)) ee ?_);intro N c2 W2 y G _;have r:=Z.o _ W2 A.o I.o G;obtain⟨X,hX⟩:∃X,X=l1++[x]:=⟨_,rfl⟩;have Q:Hid (X.length=l1.length+1):=by rw[hX];exact AN
  have J:Hid (W2.ownsRow wc.heap.size 57 1 (.slice N (l1.length+1) c2) X.length (Ad O X)):=by rw[Q.o,hX];exact y
  have HX:=AA hX;have K:=AA r;have hs2:=r.size;obtain⟨q7,-⟩:=a.o W2 r;have hXn:X.length<=200000:=by have h9:=Q.o;first|omega|(simp only[Ar]at h9;omega)
  clear G y r hX;go_wp2_with(at_builtin;refine Az _ rfl (.tmp 22) (.tmp 28) rfl O wc.heap.size (.slice N (l1.length+1) c2) X rfl J.o (some ⟨b,l,none⟩) 0 0 l2 HL2.o rfl (HR2.o _ K.o) (by first|omega|(simp only[Ar]<;>omega)) hs2 ?_);intro a3 c3 W3 f Y _;have m:=Z.o W2 W3 K.o J.o Y;obtain⟨r7,f7,f6,R⟩:=a.o W3 m;obtain⟨f6b,x6b⟩:=HZ.o W3 (.slice a3 (X.length+l2.length) c3) f6 R;have HO3:=AA f;have Hb3:=AA m;clear Y f m q7;go_wp2_with fail
  go_end0;exact Mj HFd.o HT0.o (HFn.o W3 a3 c3 (X.length+l2.length) (X++l2) (by rw[HX.o]) (by simp) Hb3.o HO3.o)
 have HFn:Hid (∀(s:AB) (N:Option Ai) (c2 n:Nat) (L:List Nat),L=l1++[x]++l2->n=L.length->AL wc.heap.size wc s->s.ownsRow wc.heap.size 57 1 (.slice N n c2) n (Ad O L)->
  Ct (F.put p l1.length x) S H P B O ((s.setCell ⟨O p,7,none⟩ (.slice N n c2)).setCell ⟨O x,6,none⟩ (.pointer (some ⟨O p,0,none⟩)))/\Al S O wc ((s.setCell ⟨O p,7,none⟩ (.slice N n c2)).setCell ⟨O x,6,none⟩ (.pointer (some ⟨O p,0,none⟩)))):=by
  intro s N c2 n L hL hn d ho;subst hn;have M:=((h.up d).Ys z (Bf ho et)).Yt j (some p);have e:(F.Ys p L).Yt x (some p)=F.put p l1.length x:=by
   refine Fo.Yv (λq=>rfl) (λq=> ?_);show(if q=p then L else F.kids q)=(if q=p then G6 (F.kids q) l1.length x else F.kids q);by_cases e:q=p
   .rw[AJ e,AJ e,e,hk,Dd,hL];simp
   rw[AI e,AI e]
  rw[e]at M;exact⟨M,((Al.Yq d).set z 7 _).set j 6 _⟩
 have hne:O p≠O x:=λe=>hpx (h.inj p x z j e);have C:=h.lt z;have U:=h.lt j;obtain⟨pf,-⟩:=h.cells z;obtain⟨xf,R,-⟩:=h.cells j;rw[hx]at R;simp only[Au,BF]at R;have a:Hid (∀W,AL wc.heap.size wc W->W.cell? ⟨O p,7,none⟩=some (.slice (some ⟨b,l,none⟩) (F.kids p).length kc)/\W.frozen? ⟨O p,7,none⟩=false/\W.frozen? ⟨O x,6,none⟩=false/\W.cell? ⟨O x,6,none⟩=some (.pointer none)):=λW d=>⟨(d.cell (p:=⟨O p,_,none⟩) C).trans c7,(Bj (d.block _ C)).trans (pf 7),(Bj (d.block _ U)).trans (xf 6),(d.cell (p:=⟨O x,_,none⟩) U).trans R⟩;have HZ:Hid (∀(s:AB) (v:AS),s.frozen? ⟨O x,6,none⟩=false->s.cell? ⟨O x,6,none⟩=some (.pointer none)->(s.setCell ⟨O p,7,none⟩ v).frozen? ⟨O x,6,none⟩=false/\(s.setCell ⟨O p,7,none⟩ v).cell? ⟨O x,6,none⟩=some (.pointer none)):=λs v h2 h3=>⟨by rw[EK];exact h2,by rw[BN _ _ _ _ (by exact hne)];exact h3⟩;have c:AL wc.heap.size wc (wc.alloc (.cells #[] 57)):=Ac;have HB0:=AA c;have HE:Hid ((wc.alloc (.cells #[] 57)).ownsRow wc.heap.size 57 1 (.slice (some ⟨wc.heap.size,0,none⟩) 0 0) 0 []):=De wc 57 1;have HB1:Hid (∀E,(wc.alloc (.cells #[] 57)).grownBy E (AO (some ⟨wc.heap.size,0,none⟩) 0 0).ownBlock->AL wc.heap.size wc E):=λE hg=>c.grown hg c.size (λk e=>by cases e;exact AG _);have Z:Hid (∀E s,AL wc.heap.size wc E->∀{v:AS} {n:Nat} {L:List AS},E.ownsRow wc.heap.size 57 1 v n L->E.grownBy s v.ownBlock->AL wc.heap.size wc s):=λE s d v n L ho hg=>d.grown hg d.size (λk e=>(ho.lt k e).1);have hc0:=(a.o wc (AW _ _)).1;have hcA:=(a.o _ c).1;have hkl:(F.kids p).length=l1.length+l2.length:=by rw[hk,AN]
 have HR1:Hid (∀W,AL wc.heap.size wc W->B6 W W.heap.size (some ⟨b,l,none⟩) (Ad O l1)):=by
  intro W d;rcases BJ l1.length with h0|h0
  .rw[Ag h0];exact .inl rfl
  refine .inr ⟨b,l,rfl,by have:=d.size;omega,λq D=> ?_⟩;rw[AM]at D;rw[d.cell (p:=⟨b,_,none⟩) hbB,hc q (by rw[AM];omega),A5 D,A5 (by omega)];simp only[hk];rw[Cs D]
 have HR2:Hid (∀W,AL wc.heap.size wc W->B6 W W.heap.size (some ⟨b,l+l1.length,none⟩) (Ad O l2)):=by
  intro W d;rcases BJ l2.length with h0|h0
  .rw[Ag h0];exact .inl rfl
  refine .inr ⟨b,l+l1.length,rfl,by have:=d.size;omega,λq D=> ?_⟩;rw[AM]at D;have e:l+l1.length+q=l+(l1.length+q):=by omega
  rw[e,d.cell (p:=⟨b,_,none⟩) hbB,hc (l1.length+q) (by rw[AM];omega),A5 D,A5 (by omega)];simp only[hk];rw[List.getElem_append_right (by omega)];have e2:l1.length+q-l1.length=q:=by omega
  simp only[e2]
 have HL2:Hid ((F.kids p).length-l1.length=l2.length):=by unfold Hid;omega
 have hL3:l1.length+l2.length<=100000:=by omega
 have hA1:l1.length<=kc:=by omega
 have hA2:l1.length<=(F.kids p).length:=by omega
 have hA3:(0:Int)<=(l1.length:Int):=by omega
 have hA5:(l1.length:Int)<=((F.kids p).length:Int):=by omega
 clear h hx hk c pf xf R c7 hc hkl;go_wp2_with(at_builtin;refine Az _ rfl (.tmp 9) (.tmp 15) rfl O wc.heap.size (.slice (some ⟨wc.heap.size,0,none⟩) 0 0) [] rfl HE.o (some ⟨b,l,none⟩) l1.length kc l1 rfl rfl (HR1.o _ HB0.o) (by first|omega|(simp only[Ar]<;>omega)) (by simp) ?_);intro a1 c1 T t V _;try simp only[BY]at t
 try simp only[BY]
 have i:=HB1.o T V;have HO1:=AA t;have Hb1:=AA i;have hs1:=i.size;have I:Hid ((T.alloc (.cells #[.pointer (some ⟨O x,0,none⟩)] 57)).ownsRow wc.heap.size 57 1 (.slice a1 l1.length c1) l1.length (Ad O l1)):=t.alloc _;have HRx:Hid (B6 (T.alloc (.cells #[.pointer (some ⟨O x,0,none⟩)] 57)) (T.alloc (.cells #[.pointer (some ⟨O x,0,none⟩)] 57)).heap.size (some ⟨T.heap.size,0,none⟩) (Ad O [x])):=by
  refine .inr ⟨T.heap.size,0,rfl,by simp,λq D=> ?_⟩;have e0:q=0:=by simp[Ad]at D;omega
  subst e0;rw[BI];rfl
 have A:Hid (AL wc.heap.size wc (T.alloc (.cells #[.pointer (some ⟨O x,0,none⟩)] 57))):=i.alloc i.size _;have ee:=A.o.size;clear V t i;go_wp2_with(at_builtin;refine Az _ rfl (.tmp 17) (.tmp 19) rfl O wc.heap.size (.slice a1 l1.length c1) l1 rfl I.o (some ⟨T.heap.size,0,none⟩) 1 1 [x] rfl rfl HRx.o (by first|omega|(simp only[Ar,Ak]<;>omega)) ee ?_);intro N c2 W2 y G _;have r:=Z.o _ W2 A.o I.o G;obtain⟨X,hX⟩:∃X,X=l1++[x]:=⟨_,rfl⟩;have Q:Hid (X.length=l1.length+1):=by rw[hX];exact AN
 have J:Hid (W2.ownsRow wc.heap.size 57 1 (.slice N (l1.length+1) c2) X.length (Ad O X)):=by rw[Q.o,hX];exact y
 have HX:=AA hX;have K:=AA r;have hs2:=r.size;obtain⟨q7,-⟩:=a.o W2 r;have hXn:X.length<=200000:=by have h9:=Q.o;first|omega|(simp only[Ar]at h9;omega)
 clear G y r hX;go_wp2_with(at_builtin;refine Az _ rfl (.tmp 22) (.tmp 28) rfl O wc.heap.size (.slice N (l1.length+1) c2) X rfl J.o (some ⟨b,l+l1.length,none⟩) ((F.kids p).length-l1.length) (kc-l1.length) l2 HL2.o rfl (HR2.o _ K.o) (by first|omega|(simp only[Ar]<;>omega)) hs2 ?_);intro a3 c3 W3 f Y _;have m:=Z.o W2 W3 K.o J.o Y;obtain⟨r7,f7,f6,R⟩:=a.o W3 m;obtain⟨f6b,x6b⟩:=HZ.o W3 (.slice a3 (X.length+l2.length) c3) f6 R;have HO3:=AA f;have Hb3:=AA m;clear Y f m q7;go_wp2_with fail
 go_end0;exact Mj HFd.o HT0.o (HFn.o W3 a3 c3 (X.length+l2.length) (X++l2) (by rw[HX.o]) (by simp) Hb3.o HO3.o)
theorem Xb{z:Nat}(u:F.Up x z):F.Up r z->F.Up x r\/F.Up r x:=by
 induction u with
 |self=>intro v;exact .inr v
 | @step z p t i a=>
   intro v;cases v with
   |self=>exact .inl (.step t i)
   |step e o=>rw[t]at e;cases e;exact a o
theorem JG{F2:Fo}{nd nd2:Nat->Nd}(a:∀p c,c∈F.kids p->F.par c=some p):∀(d y:Nat),(∀z,F.Up y z->F2.kids z=F.kids z)->(∀z,F.Up y z->nd2 z=nd z)->II F2 nd2 d y=II F nd d y:=by
 intro d;induction d with
 |zero=>intro y _ _;rfl
 |succ d n=>
  intro y i o;have e:H9 F2 nd2 y=H9 F nd y:=by
   unfold H9;rw[i y .self];refine List.filter_congr λc t=> ?_;unfold Eb;rw[o c (FX (a y c t) .self)]
  cases h:H9 F nd y with
  |nil=>rw[Dz (e.trans h),Dz h]
  |cons c l=>
   have t:c∈F.kids y:=by
    have s:c∈H9 F nd y:=(by rw[h];exact Af);exact(Cd.1 s).1
   cases l with
   |nil=>rw[E6 (e.trans h),E6 h];exact n c (λz u=>i z (FX (a y c t) u)) (λz u=>o z (FX (a y c t) u))
   |cons c2 l=>rw[G0 (e.trans h),G0 h]
theorem PM(o:F.Ok S h)(nd:Nat->Nd):∀(d t y:Nat),h y<=d->h y<=t->II F nd d y=II F nd t y:=by
 intro d;induction d with
 |zero=>
  intro t y i _;have s:H9 F nd y=[]:=List.eq_nil_iff_forall_not_mem.2 λc a=>by
   have:=o.ht _ _ ((o.mem y c).1 (Cd.1 a).1);omega
  rw[Dz s,Dz s]
 |succ d r=>
  intro t y i m;cases e:H9 F nd y with
  |nil=>rw[Dz e,Dz e]
  |cons c l=>
   have a:c∈F.kids y:=by
    have i:c∈H9 F nd y:=(by rw[e];exact Af);exact(Cd.1 i).1
   have u:=o.ht _ _ ((o.mem y c).1 a);obtain⟨n,rfl⟩:∃n,t=n+1:=⟨t-1,by omega⟩;cases l with
   |nil=>rw[E6 e,E6 e];exact r n c (by omega) (by omega)
   |cons c2 l=>rw[G0 e,G0 e]
structure J1(s:bY)(on:List Nat)(w:Nat):Prop where
 lt:∀x∈on,x<s.N
 nodup:on.Nodup
 ne:on≠[]
 wi:w<s.N
 one:II s.F s.nd 600 w≠none
 apart:∀x∈on,¬s.F.Up w x
 par:∀x∈on,s.F.par x≠none
 pair:∀i j (hi:i<on.length) (hj:j<on.length),i≠j->¬s.F.Up on[i] on[j]
def C5(s:bY)(first w:Nat):bY:=Bm 4 false s first [w]
def EU(s:bY)(first w:Nat):Nat:=(II (C5 s first w).F (C5 s first w).nd 600 s.N).getD 0
def GO(s:bY)(on:List Nat)(w:Nat):bY:=Bm 1 true (C5 s (on.headD 0) w) (EU s (on.headD 0) w) on
theorem Od{s0:bY}(l:Df r s0)(a:s0.F.Ok (λi=>i<s0.N) D)(t:∀i,i<s0.N->D i<=600){w:Nat}(P:J1 s0 I w){first:Nat}(h:first∈I):Inv s0.N s0.F D s0.nd 4 I [w] s0 D/\∃d,Inv s0.N s0.F D s0.nd 4 I [w] (C5 s0 first w) d:=by
 have o:w<s0.N:=P.wi;have n:Inv s0.N s0.F D s0.nd 4 I [w] s0 D:=⟨a,AG _,λ_ _ _ _=>⟨rfl,rfl⟩,λv e x hx=>by rw[AP]at e;subst e;exact P.apart x hx,λ_=>P.par,λy s=>⟨y,s,rfl⟩⟩;exact⟨n,PR (.inr (.inr (.inl rfl))) a n (λv e=>by rw[AP]at e;subst e;exact⟨o,t _ o⟩) P.lt h⟩
theorem U'{s0:bY}(c:Df r s0)(t:s0.F.Ok (λi=>i<s0.N) D)(l:∀i,i<s0.N->D i<=600){w:Nat}(P:J1 s0 I w){first:Nat}(d:first∈I)(a:s0.F.par first=some p):∀x∈I,¬s0.F.Up x p:=by
 intro x hx u;obtain⟨i,s,rfl⟩:=An hx;obtain⟨j,n,e⟩:=An d;have u2:s0.F.Up I[i] first:= .step a u;by_cases h:i=j
 .subst h;rw[e]at u;have m:=t.ht _ _ a;rcases u.ht t with o|o
  .subst o;omega
  omega
 rw[<-e]at u2;exact P.pair i j s n h u2
theorem I_{s0:bY}(g:Df r s0)(c:s0.F.Ok (λi=>i<s0.N) D)(s:∀i,i<s0.N->D i<=600){w:Nat}(P:J1 s0 I w){first:Nat}(f:first∈I)(m:s0.F.par first=some p):
 (∀y,y<s0.N->y≠p->(C5 s0 first w).F.kids y=s0.F.kids y)/\(∀y,y<s0.N->(C5 s0 first w).F.par y=s0.F.par y)/\(C5 s0 first w).F.par s0.N=some p/\(∀y q,s0.N<y->(C5 s0 first w).F.par y=some q->s0.N<=q)/\s0.N<(C5 s0 first w).N:=by
 have d:w<s0.N:=P.wi;have h:first<s0.N:=P.lt first f;obtain⟨b,E⟩:=DK 600 s0 D w c d (s _ d);obtain⟨a,u⟩:∃a,a=CZ 600 s0 w:=⟨_,rfl⟩;rw[<-u]at E;have l:CK 4 a.F first=p:=by
  unfold CK;have:a.F.par first=s0.F.par first:=E.par first h;rw[AJ (.inr rfl),this,m];rfl
 have t:C5 s0 first w=a.row p (DE 4 a.F first p) [s0.N]:=by
  rw[u]at l|-;show(Ap false _ [w]).row (CK 4 (Ap false _ [w]).F first) (DE 4 (Ap false _ [w]).F first (CK 4 (Ap false _ [w]).F first)) (CI false _ [w])=_;have e1:Ap false s0 [w]=CZ 600 s0 w:=rfl;rw[e1,l];rfl
 refine⟨λy e n=> ?_,λy e=> ?_,?_,λy q e o=> ?_,by rw[t];exact E.lt⟩
 .rw[t];show(if y=p then _ else a.F.kids y)=_;rw[AI n];exact E.kids y e
 .rw[t];show(if y∈[s0.N]then some p else a.F.par y)=_;rw[AI (by simp;omega)];exact E.par y e
 .rw[t];show(if s0.N∈[s0.N]then some p else a.F.par s0.N)=_;rw[AJ (by simp)]
 rw[t]at o;change (if y∈[s0.N]then some p else a.F.par y)=some q at o;rw[AI (by simp;omega)]at o;exact E.newp y q (Ca e) o
theorem EL(h:I≠[]):I.headD 0∈I:=by
 cases I with
 |nil=>exact absurd rfl h
 |cons a l=>simp
structure Ym(s0:bY)(on:List Nat)(w:Nat)(tq:Nat)(s:bY)(h:Nat->Nat):Prop where
 inn:II s.F s.nd 600 s0.N=some tq
 hr:h s0.N<=600
 hx:∀x∈on,h x<=600
 tn:tq<s.N
 inv:Inv s.N s.F h s.nd 1 [tq] on s h
 nds:∀y,y<s.N->∃z,z<s0.N/\s.nd y=s0.nd z
 le:s.N<=1200
 ge:s0.N<s.N
theorem LF{s0:bY}(K:Df r s0)(o:s0.F.Ok (λi=>i<s0.N) D)(t:∀i,i<s0.N->D i<=600){w:Nat}(P:J1 s0 I w){first:Nat}(X:first∈I)(O:s0.F.par first=some p)(C:(C5 s0 first w).op=false):
 ∃h,Ym s0 I w (EU s0 first w) (C5 s0 first w) h:=by
 have d:w<s0.N:=P.wi;have W:first<s0.N:=P.lt first X;have m:=(o.dom _ _ O).1;obtain⟨q1,q2,q3,q4,q5⟩:=I_ K o t P X O;have Y:=U' K o t P X O;obtain⟨hb,E⟩:=DK 600 s0 D w o d (t _ d);have hM:=V1 600 s0 D w o d (t _ d);have A:=OE 600 s0 D w o d (t _ d);have e2:s0.F.lst 600 w=s0.F.all D w:=s0.F.Yy o _ _ _ (t _ d) (AG _);have e3:=FB o (n:=s0.N) (x:=w) (λi hi=>hi) d;change (CZ 600 s0 w).N<=s0.N+(s0.F.lst 600 w).length at A;rw[e2]at A;have hle:=K.few;obtain⟨a,hA⟩:∃a,a=CZ 600 s0 w:=⟨_,rfl⟩;rw[<-hA]at E hM A;have J:CK 4 a.F first=p:=by
  unfold CK;have:a.F.par first=s0.F.par first:=E.par first W;rw[AJ (.inr rfl),this,O];rfl
 have N:C5 s0 first w=a.row p (DE 4 a.F first p) [s0.N]:=by
  rw[hA]at J|-;show(Ap false _ [w]).row (CK 4 (Ap false _ [w]).F first) (DE 4 (Ap false _ [w]).F first (CK 4 (Ap false _ [w]).F first)) (CI false _ [w])=_;have e1:Ap false s0 [w]=CZ 600 s0 w:=rfl;rw[e1,J];rfl
 have ea:s0.N<a.N:=E.lt;have g:∀{y q:Nat},q<s0.N->(s0.F.Up y q↔a.F.Up y q):=λ{y q} Q=>Dt (s:=s0) (a:=a) o E.par Q;have T:¬a.F.Up s0.N p:=λu=>by
  have:=((g m).2 u).Y4 o m;omega
 have ee:a.F.par first=some p:=(E.par first W).trans O;obtain⟨l1,l3,k1,k2,k3,-⟩:=Fm 4 (.inr (.inr (.inl rfl))) E.ok (x:=first) (λ_=>by rw[ee];simp);rw[J]at k1 k2;obtain⟨B,U,M⟩:=F8 E.ok k1 (show p<a.N by omega) (L:=[s0.N]) (λr hr=>by rw[AP]at hr;subst hr;exact⟨ea,E.root,T⟩) (by simp);rw[k2]at U;have ok2:(C5 s0 first w).F.Ok (λi=>i<(C5 s0 first w).N) B:=by rw[N];exact U
 have G:a.op=false:=by rw[N]at C;exact C
 have en:(C5 s0 first w).N=a.N:=by rw[N];rfl
 have b:(C5 s0 first w).nd=a.nd:=by rw[N];rfl
 have eo:∀z,z≠p->(C5 s0 first w).F.kids z=a.F.kids z:=λz hz=>by rw[N];exact AI hz
 have hx:∀x∈I,B x<=600:=λx hx=>by
  have l:=P.lt x hx;rw[M x (λu=>Y x hx ((g m).2 u)),E.hold x l];exact t _ l
 have hr:B s0.N<=600:=by rw[M _ T,E.hnew];exact t _ d
 have ei:∃z,II (C5 s0 first w).F (C5 s0 first w).nd 600 s0.N=some z:=by
  have g1:(II a.F a.nd 600 w).isSome:=by
   rw[JG (F:=s0.F) (nd:=s0.nd) (λp c=>(o.mem p c).1) 600 w (λz u=>E.kids z (o.Y7 (S:=λi=>i<s0.N) d u)) (λz u=>E.ndo z (o.Y7 (S:=λi=>i<s0.N) d u))];cases h:II s0.F s0.nd 600 w with
   |none=>exact absurd h P.one
   |some z=>rfl
  have g2:=V2 600 s0.N w (hM G) g1;rw[b,JG (F:=a.F) (nd:=a.nd) (λp c=>(E.ok.mem p c).1) 600 s0.N (λz u=>eo z λe=>T (by rw[<-e];exact u)) (λ_ _=>rfl)];exact Option.isSome_iff_exists.1 g2
 obtain⟨V,j⟩:=ei;have es:EU s0 first w=V:=by unfold EU;rw[j];rfl
 rw[es];have R:=OP (λp c=>(ok2.mem p c).1) _ _ _ j;have Z:V<(C5 s0 first w).N:=ok2.Y7 (S:=λi=>i<(C5 s0 first w).N) q5 R;have et:∀x∈I,¬(C5 s0 first w).F.Up x V:=λx hx v=>by
  have l:=P.lt x hx;have f:∀{y q:Nat},q<s0.N->(s0.F.Up y q↔(C5 s0 first w).F.Up y q):=λ{y q} Q=>Dt (s:=s0) (a:=C5 s0 first w) o q2 Q;rcases Xb v R with H|H
  .cases H with
   |self=>omega
   |step h3 h4=>
    rw[q3]at h3;cases h3;exact Y x hx ((f m).2 h4)
  have:=((f l).2 H).Y4 o l;omega
 refine⟨B,j,hr,hx,Z,⟨ok2,AG _,λ_ _ _ _=>⟨rfl,rfl⟩,λx hx y k=> ?_,λe=>absurd e (by decide),λy k=>⟨y,k,rfl⟩⟩,λy k=> ?_,by omega,q5⟩
 .rw[AP]at k;subst k;exact et x hx
 rw[b];rw[en]at k;by_cases e:y<s0.N
 .exact⟨y,e,E.ndo y e⟩
 obtain⟨z,H,h2⟩:=E.newn y (by exact Nat.le_of_not_lt e) k;exact⟨z,H,h2⟩
theorem VA{s0:bY}(c:Df r s0)(n:s0.F.Ok (λi=>i<s0.N) D)(a:∀i,i<s0.N->D i<=600){w:Nat}(P:J1 s0 I w)(e:(C5 s0 (I.headD 0) w).op=false):
 ∃v,(GO s0 I w).F.Ok (λi=>i<(GO s0 I w).N) v/\s0.N<(GO s0 I w).N/\(GO s0 I w).N<=1200/\(∀y,y<(GO s0 I w).N->∃z,z<s0.N/\(GO s0 I w).nd y=s0.nd z)/\(GO s0 I w).op=false:=by
 have o:=EL P.ne;obtain⟨p,m⟩:=Option.ne_none_iff_exists'.1 (P.par _ o);obtain⟨h,T⟩:=LF c n a P o m e;have k:=T.ge;obtain⟨g,l,t,d,s⟩:=KL (.inl rfl) T.inv P.nodup (λx hx=>by have:=P.lt x hx;omega) (λx hx=>by rw[AP]at hx;subst hx;exact T.tn) (AP.2 rfl);refine⟨g,l,?_,?_,λy u=> ?_,s.trans e⟩
 .show _<(Bm 1 true _ _ I).N;rw[t];exact T.ge
 .show(Bm 1 true _ _ I).N<=_;rw[t];exact T.le
 obtain⟨z,b,f⟩:=T.nds y (by rw[<-t];exact u);exact⟨z,b,by rw[<-f];exact congrFun d y⟩
theorem Oe{s0:bY}(s:Df r s0)(o:s0.F.Ok (λi=>i<s0.N) D)(e:∀i,i<s0.N->D i<=600){w:Nat}(t:w<s0.N):(CZ 600 s0 w).N<=1200/\s0.N<(CZ 600 s0 w).N:=by
 obtain⟨l,E⟩:=DK 600 s0 D w o t (e _ t);have a:=OE 600 s0 D w o t (e _ t);have e2:s0.F.lst 600 w=s0.F.all D w:=s0.F.Yy o _ _ _ (e _ t) (AG _);have u:=FB o (n:=s0.N) (x:=w) (λi h=>h) t;change (CZ 600 s0 w).N<=s0.N+(s0.F.lst 600 w).length at a;rw[e2]at a;have d:=s.few;exact⟨by omega,E.lt⟩
theorem VB{s0:bY}(E:Df r s0)(z:s0.F.Ok (λi=>i<s0.N) D)(t:∀i,i<s0.N->D i<=600){w:Nat}(P:J1 s0 I w)(u:x∈I):
 ∃h p l1 e,(CZ 600 s0 w).F.Ok (λi=>i<(CZ 600 s0 w).N) h/\x<(CZ 600 s0 w).N/\s0.N<(CZ 600 s0 w).N/\(CZ 600 s0 w).F.par s0.N=none/\p<(CZ 600 s0 w).N/\p≠s0.N/\
  (CZ 600 s0 w).F.kids p=l1++x::e/\(CZ 600 s0 w).F.par x=some p/\{CZ 600 s0 w with F:=(CZ 600 s0 w).F.put p l1.length s0.N}=C5 s0 x w:=by
 have s:w<s0.N:=P.wi;obtain⟨-,T,p,l1,l2,q,k,b,g,y,f,m,N,A,o⟩:=JO (.inr rfl) (Od E z t P u).1 (by simp) (λv d=>by rw[AP]at d;subst d;exact⟨s,t _ s⟩) P.lt u false (j:=0) (by simp);obtain⟨c,n⟩:=A rfl;have O:Bc 4 false s0 x ([w].take 0)=s0:=Hr 4 false _ x;rw[O]at q k b g y f m c o;obtain⟨e,rfl⟩:∃e,l2=x::e:=by
  cases l2 with
  |nil=>simp at n
  |cons a l=>simp at n;subst n;exact⟨l,rfl⟩
 exact⟨T,p,l1,e,q,k,b,g,y,f,m,c,o⟩
theorem Wf{s0:bY}(n:Df r s0)(o:s0.F.Ok (λi=>i<s0.N) D)(u:∀i,i<s0.N->D i<=600){w:Nat}(P:J1 s0 I w)(E:(C5 s0 (I.headD 0) w).op=false){j:Nat}(H:j<I.length):
 (∃h,(Bc 1 true (C5 s0 (I.headD 0) w) (EU s0 (I.headD 0) w) (I.take j)).F.Ok (λi=>i<(Bc 1 true (C5 s0 (I.headD 0) w) (EU s0 (I.headD 0) w) (I.take j)).N) h)/\
 (Bc 1 true (C5 s0 (I.headD 0) w) (EU s0 (I.headD 0) w) (I.take j)).N=(C5 s0 (I.headD 0) w).N/\EU s0 (I.headD 0) w≠I[j]/\
 ((Bc 1 true (C5 s0 (I.headD 0) w) (EU s0 (I.headD 0) w) (I.take j)).F.cut I[j]).kids (EU s0 (I.headD 0) w)=(Bc 1 true (C5 s0 (I.headD 0) w) (EU s0 (I.headD 0) w) (I.take j)).F.kids (EU s0 (I.headD 0) w)/\
 {Bc 1 true (C5 s0 (I.headD 0) w) (EU s0 (I.headD 0) w) (I.take j)with F:=((Bc 1 true (C5 s0 (I.headD 0) w) (EU s0 (I.headD 0) w) (I.take j)).F.cut I[j]).put (EU s0 (I.headD 0) w) ((Bc 1 true (C5 s0 (I.headD 0) w) (EU s0 (I.headD 0) w) (I.take j)).F.kids (EU s0 (I.headD 0) w)).length I[j]}=Bc 1 true (C5 s0 (I.headD 0) w) (EU s0 (I.headD 0) w) (I.take (j+1)):=by
 have d:=EL P.ne;obtain⟨p,S⟩:=Option.ne_none_iff_exists'.1 (P.par _ d);obtain⟨h,T⟩:=LF n o u P d S E;obtain⟨W,b,M,C,U⟩:=I_ n o u P d S;obtain⟨s,n⟩:∃s,s=C5 s0 (I.headD 0) w:=⟨_,rfl⟩;obtain⟨t,z⟩:∃t,t=EU s0 (I.headD 0) w:=⟨_,rfl⟩;rw[<-n,<-z]at T|-;rw[<-n]at W b M C U;have Q:=T.ge;have v:=P.lt _ (AD H);have f:=OP (λp c=>(T.inv.ok.mem p c).1) _ _ _ T.inn;have K:s0.N<=t:=by
  by_cases e:s0.N<=t
  .exact e
  have k:s0.F.Up s0.N t:=(Dt (s:=s0) (a:=s) o b (by exact Nat.lt_of_not_le e)).2 f;have:=k.Y4 o (Nat.lt_of_not_le e);omega
 obtain⟨⟨G,L,-⟩,X,p2,l1,J,g1,g2,g3,g4,g5,g6,R,V,Z,N⟩:=JO (.inl rfl) T.inv P.nodup (λx hx=>⟨by have:=P.lt x hx;omega,T.hx x hx⟩) (λx hx=>by rw[AP]at hx;subst hx;exact T.tn) (AP.2 rfl) true H;obtain⟨rfl,rfl⟩:=V rfl;rw[Ey]at R;have B:(Bc 1 true s p2 (I.take j)).N=s.N:=(GL T.inv.ok (I.take j)).N;have y:(Bc 1 true s p2 (I.take j)).F.par I[j]≠some p2:=by
  have l:I[j]∉I.take j:=λd=>by
   obtain⟨q,Y,e⟩:=An d;rw[F_]at e;have:=(C0 P.nodup).1 e;simp only[At]at Y;omega
  show(if I[j]∈I.take j then some _ else(Ap true s (I.take j)).F.par I[j])≠_;rw[AI l,(GL T.inv.ok (I.take j)).par,AI l,b _ v];intro e;have:=(o.dom _ _ e).1;omega
 have A:I[j]∉(Bc 1 true s p2 (I.take j)).F.kids p2:=λg=>y ((L.mem _ _).1 g);have m:((Bc 1 true s p2 (I.take j)).F.cut I[j]).kids p2=(Bc 1 true s p2 (I.take j)).F.kids p2:=CD A;have O:l1=(Bc 1 true s p2 (I.take j)).F.kids p2:=by rw[<-m];exact R.symm
 refine⟨⟨G,L⟩,B,λe=>by omega,m,?_⟩;rw[<-N,O];rfl
theorem Df.wg(t:Df r s){w:Nat}(P:J1 s I w)(a:(C5 s (I.headD 0) w).op=false):Df r (GO s I w)/\(∀y,y<s.N->(GO s I w).nd y=s.nd y)/\(∀y,y<(GO s I w).N->∃z,z<s.N/\(GO s I w).nd y=s.nd z)/\s.N<(GO s I w).N:=by
 obtain⟨f,o,n⟩:=t.ZP;have c:=EL P.ne;obtain⟨p,k⟩:=Option.ne_none_iff_exists'.1 (P.par _ c);obtain⟨g,l,d,v,h,k5⟩:=VA t o n P a;have m:(GO s I w).N<=600:=by
  have e:(GO s I w).N=(C5 s (I.headD 0) w).N:=by
   show(Ap true (C5 s (I.headD 0) w) I).N=_;have key:∀(ws:List Nat) (s:bY),(Ap true s ws).N=s.N:=by
    intro ws;induction ws with
    |nil=>intro s;rfl
    |cons w ws i=>intro s;exact i (s.cut w)
   exact key I _
  rw[e];exact(Hk [w] false s t.few a).2
 have b:=t.le;refine⟨⟨⟨g,l⟩,by omega,m,t.r2,k5⟩,λy u=> ?_,h,d⟩;have e1:(GO s I w).nd=(C5 s (I.headD 0) w).nd:=by
  show(Ap true (C5 s (I.headD 0) w) I).nd=_;have key:∀(ws:List Nat) (s:bY),(Ap true s ws).nd=s.nd:=by
   intro ws;induction ws with
   |nil=>intro s;rfl
   |cons w ws i=>intro s;exact i (s.cut w)
  exact key I _
 rw[e1];obtain⟨q,E⟩:=DK 600 s f w o P.wi (n _ P.wi);exact E.ndo y u
theorem Mx(N:Df r s){w:Nat}(P:J1 s I w)(d:∀x∈I,s.F.par x=some p)(R:(C5 s (I.headD 0) w).op=false):
 (∀y,y<s.N->y≠p->(GO s I w).F.kids y=s.F.kids y)/\(∀a y,a<s.N->y<s.N->((GO s I w).F.Up a y↔s.F.Up a y))/\(∀y,y<s.N->s.F.par y≠none->(GO s I w).F.par y≠none):=by
 obtain⟨Q,o,L⟩:=N.ZP;have i:=EL P.ne;have S:=d _ i;obtain⟨D,k,O,A,F⟩:=I_ N o L P i S;obtain⟨h,T⟩:=LF N o L P i S R;obtain⟨s1,M⟩:∃s1,s1=C5 s (I.headD 0) w:=⟨_,rfl⟩;obtain⟨n,E⟩:∃n,n=EU s (I.headD 0) w:=⟨_,rfl⟩;have C:GO s I w=Bm 1 true s1 n I:=by rw[M,E];rfl
 rw[<-M]at D k O A F T;rw[<-E]at T;have B:p<s.N:=(o.dom _ _ S).1;have f:=OP (λp c=>(T.inv.ok.mem p c).1) _ _ _ T.inn;have g:s.N<=n:=by
  by_cases e:s.N<=n
  .exact e
  have H:s.F.Up s.N n:=(Dt (s:=s) (a:=s1) o k (by exact Nat.lt_of_not_le e)).2 f;have:=H.Y4 o (Nat.lt_of_not_le e);omega
 have U:=GL T.inv.ok I;have V:CK 1 (Ap true s1 I).F n=n:=rfl;have t:∀y,(GO s I w).F.par y=if y∈I then some n else s1.F.par y:=λy=>by
  rw[C];show(if y∈I then some n else(Ap true s1 I).F.par y)=_;by_cases e:y∈I
  .rw[AJ e,AJ e]
  rw[AI e,AI e,U.par,AI e]
 have b:∀y,y≠n->(GO s I w).F.kids y=(s1.F.kids y).filter λc=> !decide (c∈I):=λy m=>by
  rw[C];show(if y=n then _ else(Ap true s1 I).F.kids y)=_;rw[AI m,U.kids]
 have hnew:∀z,s.N<=z->z∉I:=λz v i=>by have:=P.lt z i;omega
 refine⟨λy m j=> ?_,λa y K m=>⟨λu=> ?_,λu=> ?_⟩,λy m W=> ?_⟩
 .rw[b y (by omega),D y m j];refine List.filter_eq_self.2 λc Y=> ?_;have:c∉I:=λi=>by
   have e1:=(o.mem y c).1 Y;rw[d c i]at e1;exact j (Cw e1).symm
  simp[this]
 .have key:∀z,(GO s I w).F.Up a z->(z<s.N->s.F.Up a z)/\(s.N<=z->s.F.Up a p):=by
   intro z u;induction u with
   |self=>exact⟨λ_=> .self,λh=>by omega⟩
   | @step z q e u l=>
     rw[t]at e;constructor
     .intro v;by_cases i:z∈I
      .rw[AJ i]at e;have:n=q:=Cw e;exact .step (d z i) (l.2 (by rw[<-this];exact g))
      rw[AI i,k z v]at e;exact .step e (l.1 (o.dom _ _ e).1)
     intro v;rw[AI (hnew z v)]at e;by_cases e2:z=s.N
     .rw[e2,O]at e;have:p=q:=Cw e;rw[this];exact l.1 (by omega)
     exact l.2 (A z q (by omega) e)
  exact(key y u).1 m
 .have up2:∀z,s1.F.Up s.N z->s.N<=z->(GO s I w).F.Up s.N z:=by
   intro z u;induction u with
   |self=>exact λ_=> .self
   | @step z q e u l=>
     intro v;by_cases e2:z=s.N
     .rw[e2];exact .self
     exact .step (by rw[t,AI (hnew z v)];exact e) (l (A z q (by omega) e))
  have hr:(GO s I w).F.par s.N=some p:=by rw[t,AI (hnew _ (AG _)),O]
  induction u with
  |self=>exact .self
  | @step z q e u l=>
    have l:=l (o.dom _ _ e).1;by_cases i:z∈I
    .have G:q=p:=by rw[d z i]at e;exact(Cw e).symm
     rw[G]at l;have u1:(GO s I w).F.Up a s.N:= .step hr l;exact .step (by rw[t,AJ i]) (u1.tr (up2 n f g))
    exact .step (by rw[t,AI i,k z m];exact e) l
 rw[t];split
 .simp
 rw[k y m];exact W
theorem Wa(h:Df r s){w:Nat}(P:J1 s I w)(t:∀x∈I,s.F.par x=some p)(n:(C5 s (I.headD 0) w).op=false):II (GO s I w).F (GO s I w).nd 600 w≠none:=by
 obtain⟨y,o,f⟩:=h.ZP;obtain⟨-,d,-,-⟩:=h.wg P n;obtain⟨m,-,-⟩:=Mx h P t n;have a:∀z,s.F.Up w z->z<s.N:=λz u=>o.Y7 (S:=λi=>i<s.N) P.wi u;rw[JG (F:=s.F) (nd:=s.nd) (λp c=>(o.mem p c).1) 600 w (λz u=>m z (a z u) λe=> ?_) (λz u=>d z (a z u))]
 .exact P.one
 have l:=EL P.ne;exact P.apart _ l (.step (t _ l) (by rw[<-e];exact u))
theorem Wb(e:Df r s){w:Nat}(P:J1 s I w):∀y,y<s.N->y∉I->(GO s I w).F.par y=s.F.par y:=by
 intro y h a;obtain⟨k,o,i⟩:=e.ZP;have t:=EL P.ne;obtain⟨p,d⟩:=Option.ne_none_iff_exists'.1 (P.par _ t);obtain⟨b,n,g,f,m⟩:=I_ e o i P t d;obtain⟨c,v,u⟩:=Od e o i P t;have l:=GL u.ok I;show(if y∈I then some _ else(Ap true (C5 s (I.headD 0) w) I).F.par y)=_;rw[AI a,l.par,AI a,n y h]
inductive EX:bY->Nat->List (List Nat)->bY->Prop where
 |nil (s:bY) (w:Nat):EX s w [] s
 |opn {s:bY} {w:Nat} {g:List Nat} {G:List (List Nat)}:J1 s g w->(C5 s (g.headD 0) w).op=true->EX s w (g::G) (C5 s (g.headD 0) w)
 |cons {s s2:bY} {w:Nat} {g:List Nat} {G:List (List Nat)}:J1 s g w->(C5 s (g.headD 0) w).op=false->EX (GO s g w) w G s2->EX s w (g::G) s2
structure O4(s:bY)(w:Nat)(G:List (List Nat)):Prop where
 each:∀g∈G,g≠[]/\g.Nodup/\∀x∈g,x<s.N/\¬s.F.Up w x/\s.F.par x≠none
 one:G≠[]->w<s.N/\II s.F s.nd 600 w≠none
 sib:G.length<=1\/∀g∈G,∃p,∀x∈g,s.F.par x=some p
 dis:G.Pairwise λa b=>∀x∈a,x∉b
theorem O4.q{w:Nat}{g:List Nat}{G:List (List Nat)}(h:O4 s w (g::G))(t:∀i j (l:i<g.length) (d:j<g.length),i≠j->¬s.F.Up g[i] g[j]):J1 s g w:=by
 obtain⟨r,n,e⟩:=h.each g Af;obtain⟨o,a⟩:=h.one (by simp);exact⟨λx hx=>(e x hx).1,n,r,o,a,λx hx=>(e x hx).2.1,λx hx=>(e x hx).2.2,t⟩
theorem O4.next(d:Df r s){w:Nat}{g:List Nat}{G:List (List Nat)}(h:O4 s w (g::G))(P:J1 s g w)(n:(C5 s (g.headD 0) w).op=false):O4 (GO s g w) w G:=by
 rcases h.sib with b|o
 .have e:G=[]:=Ag (by simp only[Ak]at b;omega);subst e;exact⟨λg t=>absurd t List.not_mem_nil,λh=>absurd rfl h,.inl (by simp),List.Pairwise.nil⟩
 obtain⟨p,l⟩:=o g Af;obtain⟨I,m,O⟩:=Mx d P l n;obtain⟨-,-,-,N⟩:=d.wg P n;have c:=List.pairwise_cons.1 h.dis;have i:∀a∈G,∀x∈a,(GO s g w).F.par x=s.F.par x:=λa t x hx=>Wb d P x ((h.each a (Ab _ t)).2.2 x hx).1 (λy=>c.1 a t x y hx);refine⟨λa t=> ?_,λA=>⟨by have:=P.wi;omega,Wa d P l n⟩,.inr λa t=> ?_,c.2⟩
 .obtain⟨T,E,z⟩:=h.each a (Ab _ t);refine⟨T,E,λx hx=> ?_⟩;obtain⟨j,k,v⟩:=z x hx;exact⟨by omega,λu=>k ((m w x P.wi j).1 u),by rw[i a t x hx];exact v⟩
 obtain⟨q,f⟩:=o a (Ab _ t);exact⟨q,λx hx=>by rw[i a t x hx];exact f x hx⟩
theorem O4.all{w:Nat}(e:I≠[])(t:I.Nodup)(hx:∀x∈I,x<s.N)(o:w<s.N)(r:II s.F s.nd 600 w≠none)(n:∀x∈I,¬s.F.Up w x)(i:∀x∈I,s.F.par x≠none):O4 s w [I]:=
 ⟨λg a=>by rw[AP]at a;subst a;exact⟨e,t,λx h=>⟨hx x h,n x h,i x h⟩⟩,λ_=>⟨o,r⟩,.inl (by simp),List.pairwise_singleton _ _⟩
theorem O4.Z2{w:Nat}(n:I.Nodup)(hx:∀x∈I,x<s.N)(u:w<s.N)(o:II s.F s.nd 600 w≠none)(c:∀x∈I,¬s.F.Up w x)(d:∀x∈I,s.F.par x≠none):O4 s w (I.map λx=>[x]):=by
 refine⟨λg i=> ?_,λ_=>⟨u,o⟩,.inr λg i=> ?_,?_⟩
 .obtain⟨y,t,rfl⟩:=BL.1 i;refine⟨by simp,by simp,λx h=> ?_⟩;rw[AP]at h;subst h;exact⟨hx x t,c x t,d x t⟩
 .obtain⟨y,t,rfl⟩:=BL.1 i;obtain⟨p,e⟩:=Option.ne_none_iff_exists'.1 (d y t);exact⟨p,λx h=>by rw[AP]at h;subst h;exact e⟩
 rw[List.pairwise_map];exact n.imp λ{a b} r x o l=>by
  rw[AP]at o l;exact r (o.symm.trans l)
theorem O4.inner(v:Df r s){w:Nat}(l:I.Nodup)(hx:∀x∈I,x<s.N)(f:w<s.N)(n:II s.F s.nd 600 w≠none)(q:∀x∈I,¬s.F.Up w x)(k:∀x∈I,s.F.kids x≠[])(p:∀x∈I,¬s.F.Up x w):O4 s w (I.map s.F.kids):=by
 obtain⟨d,o,-⟩:=v.ZP;refine⟨λg i=> ?_,λ_=>⟨f,n⟩,.inr λg i=> ?_,?_⟩
 .obtain⟨y,t,rfl⟩:=BL.1 i;refine⟨k y t,o.nodup y,λx h=> ?_⟩;have e:=(o.mem y x).1 h;refine⟨(o.dom _ _ e).2,λu=> ?_,by rw[e];simp⟩;cases u with
  |self=>exact p y t (.step e .self)
  |step m j=>rw[e]at m;cases m;exact q y t j
 .obtain⟨y,t,rfl⟩:=BL.1 i;exact⟨y,λx h=>(o.mem y x).1 h⟩
 rw[List.pairwise_map];exact l.imp λ{a b} c x n z=>by
  have e1:=(o.mem a x).1 n;have e2:=(o.mem b x).1 z;rw[e1]at e2;exact c (Cw e2)
theorem EX.fst{s2:bY}{w:Nat}{G:List (List Nat)}(h:EX s w G s2):Df r s->s2.op=false->Df r s2/\(∀y,y<s.N->s2.nd y=s.nd y)/\(∀y,y<s2.N->∃z,z<s.N/\s2.nd y=s.nd z)/\s.N<=s2.N:=by
 induction h with
 |nil s w=>intro a _;exact⟨a,λ_ _=>rfl,λy t=>⟨y,t,rfl⟩,AG _⟩
 |opn P o=>intro _ h;rw[o]at h;cases h
 |cons P o h d=>
  intro a u;obtain⟨b,p,g,k⟩:=a.wg P o;obtain⟨f,m,c,v⟩:=d b u;refine⟨f,λy t=>(m y (by omega)).trans (p y t),λy t=> ?_,by omega⟩;obtain⟨z,l,e⟩:=c y t;obtain⟨n,i,e2⟩:=g z l;exact⟨n,i,e.trans e2⟩
def CF(l:List At2)(k:ByteArray):Option At2:=l.find? λx=>x.key.toList==k.toList
theorem QT{k:ByteArray}(t:i<l.length)(o:∀j (h:j<l.length),j<i->(l[j].key.toList==k.toList)=false)(a:(l[i].key.toList==k.toList)=true):CF l k=some l[i]:=by
 unfold CF;rw[List.find?_eq_some_iff_getElem];refine⟨a,i,t,rfl,λj e=> ?_⟩;simpa using o j (by omega) e
theorem QS{k:ByteArray}(t:∀j (h:j<l.length),j<l.length->(l[j].key.toList==k.toList)=false):CF l k=none:=by
 unfold CF;rw[List.find?_eq_none];intro x hx;obtain⟨j,e,rfl⟩:=An hx;simpa using t j e e
def L_(l:List At2)(k:ByteArray)(w:AB)(e:Bx)(w':AB):Prop:=
 (match CF l k with
  |some x=>e= .returned (.tuple #[.string x.val,.bool true])
  |none=>e= .returned (.tuple #[.string ⟨#[]⟩,.bool false]))/\AL w.heap.size w w'
theorem KB(x:Nd)(k:ByteArray)(w:AB)(hx:JZ w w.heap.size x.aa x.attrs)(O:x.attrs.length<=2147483647):
 AX AC 53 #[.agg #[.int .i64 x.kind,.string x.tag,.string x.text,.slice x.aa x.attrs.length x.ac,.int .i64 x.size],.string k] w (L_ x.attrs k w):=by
 obtain⟨r,tag,text,aa,ac,l,size⟩:=x;dsimp only at hx O|-;have S:=AA hx;clear hx;go_enter func53,ntmps53;go_wp2;go_loopw [6] (λx wr=>∃u q:Nat,u<=l.length/\x= .int .i64 u/\Hid (∀j (h:j<l.length),j<u->(l[j].key.toList==k.toList)=false)/\wr=(w.alloc (.cells #[.int .i64 r,.string tag,.string text,.slice aa l.length ac,.int .i64 size] 41)).drewN q) (λx _=>l.length-(Aa x).toNat)
 .exact⟨0,0,by omega,rfl,(λj _ d=>by omega),rfl⟩
 obtain⟨i,q,L,rfl,n,rfl⟩:=hrel;have a:AL w.heap.size w ((w.alloc (.cells #[.int .i64 r,.string tag,.string text,.slice aa l.length ac,.int .i64 size] 41)).drewN q):=BC ((AW _ _).alloc (AG _) _) _;have N:((w.alloc (.cells #[.int .i64 r,.string tag,.string text,.slice aa l.length ac,.int .i64 size] 41)).drewN q).cell? ⟨w.heap.size,3,none⟩=some (.slice aa l.length ac):=by
  rw[World.cell?_drewN];rw[BI];rfl
 obtain⟨W,m⟩:∃W,W=((w.alloc (.cells #[.int .i64 r,.string tag,.string text,.slice aa l.length ac,.int .i64 size] 41)).drewN q):=⟨_,rfl⟩;rw[<-m]at a N|-;have H:=AA m;have A:=AA a;have s:=S.o.below a;clear m a;by_cases t:i<l.length
 .obtain⟨b,o,rfl,D,z⟩:=s.2.2.resolve_left (λI=>by rw[I]at t;simp at t);obtain⟨T,E⟩:=z i t;rw[Ae,AK t,BE]at T E;clear z s;obtain⟨y,c⟩:∃y,y=l[i]:=⟨_,rfl⟩;rw[<-c]at T E;have f:=AA c;clear c;have e1:IntKind.i64.wrap (i:Int)=(i:Int):=IntWalk.i64_in _ ⟨by omega,by omega⟩;cases v:(y.key.toList==k.toList)
  .have p:=AA v;go_wp2;go_roundw
   .refine⟨i+1,q,by omega,by go_num,(λj d R=> ?_),H.o⟩;by_cases e:j=i
    .subst e;rw[<-f.o];exact p.o
    exact n.o j d (by omega)
   simp[Aa];omega
  have p:=AA v;have g:Hid (CF l k=some y):=by
   have e2:=p.o;rw[f.o]at e2;rw[Hid,f.o];exact QT t n.o e2
  go_wp2_with fail;go_ret2;refine⟨?_,A.o⟩;rw[g.o];try rfl
 have g:Hid (CF l k=none):=QS (λj d _=>n.o j d (by omega));clear s;go_wp2_with fail;go_ret2;refine⟨?_,A.o⟩;rw[g.o];try rfl
theorem Pu{a b:ByteArray}:(a.toList==b.toList)=true↔a.toList=b.toList:=beq_iff_eq
def Bp(l:List At2):Prop:=(l.map λx=>x.key.toList).Nodup
theorem Co(h:Bp l){k:ByteArray}{x:At2}:CF l k=some x↔x∈l/\x.key.toList=k.toList:=by
 unfold CF;induction l with
 |nil=>simp
 |cons y l o=>
  unfold Bp at h;rw[Bz,B4]at h;have o:=o h.2;rw[List.find?_cons];by_cases e:y.key.toList=k.toList
  .rw[Pu.2 e];simp only[Option.some.injEq,BQ];constructor
   .rintro rfl;exact⟨.inl rfl,e⟩
   rintro⟨rfl|hx,t⟩
   .rfl
   exact absurd (BL.2 ⟨x,hx,t.trans e.symm⟩) h.1
  have i:(y.key.toList==k.toList)=false:=by rw[CY];exact e
  rw[i];simp only[BQ];rw[o];constructor
  .rintro⟨a,b⟩;exact⟨.inr a,b⟩
  rintro⟨rfl|hx,t⟩
  .exact absurd t e
  exact⟨hx,t⟩
theorem EZ{k:ByteArray}:CF l k=none↔∀x∈l,x.key.toList≠k.toList:=by
 unfold CF;rw[List.find?_eq_none];constructor
 .intro h x hx e;exact h x hx (Pu.2 e)
 intro h x hx e;exact h x hx (Pu.1 e)
def B8(l:List At2)(k:ByteArray):Nat:=l.findIdx λx=>x.key.toList==k.toList
theorem KH{k:ByteArray}(t:i<l.length)(o:∀j (h:j<l.length),j<i->(l[j].key.toList==k.toList)=false)(a:(l[i].key.toList==k.toList)=true):B8 l k=i:=by
 unfold B8;rw[List.findIdx_eq t];exact⟨a,λj e=>o j (by omega) e⟩
theorem JF{k:ByteArray}(t:∀j (h:j<l.length),(l[j].key.toList==k.toList)=false):B8 l k=l.length:=by
 unfold B8;rw[List.findIdx_eq_length];intro x hx;obtain⟨j,e,rfl⟩:=An hx;exact t j e
theorem KI{k:ByteArray}(h:B8 l k<l.length):l[B8 l k].key.toList=k.toList:=by
 have:=List.findIdx_getElem (w:=h);exact Pu.1 this
theorem IH{k:ByteArray}{x:At2}(hx:x∈l)(e:x.key.toList=k.toList):B8 l k<l.length:=
 List.findIdx_lt_length_of_exists ⟨x,hx,Pu.2 e⟩
def Un(l:List At2):List At2:=match l.getLast? with|none=>[]|some z=>z::l.dropLast
theorem Uo:Un []=[]:=rfl
theorem Nt(l:List At2)(z:At2):Un (l++[z])=z::l:=by
 unfold Un;simp
theorem Sw(l:List At2):(Un l).Perm l:=by
 rcases List.eq_nil_or_concat l with rfl|⟨e,z,rfl⟩
 .exact List.Perm.nil
 rw[List.concat_eq_append,Nt];exact(List.perm_append_singleton z e).symm
def F7(l:List At2)(k:ByteArray):List At2:=if B8 l k<l.length then l.take (B8 l k)++Un (l.drop (B8 l k+1))else l
theorem Mn{k:ByteArray}(h:B8 l k<l.length):(F7 l k).Perm (l.take (B8 l k)++l.drop (B8 l k+1)):=by
 unfold F7;rw[AJ h];exact(List.Perm.refl _).append (Sw _)
theorem WJ{k:ByteArray}(h:B8 l k<l.length):(l.take (B8 l k)++l.drop (B8 l k+1)).Sublist l:=by
 conv=>rhs;rw[<-Av (B8 l k) l]
 exact(List.Sublist.refl _).append (by rw[Ck h];exact List.sublist_cons_self _ _)
theorem Gk{k:ByteArray}(h:Bp l):Bp (F7 l k):=by
 by_cases e:B8 l k<l.length
 .unfold Bp at h|-;exact((Mn e).map _).nodup_iff.2 (h.sublist ((WJ e).map _))
 unfold F7;rw[AI e];exact h
theorem JQ{k:ByteArray}(h:Bp l)(x:At2):x∈F7 l k↔x∈l/\x.key.toList≠k.toList:=by
 by_cases o:B8 l k<l.length
 .have s:=KI o;have t:l=l.take (B8 l k)++l[B8 l k]::l.drop (B8 l k+1):=by
   rw[<-Ck o,Av]
  rw[(Mn o).mem_iff,AV];have i:x∈l↔x∈l.take (B8 l k)\/x=l[B8 l k]\/x∈l.drop (B8 l k+1):=by
   conv=>lhs;rw[t]
   rw[AV,BQ]
  have r:∀y,y∈l.take (B8 l k)\/y∈l.drop (B8 l k+1)->y.key.toList≠k.toList:=by
   intro y a e;unfold Bp at h;rw[t,B3,Bz,BA]at h;obtain⟨_,d,u⟩:=h;rw[B4]at d;rcases a with a|a
   .exact u _ (BL.2 ⟨y,a,rfl⟩) _ (Af) (e.trans s.symm)
   exact d.1 (BL.2 ⟨y,a,e.trans s.symm⟩)
  constructor
  .intro hx;exact⟨i.2 (hx.elim .inl λq=> .inr (.inr q)),r x hx⟩
  rintro⟨hx,n⟩;rcases i.1 hx with q|q|q
  .exact .inl q
  .rw[q]at n;exact absurd s n
  exact .inr q
 unfold F7;rw[AI o];exact⟨λhx=>⟨hx,λe=>o (IH hx e)⟩,λhx=>hx.1⟩
theorem WI{k:ByteArray}:(F7 l k).length=if B8 l k<l.length then l.length-1 else l.length:=by
 by_cases e:B8 l k<l.length
 .rw[(Mn e).length_eq,AJ e,AN,At,DN];omega
 unfold F7;rw[AI e,AI e]
def Cu(l:List At2)(k v:ByteArray):List At2:=if h:B8 l k<l.length then l.set (B8 l k) ⟨l[B8 l k].key,v⟩else l++[⟨k,v⟩]
theorem Sz{k v:ByteArray}(h:B8 l k<l.length):(Cu l k v).map (λx=>x.key.toList)=l.map λx=>x.key.toList:=by
 unfold Cu;rw[dif_pos h,List.map_set];apply List.ext_getElem
 .simp
 intro j a t;rw[List.getElem_set];split
 .rename_i e;subst e;simp
 rfl
theorem DY{k v:ByteArray}(h:Bp l):Bp (Cu l k v):=by
 by_cases t:B8 l k<l.length
 .unfold Bp;rw[Sz t];exact h
 unfold Bp Cu at*;rw[dif_neg t,B3,BA];refine⟨h,by simp,λa i b o=> ?_⟩;simp only[Bz,List.map_nil,AP]at o;subst o;obtain⟨x,hx,rfl⟩:=BL.1 i;exact λe=>t (IH hx e)
theorem Hs{k v:ByteArray}(h:Bp l)(x:At2):x∈Cu l k v↔(x∈l/\x.key.toList≠k.toList)\/(x.key.toList=k.toList/\x.val=v/\x=⟨if h:B8 l k<l.length then l[B8 l k].key else k,v⟩):=by
 by_cases a:B8 l k<l.length
 .have r:=KI a;unfold Cu;rw[dif_pos a,dif_pos a];have t:l=l.take (B8 l k)++l[B8 l k]::l.drop (B8 l k+1):=by
   rw[<-Ck a,Av]
  have n:∀y,y∈l.take (B8 l k)\/y∈l.drop (B8 l k+1)->y.key.toList≠k.toList:=by
   intro y i e;unfold Bp at h;rw[t,B3,Bz,BA]at h;obtain⟨_,d,u⟩:=h;rw[B4]at d;rcases i with i|i
   .exact u _ (BL.2 ⟨y,i,rfl⟩) _ (Af) (e.trans r.symm)
   exact d.1 (BL.2 ⟨y,i,e.trans r.symm⟩)
  have o:x∈l↔x∈l.take (B8 l k)\/x=l[B8 l k]\/x∈l.drop (B8 l k+1):=by
   conv=>lhs;rw[t]
   rw[AV,BQ]
  rw[List.set_eq_take_append_cons_drop,AJ a,AV,BQ];constructor
  .rintro(q|q|q)
   .exact .inl ⟨o.2 (.inl q),n x (.inl q)⟩
   .subst q;exact .inr ⟨r,rfl,rfl⟩
   exact .inl ⟨o.2 (.inr (.inr q)),n x (.inr q)⟩
  rintro(⟨q,s⟩|⟨_,_,q⟩)
  .rcases o.1 q with q|q|q
   .exact .inl q
   .rw[q]at s;exact absurd r s
   exact .inr (.inr q)
  exact .inr (.inl q)
 unfold Cu;rw[dif_neg a,dif_neg a,AV,AP];constructor
 .rintro(q|q)
  .exact .inl ⟨q,λe=>a (IH q e)⟩
  subst q;exact .inr ⟨rfl,rfl,rfl⟩
 rintro(⟨q,_⟩|⟨_,_,q⟩)
 .exact .inl q
 exact .inr q
theorem Ms{k v:ByteArray}:(Cu l k v).length=if B8 l k<l.length then l.length else l.length+1:=by
 unfold Cu;by_cases e:B8 l k<l.length
 .rw[dif_pos e,AJ e,List.length_set]
 rw[dif_neg e,AI e,AN];rfl
theorem Nv{k v:ByteArray}(h:Bp l):∃x,CF (Cu l k v) k=some x/\x.val=v:=by
 have t:(⟨if h:B8 l k<l.length then l[B8 l k].key else k,v⟩:At2)∈Cu l k v:=by
  refine(Hs h _).2 (.inr ⟨?_,rfl,rfl⟩);dsimp only;split
  .rename_i e;exact KI e
  rfl
 refine⟨_,(Co (DY h)).2 ⟨t,?_⟩,rfl⟩;dsimp only;split
 .rename_i e;exact KI e
 rfl
def Ij(l:List At2)(k:ByteArray):List At2:=l.filter λx=>x.key.toList !=k.toList
def MF(l:List At2)(w:AB)(e:Bx)(w':AB):Prop:=∃a c,e= .returned (.slice a l.length c)/\w'.ownsRow w.heap.size 49 2 (.slice a l.length c) l.length (CJ l)/\AL w.heap.size w w'
theorem RI(w:AB)(x:At2)(h:x.key.size<=maxLen/\x.val.size<=maxLen):JZ (w.alloc (.cells #[.string x.key,.string x.val] 49)) (w.alloc (.cells #[.string x.key,.string x.val] 49)).heap.size (some ⟨w.heap.size,0,none⟩) [x]:=by
 refine⟨by simp[maxLen],λy e=>by rw[AP]at e;subst e;exact h,.inr ⟨w.heap.size,0,rfl,by simp,λi t=> ?_⟩⟩;have a:i=0:=by simp at t;omega
 subst a;exact⟨by rw[BI];rfl,by rw[BI];rfl⟩
theorem Px(l:List At2)(k:ByteArray)(aa:Option Ai)(ac:Nat)(w:AB)(hx:JZ w w.heap.size aa l)(J:l.length<=100000):
 AX AC 69 #[.slice aa l.length ac,.string k] w (MF (Ij l k) w):=by
 have D:=AA hx;clear hx;go_enter func69,ntmps69;go_wp2;go_loopw [5,6] (λv x wr=>∃(i:Nat) (a:Option Ai) (c:Nat),i<=l.length/\x= .int .i64 i/\v= .slice a (Ij (l.take i) k).length c/\Hid (wr.ownsRow w.heap.size 49 2 (.slice a (Ij (l.take i) k).length c) (Ij (l.take i) k).length (CJ (Ij (l.take i) k)))/\AL w.heap.size w wr) (λ_ x _=>l.length-(Aa x).toNat)
 .exact⟨0,none,0,by omega,rfl,rfl,Aw _ _ _ _,AW _ _⟩
 obtain⟨i,a,c,X,rfl,rfl,t,f⟩:=hrel;obtain⟨W,rfl⟩:∃W:AB,W=wr:=⟨_,rfl⟩;by_cases n:i<l.length
 .have p:=D.o.below f;obtain⟨b,o,rfl,K,S⟩:=p.2.2.resolve_left (λF=>by rw[F]at n;simp at n);obtain⟨R,H⟩:=S i n;rw[Ae,AK n,BE]at R H;clear S p;obtain⟨y,E⟩:∃y,y=l[i]:=⟨_,rfl⟩;rw[<-E]at R H;have q:Hid (l.take (i+1)=l.take i++[y]):=by rw[Hid,AF n,E]
  have O:Hid (y.key.size<=maxLen/\y.val.size<=maxLen):=by rw[E];exact D.o.2.1 _ (AD n)
  have U:=AA f;clear E f;cases T:(y.key.toList==k.toList)
  .have G:=AA T;have g:Hid (Ij (l.take (i+1)) k=Ij (l.take i) k++[y]):=by
    rw[Hid,q.o];unfold Ij;rw[Ds];simp[bne,T]
   have V:(Ij (l.take i) k).length<=100000:=by
    have M:(Ij (l.take i) k).length<=(l.take i).length:=List.length_filter_le _ _;rw[At]at M;omega
   obtain⟨r,u⟩:∃r,r=W.alloc (.cells #[.string y.key,.string y.val] 49):=⟨_,rfl⟩;have d:AL W.heap.size W r:=by rw[u];exact Ac
   have B:Hid (JZ r r.heap.size (some ⟨W.heap.size,0,none⟩) [y]):=by rw[u];exact RI W y O.o
   have L:Hid (r.ownsRow w.heap.size 49 2 (.slice a (Ij (l.take i) k).length c) (Ij (l.take i) k).length (CJ (Ij (l.take i) k))):=BB t.o λb _ C=>d.block b C;have m:=AA (BT U.o d);have A:w.heap.size<=r.heap.size:=m.o.size;have j:(Ij (l.take i) k).length+[y].length<=1000000:=by simp only[Ak,Ar];omega
   clear d t;subst u;go_wp2_with(at_builtin;refine D5 rfl (.tmp 20) (.tmp 25) rfl w.heap.size (.slice a (Ij (l.take i) k).length c) (Ij (l.take i) k) rfl L.o (some ⟨_,0,none⟩) 1 1 [y] rfl rfl B.o j A ?_);intro Y c5 Q s h z;have N:=AA (m.o.grown h m.o.size (λb e=>(L.o.lt b e).1));have I:=AA s;clear s h z;go_wp2;go_roundw
   .exact⟨i+1,Y,c5,n,by go_num,by rw[g.o,AN];rfl,by rw[Hid,g.o,AN];exact I.o,N.o⟩
   simp[Aa];omega
  have G:=AA T;have g:Hid (Ij (l.take (i+1)) k=Ij (l.take i) k):=by
   rw[Hid,q.o];unfold Ij;rw[Ds];simp[bne,T]
  go_wp2;go_roundw
  .exact⟨i+1,a,c,n,by go_num,by rw[g.o],by rw[g.o];exact t,U.o⟩
  simp[Aa];omega
 have e:i=l.length:=by omega
 subst e;rw[AU]at t|-;have P:Hid (MF (Ij l k) w (.returned (.slice a (Ij l k).length c)) W):=⟨a,c,rfl,t.o,f⟩;clear t f;go_wp2;go_ret;exact P.o
theorem QV(v:ByteArray):∀(l:List At2) (i:Nat) (h:i<l.length),CJ (l.set i ⟨l[i].key,v⟩)=(CJ l).set (i*2+1) (.string v):=by
 intro l;induction l with
 |nil=>intro i h;simp at h
 |cons x l e=>
  intro i h;cases i with
  |zero=>rfl
  |succ i=>
   have t:i<l.length:=by simpa using h
   have e:=e i t;show(Value.string x.key)::(.string x.val)::CJ (l.set i ⟨l[i].key,v⟩)=_;rw[e,show(i+1)*2+1=(i*2+1)+1+1 by omega];rfl
theorem Kg(l:List At2)(k v:ByteArray)(aa:Option Ai)(ac:Nat)(w:AB)(hx:JZ w w.heap.size aa l)(hl:l.length<=100000)(z:k.size<=maxLen/\v.size<=maxLen):
 AX AC 68 #[.slice aa l.length ac,.string k,.string v] w (MF (Cu l k v) w):=by
 have HX:=AA hx;have M:=AA z;clear hx z;obtain⟨q,f⟩:∃q,q=w.alloc (.cells #[] 49):=⟨_,rfl⟩;have t:AL w.heap.size w q:=by rw[f];exact Ac
 have HE:Hid (q.ownsRow w.heap.size 49 2 (.slice (some ⟨w.heap.size,0,none⟩) 0 0) 0 (CJ [])):=by rw[f];exact De w 49 2
 have C:Hid (JZ q q.heap.size aa l):=(HX.o.below t).more t.size;have T:=AA t;have L:=t.size;clear t;go_enter func68,ntmps68;subst f;go_wp2_with(at_builtin;refine D5 rfl (.tmp 9) (.tmp 10) rfl w.heap.size (.slice (some ⟨w.heap.size,0,none⟩) 0 0) [] rfl HE.o aa l.length ac l rfl rfl C.o (by simp only[Ar];omega) L ?_);intro H c5 w5 r u I;have E:=AA (T.o.grown u T.o.size (λb e=>by cases e;exact AG _));have n:=AA r;clear r u I;go_wp2;go_loopw [8] (λx wr=>∃i:Nat,i<=l.length/\x= .int .i64 i/\Hid (∀j (h:j<l.length),j<i->(l[j].key.toList==k.toList)=false)/\wr=w5) (λx _=>l.length-(Aa x).toNat)
 .exact⟨0,by omega,rfl,(λj _ hj=>by omega),rfl⟩
 obtain⟨i,hi,rfl,o,rfl⟩:=hrel;obtain⟨W,rfl⟩:∃W:AB,W=wr:=⟨_,rfl⟩;by_cases a:i<l.length
 .have hI:∃gb,H=some ⟨gb,0,none⟩/\w.heap.size<=gb/\(∃V,W.heap[gb]? =some (.cells V 49 (0,0))):=by
   rcases n.o.2 with⟨e,e2⟩|⟨gb,cp,cur,e,hg,N,_⟩
   .omega
   cases e;exact⟨gb,rfl,hg,_,N⟩
  obtain⟨gb,rfl,U,V,N⟩:=hI;have g1:W.cell? ⟨gb,i*2,none⟩=some (.string l[i].key):=by
   have:=n.o.cells (g:=gb) rfl (i*2) _ (Hj a).1;rw[Ba,By]at this;exact this
  have g2:W.cell? ⟨gb,i*2+1,none⟩=some (.string l[i].val):=by
   have:=n.o.cells (g:=gb) rfl (i*2+1) _ (Hj a).2;rw[Ba,By]at this;exact this
  have f2:=A7 W gb (i*2+1) _ _ N;obtain⟨y,S⟩:∃y,y=l[i]:=⟨_,rfl⟩;have J:=AA S;rw[<-S]at g1 g2;clear S N;cases Y:(y.key.toList==k.toList)
  .have HN:Hid (∀j (h:j<l.length),j<i+1->(l[j].key.toList==k.toList)=false):=λj h hj=>by
    by_cases e:j=i
    .subst e;rw[<-J.o];exact Y
    exact o.o j h (by omega)
   clear o;go_wp2;go_roundw
   .exact⟨i+1,a,by go_num,HN,by trivial⟩
   simp[Aa];omega
  have R:Hid (MF (Cu l k v) w (.returned (.slice (some ⟨gb,0,none⟩) l.length c5)) (W.setCell ⟨gb,i*2+1,none⟩ (.string v))):=by
   have e2:=KH a o.o (by rw[<-J.o];exact Y);have B:Cu l k v=l.set i ⟨l[i].key,v⟩:=by
    unfold Cu;subst e2;rw[dif_pos a]
   have P:(Cu l k v).length=l.length:=by rw[B,List.length_set]
   have G:=JN n.o (i*2+1) (by have:=(List.getElem?_eq_some_iff.1 (Hj a).2).1;exact this) (.string v);rw[<-QV v l i a,<-B,<-P]at G;exact⟨some ⟨gb,0,none⟩,c5,by rw[P],G,E.o.setCell U _⟩
  clear o;go_wp2;go_ret;exact R.o
 have e:i=l.length:=by omega
 subst e;have e2:Cu l k v=l++[⟨k,v⟩]:=by
  unfold Cu;rw[dif_neg];rw[JF (λj h=>o.o j h h)];omega
 obtain⟨c,m⟩:∃c,c=W.alloc (.cells #[.string k,.string v] 49):=⟨_,rfl⟩;have t:AL W.heap.size W c:=by rw[m];exact Ac
 have HA:Hid (JZ c c.heap.size (some ⟨W.heap.size,0,none⟩) [⟨k,v⟩]):=by rw[m];exact RI W ⟨k,v⟩ M.o
 have X:Hid (c.ownsRow w.heap.size 49 2 (.slice H l.length c5) l.length (CJ l)):=BB n.o λb _ h2=>t.block b h2;have p:=AA (BT E.o t);have D:w.heap.size<=c.heap.size:=p.o.size;have A:l.length+[(⟨k,v⟩:At2)].length<=1000000:=by simp only[Ak,Ar];omega
 clear t o;subst m;go_wp2_with(at_builtin;refine D5 rfl (.tmp 31) (.tmp 35) rfl w.heap.size (.slice H l.length c5) l rfl X.o (some ⟨_,0,none⟩) 1 1 [⟨k,v⟩] rfl rfl HA.o A D ?_);intro Q K Z s d O;have F:=AA (p.o.grown d p.o.size (λb e=>(X.o.lt b e).1));have R:Hid (MF (Cu l k v) w (.returned (.slice Q (l.length+1) K)) Z):=by
  rw[e2];exact⟨Q,K,by rw[AN];rfl,by rw[AN];exact s,F.o⟩
 clear s d O e2;go_wp2;go_ret;exact R.o
def OT(nd:Nat->Nd)(x:Nat)(l:List At2):Nat->Nd:=λi=>if i=x then{nd x with attrs:=l}else nd i
def bY.setAt(s:bY)(x:Nat)(l:List At2):bY:={s with nd:=OT s.nd x l}
theorem Ct.setAt(h:Ct F S H P B O w)(r:S p)(m:w.ownsRow B 49 2 (.slice a l.length c) l.length (CJ l)):
 Ct F S (OT H p l) P B O (w.setCell ⟨O p,4,none⟩ (.slice a l.length c)):=by
 refine⟨λi d=> ?_,h.inj⟩;obtain⟨_,_,_,_,_,t,_,_⟩:=h.node p r;obtain⟨f,aa,ac,s,n,u,g,y⟩:=h.node i d;have o1:=BS g (p:=⟨O p,4,none⟩) (Ax g t (by decide)) (.slice a l.length c);have o2:=BS y (p:=⟨O p,4,none⟩) (Ax y t (by decide)) (.slice a l.length c);have b:=BS m (p:=⟨O p,4,none⟩) (Ax m t (by decide)) (.slice a l.length c);by_cases e:i=p
 .subst e;have o:OT H i l i={H i with attrs:=l}:=AJ rfl;rw[o];refine⟨f,a,c,s,n,?_,b,o2⟩;exact Ao w (O i) 4 _ _ _ u
 have o:OT H p l i=H i:=AI e;rw[o];refine⟨f,aa,ac,s,n,?_,o1,o2⟩;rw[A8 _ _ _ _ (λe2=>e (h.inj i p d r e2))];exact u
theorem KS.setAt{i t:Nat}(h:KS r g i t s O w)(o:p<s.N)(n:w.ownsRow t 49 2 (.slice a l.length c) l.length (CJ l)):
 KS r g i t (s.setAt p l) O (w.setCell ⟨O p,4,none⟩ (.slice a l.length c)):=by
 obtain⟨_,_,_,_,_,e,_,_⟩:=h.kno.node p o;refine⟨h.kno.setAt o n,?_,BS h.row (p:=⟨O p,4,none⟩) (Ax h.row e (by decide)) _⟩;rw[A8 _ _ _ _ (CC h.fst e (by decide))];exact h.fst
def Gm(c:UInt8):Bool:=c==32||c==9||c==10||c==13||c==12
def Ie:List UInt8->List UInt8->List (List UInt8)
 |cur,[]=>if cur=[]then[]else[cur]
 |cur,c::l=>if Gm c=true then(if cur=[]then Ie [] l else cur::Ie [] l)else Ie (cur++[c]) l
def BG(l:List UInt8):List (List UInt8):=Ie [] l
theorem IX{e:List UInt8}{c:UInt8}(l:List UInt8)(h:Gm c=true):Ie e (c::l)=(if e=[]then[]else[e])++Ie [] l:=by
 rw[Ie,AJ h];split<;>simp
theorem G_{e:List UInt8}{c:UInt8}(l:List UInt8)(h:Gm c=false):Ie e (c::l)=Ie (e++[c]) l:=by
 rw[Ie,AI (by simp[h])]
theorem WX{c:UInt8}(h:Gm c=true)(b:List UInt8):∀(a e:List UInt8),Ie e (a++c::b)=Ie e a++Ie [] b:=by
 intro a;induction a with
 |nil=>intro e;rw[BY,IX _ h];rfl
 |cons x a t=>
  intro e;rw[List.cons_append];cases hx:Gm x
  .rw[G_ _ hx,G_ _ hx,t]
  rw[IX _ hx,IX _ hx,t,Bw]
theorem DZ{c:UInt8}(h:Gm c=true)(a b:List UInt8):BG (a++c::b)=BG a++BG b:=WX h b a []
theorem Eg{c:UInt8}(h:Gm c=true)(b:List UInt8):BG (c::b)=BG b:=by simpa [BG,Ie]using DZ h [] b
theorem Fr{c:UInt8}(h:Gm c=true)(a:List UInt8):BG (a++[c])=BG a:=by simpa [BG,Ie]using DZ h a []
theorem WZ:∀(l e:List UInt8),(∀c∈l,Gm c=false)->Ie e l=if e++l=[]then[]else[e++l]:=by
 intro l;induction l with
 |nil=>intro e _;rw[Ey];rfl
 |cons x l t=>
  intro e h;rw[G_ _ (h x (by simp)),t _ (λc a=>h c (by simp[a])),Bw];rfl
theorem Er{l:List UInt8}(h:∀c∈l,Gm c=false)(e:l≠[]):BG l=[l]:=by
 unfold BG;rw[WZ _ _ h,BY,AI e]
theorem WY:∀(l e w:List UInt8),(∀c∈e,Gm c=false)->w∈Ie e l->w≠[]/\(∀c∈w,Gm c=false)/\∃a t,e++l=a++w++t/\(a=[]\/∃p c,a=p++[c]/\Gm c=true)/\(t=[]\/∃c p,t=c::p/\Gm c=true):=by
 intro l;induction l with
 |nil=>
  intro e w n hw;rw[Ie]at hw;split at hw
  .simp at hw
  rename_i o;rw[AP]at hw;subst hw;exact⟨o,n,[],[],by simp,.inl rfl,.inl rfl⟩
 |cons x l r=>
  intro e w n hw;cases hx:Gm x
  .rw[G_ _ hx]at hw;have h:=r (e++[x]) w (by intro c i;rw[AV,AP]at i;rcases i with i|rfl;exact n c i;exact hx) hw
   rwa [Bw]at h
  rw[IX _ hx,AV]at hw;rcases hw with hw|hw
  .split at hw
   .simp at hw
   rename_i o;rw[AP]at hw;subst hw;exact⟨o,n,[],x::l,by simp,.inl rfl,.inr ⟨x,l,rfl,hx⟩⟩
  obtain⟨y,f,a,t,d,m,u⟩:=r [] w (by simp) hw;refine⟨y,f,e++x::a,t,?_,?_,u⟩
  .rw[BY]at d;rw[d];simp
  rcases m with rfl|⟨p,c,rfl,s⟩
  .exact .inr ⟨e,x,rfl,hx⟩
  exact .inr ⟨e++x::p,c,by simp,s⟩
theorem LH{l w:List UInt8}(h:w∈BG l):w≠[]/\(∀c∈w,Gm c=false)/\∃t e,l=t++w++e/\(t=[]\/∃p c,t=p++[c]/\Gm c=true)/\(e=[]\/∃c p,e=c::p/\Gm c=true):=
 WY l [] w (by simp) h
theorem TB:∀(l e:List UInt8),(Ie e l).length<=l.length+(if e=[]then 0 else 1):=by
 intro l;induction l with
 |nil=>intro e;rw[Ie];split<;>simp
 |cons x l t=>
  intro e;cases hx:Gm x
  .rw[G_ _ hx];have:=t (e++[x]);rw[AI (by simp)]at this;rw[Ak];split<;>omega
  rw[IX _ hx,AN,Ak];have:=t [];rw[AJ rfl]at this;split<;>simp<;>omega
theorem FI(l:List UInt8):(BG l).length<=l.length:=by
 have:=TB l []
 rwa [AJ rfl]at this
theorem NK{l w:List UInt8}(n:∀c∈l,Gm c=true->c=32)(s:∀c∈w,Gm c=false)(i:w≠[]):
 w∈BG l↔∃A B,32::l++[32]=A++(32::w++[32])++B:=by
 constructor
 .intro h;obtain⟨_,_,a,t,e,y,f⟩:=LH h;have d:∃A,32::a=A++[32]:=by
   rcases y with rfl|⟨p,c,rfl,o⟩
   .exact⟨[],rfl⟩
   have:c=32:=n c (by rw[e];simp) o;exact⟨32::p,by rw[this];simp⟩
  have r:∃B,t++[32]=32::B:=by
   rcases f with rfl|⟨c,p,rfl,o⟩
   .exact⟨[],rfl⟩
   have:c=32:=n c (by rw[e];simp) o;exact⟨p++[32],by rw[this];simp⟩
  obtain⟨A,m⟩:=d;obtain⟨B,u⟩:=r;refine⟨A,B,?_⟩;have:32::l++[32]=(32::a)++w++(t++[32]):=by rw[e];simp
  rw[this,m,u];simp
 rintro⟨A,B,e⟩;have e1:BG (32::l++[32])=BG l:=by
  rw[Fr (by decide),Eg (by decide)]
 have e2:BG (A++(32::w++[32])++B)=BG A++([w]++BG B):=by
  have:A++(32::w++[32])++B=A++32::(w++32::B):=by simp
  rw[this,DZ (by decide),DZ (by decide),Er s i]
 rw[<-e1,e,e2];simp
theorem FP(s sub:List UInt8):Cf s sub=true↔∃A B,s=A++sub++B:=by
 unfold Cf;rw[decide_eq_true_eq];constructor
 .intro h;rcases Lib.index_spec s sub with⟨a,_⟩|⟨i,a,t,e,_⟩
  .omega
  unfold Lib.occAt at e;obtain⟨B,o⟩:=List.isPrefixOf_iff_prefix.1 e;exact⟨s.take i,B,by rw[Bw,o,Av]⟩
 rintro⟨A,B,rfl⟩;rcases Lib.index_spec (A++sub++B) sub with⟨_,t⟩|⟨i,a,_⟩
 .have:=t A.length (by simp);unfold Lib.occAt at this;rw[Bw,List.drop_left]at this;rw[List.isPrefixOf_iff_prefix.2 (List.prefix_append _ _)]at this;cases this
 omega
theorem Tryz.Zj:(Tryz.prog.info? 9).map (λi=>(i.zero,i.size,i.bytes))=some (some (.string ⟨#[]⟩),1,16):=by kernel_rfl
def strs(l:List (List UInt8)):List AS:=l.map λx=>Value.string ⟨x.toArray⟩
theorem Cz(l:List (List UInt8)):(strs l).length=l.length:=by simp[strs]
theorem JU{l:List (List UInt8)}(h:i<l.length):(strs l)[i]'(by rw[Cz];exact h)= .string ⟨l[i].toArray⟩:=by simp[strs]
theorem JV(l:List (List UInt8))(x:List UInt8):strs (l++[x])=strs l++[.string ⟨x.toArray⟩]:=by simp[strs]
theorem KG(s:ByteArray)(a b:Nat):s.extract a b=⟨((s.data.toList.drop a).take (b-a)).toArray⟩:=by
 apply ByteArray.ext;apply Array.ext';rw[Lib.extract_data]
theorem Wi(c:UInt8):Gm c=true↔c.toNat=32\/c.toNat=9\/c.toNat=10\/c.toNat=13\/c.toNat=12:=by
 have e:∀d:UInt8,(c==d)=true↔c.toNat=d.toNat:=λd=>by rw[beq_iff_eq];exact UInt8.toNat_inj.symm
 unfold Gm;simp only[Bool.or_eq_true,e];rw[or_assoc,or_assoc,or_assoc];exact Iff.rfl
theorem OU{e size:Nat}{xs:List AS}(h:w.ownsRow A e size v n xs):∃a c,v= .slice a n c:=by
 rcases h.2 with⟨t,o⟩|⟨g,cap,i,t,_⟩
 .exact⟨none,0,by rw[t,o]⟩
 exact⟨_,cap,t⟩
def EG(l:List (List UInt8))(w:AB)(e:Bx)(w':AB):Prop:=
 ∃a c,e= .returned (.slice a l.length c)/\w'.ownsRow w.heap.size 9 1 (.slice a l.length c) l.length (strs l)/\AL w.heap.size w w'
def Ta(s:ByteArray)(W:AB)(v t x:AS)(wr:AB):Prop:=
 ∃(k f:Nat) (e:List (List UInt8)) (a:Option Ai) (c:Nat),k<=s.size+1/\f<=k/\(k=s.size+1->f=k)/\x= .int .i64 (k:Nat)/\t= .int .i64 (f:Nat)/\v= .slice a e.length c/\
  wr.ownsRow W.heap.size 9 1 (.slice a e.length c) e.length (strs e)/\Hid (BG s.data.toList=e++Ie ((s.data.toList.drop f).take (k-f)) (s.data.toList.drop k))/\e.length<=k/\AL W.heap.size W wr
theorem Pz{l:List UInt8}{f:Nat}{e:List (List UInt8)}{c:UInt8}(a:f<=k)(t:l[k]? =some c)(o:Gm c=false)(h:BG l=e++Ie ((l.drop f).take (k-f)) (l.drop k)):
 BG l=e++Ie ((l.drop f).take (k+1-f)) (l.drop (k+1)):=by
 rw[h,Lib.drop_at t,G_ _ o,Lib.piece_more a t]
theorem LG{l:List UInt8}{f:Nat}{e:List (List UInt8)}(s:f<=k)(o:k<=l.length)(i:∀c,l[k]? =some c->Gm c=true)(h:BG l=e++Ie ((l.drop f).take (k-f)) (l.drop k)):
 BG l=(if f<k then e++[(l.drop f).take (k-f)]else e)++Ie ((l.drop (k+1)).take (k+1-(k+1))) (l.drop (k+1)):=by
 have n:Ie ((l.drop f).take (k-f)) (l.drop k)=(if(l.drop f).take (k-f)=[]then[]else[(l.drop f).take (k-f)])++Ie [] (l.drop (k+1)):=by
  cases a:l[k]? with
  |none=>
   have:l.length<=k:=List.getElem?_eq_none_iff.1 a;rw[List.drop_of_length_le this,List.drop_of_length_le (by omega:l.length<=k+1),Ie,Ie];simp
  |some c=>rw[Lib.drop_at a,IX _ (i c a)]
 rw[h,n,Nat.sub_self,BM];by_cases t:f<k
 .rw[AJ t,AI (Lib.piece_ne t o),Bw]
 obtain rfl:f=k:=by omega
 simp
theorem IY(s:ByteArray)(hs:s.size<=2147483647)(w:AB):AX AC 54 #[.string s] w (EG (BG s.data.toList) w):=by
 obtain⟨i0,N,B,P,G⟩:=D6 Tryz.Zj;have K:s.data.toList.length=s.size:=rfl;have J:=AA K;clear K;go_enter func54,ntmps54;go_wp2;go_loopw [3,4,5] (λv fr x wr=>Ta s w v fr x wr) (λ_ _ x _=>s.size+1-(Aa x).toNat)
 .exact⟨0,0,[],none,0,by omega,by omega,(λh=>by omega),rfl,rfl,rfl,Aw _ _ _ _,(by simp[Hid,BG]),by simp,AW _ _⟩
 obtain⟨k,f,i,a,c,hk,hf,S,rfl,rfl,rfl,I,R,hal,hb⟩:=hrel;have C:=AA hb;have O:=AA I;have H:=AA S;have V:=hb.size;clear hb I S;by_cases hle:k<=s.size
 .have n:=AA (λh=>LG (l:=s.data.toList) hf (by have:=J.o;omega) h R.o);have HX:Hid (s.extract f k=⟨((s.data.toList.drop f).take (k-f)).toArray⟩):=KG s f k;by_cases hlt:k<s.size
  .have p:s.data.toList[k]? =some s[k]:=by
    rw[AK (by have:=J.o;omega)];rfl
   have m:=Wi s[k];cases U:Gm s[k]
   .have r:=AA (Pz hf p U R.o);rw[U]at m;have hn:¬(s[k].toNat=32\/s[k].toNat=9\/s[k].toNat=10\/s[k].toNat=13\/s[k].toNat=12):=λh=>by cases m.2 h
    have T:((s[k].toNat:Int) !=32)=true:=(by rw[bne_iff_ne];omega);have E:((s[k].toNat:Int) !=9)=true:=(by rw[bne_iff_ne];omega);have z:((s[k].toNat:Int) !=10)=true:=(by rw[bne_iff_ne];omega);have j:((s[k].toNat:Int) !=12)=true:=(by rw[bne_iff_ne];omega);have b:((s[k].toNat:Int) !=13)=true:=(by rw[bne_iff_ne];omega);clear R n p U hn m;go_wp2;go_roundw
    .exact⟨k+1,f,i,a,c,by omega,by omega,(λh=>by omega),by go_num,rfl,rfl,O.o,r.o,by omega,C.o⟩
    simp[Aa];omega
   have r:=AA (n.o (λd W=>by rw[p]at W;cases W;exact U));have A:=m.1 U;have Q:=AA r.o;clear R n p U m r;have X:∃T E z j b:Bool,((s[k].toNat:Int) !=32)=T/\((s[k].toNat:Int) !=9)=E/\((s[k].toNat:Int) !=10)=z/\((s[k].toNat:Int) !=12)=j/\((s[k].toNat:Int) !=13)=b/\((T=false/\E=true/\z=true/\j=true/\b=true)\/(T=true/\E=false/\z=true/\j=true/\b=true)\/(T=true/\E=true/\z=false/\j=true/\b=true)\/(T=true/\E=true/\z=true/\j=false/\b=true)\/(T=true/\E=true/\z=true/\j=true/\b=false)):=by
    refine⟨_,_,_,_,_,rfl,rfl,rfl,rfl,rfl,?_⟩;rcases A with A|A|A|A|A<;>rw[A]<;>decide
   clear A;obtain⟨T,E,z,j,b,e1,e2,e3,e4,e5,X⟩:=X;rcases X with⟨rfl,rfl,rfl,rfl,rfl⟩|⟨rfl,rfl,rfl,rfl,rfl⟩|⟨rfl,rfl,rfl,rfl,rfl⟩|⟨rfl,rfl,rfl,rfl,rfl⟩|⟨rfl,rfl,rfl,rfl,rfl⟩;all_goals
    have r:=AA Q.o;clear Q;by_cases g:f<k
    .rw[AJ g]at r;go_wp2_with(at_builtin;refine wpList_append_own _ rfl _ _ 43 rfl w.heap.size 9 i0 (.string ⟨#[]⟩) 1 16 underlying43 N B P G rfl (by decide) _ _ _ rfl (O.o.alloc _) ⟨wr.heap.size,0,none⟩ 1 1 [.string (s.extract f k)] rfl rfl (cell_one_new _ _ _) (by intro u F;simp at F;subst F;rfl) (by unfold maxLen;omega) (by omega) (by simp;omega) ?_);intro v' M t o _;obtain⟨Y,c3,y⟩:=OU t;rw[y]at t|-;have D:AL w.heap.size w M:=(C.o.alloc V _).grown o (by simp;omega) (λq Z=>(O.o.lt q Z).1);have L:Hid (M.ownsRow w.heap.size 9 1 (.slice Y (i.length+1) c3) (i.length+1) (strs (i++[(s.data.toList.drop f).take (k-f)]))):=by
      rw[Hid,JV,<-HX.o];exact t
     clear t o y;go_wp2;go_roundw
     .exact⟨k+1,k+1,_,Y,c3,by omega,by omega,(λh=>by omega),by go_num,by go_num,by rw[AN];rfl,by rw[AN];exact L.o,r.o,by rw[AN];simp;omega,D⟩
     simp[Aa];omega
    rw[AI g]at r;go_wp2;go_roundw
    .exact⟨k+1,k+1,i,a,c,by omega,by omega,(λh=>by omega),by go_num,by go_num,rfl,O.o,r.o,by omega,C.o⟩
    simp[Aa];omega
  have r:=AA (n.o (λd W=>by rw[List.getElem?_eq_none (by have:=J.o;omega)]at W;cases W));clear R n;by_cases g:f<k
  .rw[AJ g]at r;go_wp2_with(at_builtin;refine wpList_append_own _ rfl _ _ 43 rfl w.heap.size 9 i0 (.string ⟨#[]⟩) 1 16 underlying43 N B P G rfl (by decide) _ _ _ rfl (O.o.alloc _) ⟨wr.heap.size,0,none⟩ 1 1 [.string (s.extract f k)] rfl rfl (cell_one_new _ _ _) (by intro u F;simp at F;subst F;rfl) (by unfold maxLen;omega) (by omega) (by simp;omega) ?_);intro v' M t o _;obtain⟨Y,c3,y⟩:=OU t;rw[y]at t|-;have D:AL w.heap.size w M:=(C.o.alloc V _).grown o (by simp;omega) (λq Z=>(O.o.lt q Z).1);have L:Hid (M.ownsRow w.heap.size 9 1 (.slice Y (i.length+1) c3) (i.length+1) (strs (i++[(s.data.toList.drop f).take (k-f)]))):=by
    rw[Hid,JV,<-HX.o];exact t
   clear t o y;go_wp2;go_roundw
   .exact⟨k+1,k+1,_,Y,c3,by omega,by omega,(λh=>by omega),by go_num,by go_num,by rw[AN];rfl,by rw[AN];exact L.o,r.o,by rw[AN];simp;omega,D⟩
   simp[Aa];omega
  rw[AI g]at r;go_wp2;go_roundw
  .exact⟨k+1,k+1,i,a,c,by omega,by omega,(λh=>by omega),by go_num,by go_num,rfl,O.o,r.o,by omega,C.o⟩
  simp[Aa];omega
 have e:k=s.size+1:=by omega
 have e2:i=BG s.data.toList:=by
  have h1:=R.o;have h2:=H.o e;rw[h2,Nat.sub_self,BM,List.drop_of_length_le (by have:=J.o;omega),Ie,AJ rfl,Ey]at h1;exact h1.symm
 clear e R H;go_wp2;go_ret;subst e2;exact⟨a,c,rfl,O.o,C.o⟩
theorem Q7(s:ByteArray):s.toList=s.data.toList:=BU s
theorem IJ(W:List (List UInt8))(g:W.length<=2147483647)(v:ByteArray)(a:Option Ai)(c:Nat)(w:AB)(h:B6 w w.heap.size a (strs W)):
 AX AC 55 #[.slice a W.length c,.string v] w λe w'=>e= .returned (.bool (decide (v.data.toList∈W)))/\w=w':=by
 have p:=AA h;clear h;go_enter func55,ntmps55;go_wp2;go_loopw [5] (λx wr=>∃k:Nat,k<=W.length/\x= .int .i64 k/\Hid (v.data.toList∉W.take k)/\w=wr) (λx _=>W.length-(Aa x).toNat)
 .exact⟨0,AY _,rfl,(by simp[Hid]),rfl⟩
 obtain⟨k,z,rfl,t,rfl⟩:=hrel;by_cases n:k<W.length
 .obtain⟨b,o,rfl,j,f⟩:=p.o.at_ (by rw[Cz];omega);have l:=f k (by rw[Cz];exact n);rw[JU n]at l;have i:W[k]∈W:=AD n;have r:Hid (((⟨W[k].toArray⟩:ByteArray).toList==v.toList)=(W[k]==v.data.toList)):=by
   rw[Hid,Q7,Q7]
  have m:Hid (W.take (k+1)=W.take k++[W[k]]):=AF n;clear f;cases s:(W[k]==v.data.toList)
  .have q:Hid (v.data.toList∉W.take (k+1)):=by
    rw[Hid,m.o,AV,AP];rintro(h|h)
    .exact t.o h
    rw[h]at s;simp at s
   rw[s]at r;have d:=r.o;obtain⟨x,hx⟩:∃x:ByteArray,x=⟨W[k].toArray⟩:=⟨_,rfl⟩;rw[<-hx]at d l;clear t s r hx i;go_wp2;go_roundw
   .exact⟨k+1,by omega,by go_num,q.o,by trivial⟩
   simp[Aa];omega
  have u:Hid (decide (v.data.toList∈W)=true):=by
   rw[beq_iff_eq]at s;rw[Hid,<-s,decide_eq_true_eq];exact i
  rw[s]at r;have d:=r.o;obtain⟨x,hx⟩:∃x:ByteArray,x=⟨W[k].toArray⟩:=⟨_,rfl⟩;rw[<-hx]at d l;clear t s r hx i;go_wp2;go_ret;exact⟨Ib u.o,rfl⟩
 have u:Hid (decide (v.data.toList∈W)=false):=by
  have y:=t.o;rw[BP (by omega)]at y;rw[Hid,decide_eq_false_iff_not];exact y
 clear t;go_wp2;go_ret;exact⟨Ib u.o,rfl⟩
def QJ(x:Nd):Array AS:= #[.int .i64 x.kind,.string x.tag,.string x.text,.slice x.aa x.attrs.length x.ac,.int .i64 x.size]
def Dv(l:List (List UInt8)):List UInt8:=l.flatMap λx=>32::x
def OA(op:Int)(list:List (List UInt8))(h:List UInt8):Bool:=op==14|| !(decide (h∈list))
def PB(op:Int)(e:List (List UInt8))(h:List UInt8):Bool:=op !=15&& !(decide (h∈e))
def IE(op:Int)(val:List UInt8)(list:List (List UInt8)):List (List UInt8):=(BG val).filter (OA op list)++list.filter (PB op (BG val))
def Gr(op:Int)(val:List UInt8)(list:List (List UInt8)):ByteArray:=⟨((Dv (IE op val list)).drop 1).toArray⟩
theorem E'(a b:List (List UInt8)):Dv (a++b)=Dv a++Dv b:=by unfold Dv;simp
theorem FA(p:List UInt8->Bool):∀l:List (List UInt8),(Dv (l.filter p)).length<=(Dv l).length
 |[]=>AG _
 |x::l=>by
  have t:=FA p l;have e:(Dv (x::l)).length=1+x.length+(Dv l).length:=by unfold Dv;simp;omega
  rw[e,CW];split
  .have e2:(Dv (x::l.filter p)).length=1+x.length+(Dv (l.filter p)).length:=by unfold Dv;simp;omega
   omega
  omega
theorem Ka(l:List (List UInt8))(k:Nat):(Dv (l.take k)).length<=(Dv l).length:=by
 conv=>rhs;rw[<-Av k l,E',AN]
 omega
theorem Rn(x:List UInt8)(l:List (List UInt8))(k:Nat)(h:k<l.length):l[k].length<=(Dv l).length:=by
 have e1:l=l.take k++l[k]::l.drop (k+1):=by rw[<-Ck h,Av]
 have e2:Dv (l.take k++l[k]::l.drop (k+1))=Dv (l.take k)++(32::(l[k]++Dv (l.drop (k+1)))):=by rw[E'];rfl
 rw[<-e1]at e2;rw[e2];simp;omega
theorem PC(P:List UInt8)(p:List UInt8->Bool)(L:List (List UInt8))(k:Nat)(h:k<L.length)(X:ByteArray)(t:X.data.toList=P++Dv ((L.take k).filter p)):
 (p L[k]=true->(X++((⟨#[32]⟩:ByteArray)++(⟨L[k].toArray⟩:ByteArray))).data.toList=P++Dv ((L.take (k+1)).filter p))/\(p L[k]=false->X.data.toList=P++Dv ((L.take (k+1)).filter p)):=by
 rw[AF h,Ds];constructor
 .intro e;rw[CW,AJ e,E',<-Bw,<-t];simp[Dv]
 intro e;rw[CW,AI (by rw[e];simp),t];simp
theorem Jk{X:ByteArray}{l:List UInt8}(h:X.data.toList=l):X.size=l.length:=by rw[<-h];rfl
theorem RK{P:List UInt8}{p:List UInt8->Bool}{L:List (List UInt8)}{X:ByteArray}(h:X.data.toList=P++Dv ((L.take k).filter p)):X.size<=P.length+(Dv L).length:=by
 rw[Jk h,AN];have t:=FA p (L.take k);have e:=Ka L k;omega
theorem Us{e:Nat}{xs:List AS}(h:w.ownsRow A e 1 (.slice a n c) n xs):B6 w w.heap.size a xs:=by
 obtain⟨_,_,o,_,t⟩:=B6.own h;cases o
 exact t
theorem Ip{op:Int}(G:op=14\/op=15\/op=16)(val:ByteArray)(hv:val.size<=100000000)(xs:List (List UInt8))(hxl:xs.length<=100000000)(hb1:(Dv (BG val.data.toList)).length<=500000000)(hb2:(Dv xs).length<=500000000)(hwl:(BG val.data.toList).length<=100000000)(a:Option Ai)(c:Nat)(w:AB)(h:B6 w w.heap.size a (strs xs)):
 AX AC 71 #[.int .i64 op,.string val,.slice a xs.length c] w λe w'=>e= .returned (.string (Gr op val.data.toList xs))/\AL w.heap.size w w':=by
 have HS:=AA h;have B:=AA (IY val (by omega) w);have HIs:=AA (λW (hW:AL w.heap.size w W) v=>IJ xs (by omega) v a c W (h.up hW));have HOp:=AA G;clear h G;go_enter func71,ntmps71;go_wp2_with fail;refine B.o.mono ?_;rintro e N ⟨a1,c1,rfl,E,g⟩;obtain⟨r,D⟩:∃r,r=BG val.data.toList:=⟨_,rfl⟩;rw[<-D]at E hb1 hwl|-;have HWd:=AA D;have V:=AA (Us E);have HB:=AA g;have J:=AA (λW (hW:AL N.heap.size N W) v=>IJ r (by omega) v a1 c1 W (V.o.up hW));clear E g B D;go_wp2;go_loopw [8,9] (λsv v wr=>∃(k:Nat) (X:ByteArray),k<=r.length/\v= .int .i64 k/\sv= .string X/\Hid (X.data.toList=[]++Dv ((r.take k).filter (OA op xs)))/\AL N.heap.size N wr) (λ_ v _=>r.length-(Aa v).toNat)
 .exact⟨0,⟨#[]⟩,by omega,rfl,rfl,rfl,AW _ _⟩
 obtain⟨k,X,hk,rfl,rfl,j,g⟩:=hrel;have P:X.size<=1000000000:=by have:=RK j.o;simp at this;omega
 obtain⟨W,rfl⟩:∃W:AB,W=wr:=⟨_,rfl⟩;by_cases t:k<r.length
 .obtain⟨b,o,rfl,-,C⟩:=(V.o.up g).at_ (by simp[strs];omega);have M:=C k (by simpa [strs]using t);simp only[strs,BD]at M;have R:=Rn [] r k t;obtain⟨i,u⟩:=PC _ _ _ k t X j.o;have z:(OA op xs) r[k]=(op==14|| !(decide (r[k]∈xs))):=rfl;rw[z]at i u;obtain⟨y,S⟩:∃y:ByteArray,y=⟨r[k].toArray⟩:=⟨_,rfl⟩;have p:y.data.toList=r[k]:=by rw[S]
  have hys:y.size<=500000000:=by rw[Jk p];omega
  have Q:((⟨#[32]⟩:ByteArray)++y).size<=500000001:=by
   rw[G4];show 1+y.size<=_;omega
  have hzs:(X++((⟨#[32]⟩:ByteArray)++y)).size<=1500000001:=by
   rw[G4];omega
  rw[<-S]at M i;have O:=AA (HIs.o W (BT HB.o g) y);rw[p]at O;obtain⟨d,U⟩:∃d,d=decide (r[k]∈xs):=⟨_,rfl⟩;rw[<-U]at O i u;have n:=AA i;have s:=AA u;have q:=AA g;clear C S p R U j i u z g;by_cases T:op=14
  .have A:(op==14)=true:=by rw[T];rfl
   have x:Hid _:=n.o (by rw[A];rfl);clear T s n;go_wp2;go_roundw
   .exact⟨k+1,_,t,by go_num,rfl,x.o,q.o⟩
   simp[Aa];omega
  have A:(op==14)=false:=by simpa using T
  clear T;cases d
  .have x:Hid _:=n.o (by rw[A];rfl);clear s n;go_wp2_with fail;refine O.o.mono ?_;rintro e Z ⟨rfl,rfl⟩;go_wp2;go_roundw
   .exact⟨k+1,_,t,by go_num,rfl,x.o,q.o⟩
   simp[Aa];omega
  have x:Hid _:=s.o (by rw[A];rfl);clear s n;go_wp2_with fail;refine O.o.mono ?_;rintro e Z ⟨rfl,rfl⟩;go_wp2;go_roundw
  .exact⟨k+1,X,t,by go_num,rfl,x.o,q.o⟩
  simp[Aa];omega
 have ek:k=r.length:=by omega
 subst ek;have f:=j.o;rw[AU]at f;have L:=AA f;clear j f;go_wp2_with fail;obtain⟨F,I⟩:∃F,F=[]++Dv (r.filter (OA op xs)):=⟨_,rfl⟩;have HP0:Hid (X.data.toList=F):=by rw[I];exact L.o
 have hpl:F.length<=500000000:=by rw[I];have:=FA (OA op xs) r;simp;omega
 have HP1:=AA I;have HBz:=AA g;have HSx:Hid (B6 N N.heap.size a (strs xs)):=HS.o.up HB.o;clear L I g;go_loopw [8,10] (λsv v wr=>∃(k:Nat) (X:ByteArray),k<=xs.length/\v= .int .i64 k/\sv= .string X/\Hid (X.data.toList=F++Dv ((xs.take k).filter (PB op r)))/\AL N.heap.size N wr) (λ_ v _=>xs.length-(Aa v).toNat)
 .exact⟨0,X,by omega,rfl,rfl,by simp[Dv,HP0.o,Hid],HBz.o⟩
 obtain⟨k,X,hk,rfl,rfl,j,g⟩:=hrel;have P:X.size<=1000000000:=by have:=RK j.o;omega
 obtain⟨W,rfl⟩:∃W:AB,W=wr:=⟨_,rfl⟩;by_cases t:k<xs.length
 .obtain⟨b,o,rfl,-,C⟩:=(HSx.o.up g).at_ (by simp[strs];omega);have M:=C k (by simpa [strs]using t);simp only[strs,BD]at M;have R:=Rn [] xs k t;obtain⟨i,u⟩:=PC _ _ _ k t X j.o;have z:(PB op r) xs[k]=(op !=15&& !(decide (xs[k]∈r))):=rfl;rw[z]at i u;obtain⟨y,S⟩:∃y:ByteArray,y=⟨xs[k].toArray⟩:=⟨_,rfl⟩;have p:y.data.toList=xs[k]:=by rw[S]
  have hys:y.size<=500000000:=by rw[Jk p];omega
  have Q:((⟨#[32]⟩:ByteArray)++y).size<=500000001:=by
   rw[G4];show 1+y.size<=_;omega
  have hzs:(X++((⟨#[32]⟩:ByteArray)++y)).size<=1500000001:=by
   rw[G4];omega
  rw[<-S]at M i;have O:=AA (J.o W g y);rw[p]at O;obtain⟨d,U⟩:∃d,d=decide (xs[k]∈r):=⟨_,rfl⟩;rw[<-U]at O i u;have n:=AA i;have s:=AA u;have q:=AA g;clear C S p R U j i u z g;by_cases T:op=15
  .have A:(op !=15)=false:=by rw[T];rfl
   have x:Hid _:=s.o (by rw[A];rfl);clear T s n;go_wp2;go_roundw
   .exact⟨k+1,X,t,by go_num,rfl,x.o,q.o⟩
   simp[Aa];omega
  have A:(op !=15)=true:=by simpa using T
  clear T;cases d
  .have x:Hid _:=n.o (by rw[A];rfl);clear s n;go_wp2_with fail;refine O.o.mono ?_;rintro e Z ⟨rfl,rfl⟩;go_wp2;go_roundw
   .exact⟨k+1,_,t,by go_num,rfl,x.o,q.o⟩
   simp[Aa];omega
  have x:Hid _:=s.o (by rw[A];rfl);clear s n;go_wp2_with fail;refine O.o.mono ?_;rintro e Z ⟨rfl,rfl⟩;go_wp2;go_roundw
  .exact⟨k+1,X,t,by go_num,rfl,x.o,q.o⟩
  simp[Aa];omega
 have ek:k=xs.length:=by omega
 subst ek;have f:=j.o;rw[AU]at f;have L:=AA f;have H:X.data.toList=Dv (IE op val.data.toList xs):=by
  rw[f,HP1.o,HWd.o];unfold IE;rw[E'];rfl
 have Y:=Jk H;have K:Hid (AL w.heap.size w W):=BT HB.o g;have hXs2:X.size<=1000000000:=P;clear j f;obtain⟨bE,m⟩:∃b,b=X.toList.isEmpty:=⟨_,rfl⟩;rw[BU,H]at m;cases bE
 .have he:X.toList.isEmpty=false:=by rw[BU,H];exact m.symm
  have h1:1<=(Dv (IE op val.data.toList xs)).length:=by
   cases hq:Dv (IE op val.data.toList xs)with
   |nil=>rw[hq]at m;cases m
   |cons a l=>simp
  have h1s:(1:Int)<=(X.size:Int):=by omega
  have HD:Hid (X.extract 1 X.size=Gr op val.data.toList xs):=by
   apply ByteArray.ext;apply Array.toList_inj.1;show(X.extract 1 X.size).data.toList=(Dv (IE op val.data.toList xs)).drop 1;rw[ByteArray.data_extract,Array.toList_extract,H];simp only[List.extract];rw[BP];rw[DN];omega
  clear m H Y h1;go_wp2;go_ret;exact⟨by rw[HD.o];rfl,K.o⟩
 have he:X.toList.isEmpty=true:=by rw[BU,H];exact m.symm
 have HD:Hid ((⟨#[]⟩:ByteArray)=Gr op val.data.toList xs):=by
  have:Dv (IE op val.data.toList xs)=[]:=List.isEmpty_iff.1 m.symm;unfold Gr;rw[this];rfl
 clear m H Y;go_wp2;go_ret;exact⟨by rw[HD.o];rfl,K.o⟩
def C4:ByteArray:=⟨#[99,108,97,115,115]⟩
def Cq(l:List At2):ByteArray:=match CF l C4 with|some x=>x.val|none=>⟨#[]⟩
def He(op:Int)(key val:ByteArray)(list:List (List UInt8))(l:List At2):List At2:=
 if op=12 then Cu l key val else if op=13 then Ij l key else Cu l C4 (Gr op (Cq l).data.toList list)
def Jf(op:Int)(key val:ByteArray)(list:List (List UInt8))(s:bY)(xs:List Nat):bY:=xs.foldl (λs x=>s.setAt x (He op key val list (s.nd x).attrs)) s
section
variable {op:Int} {key val:ByteArray} {list:List (List UInt8)}
theorem Im(s:bY)(xs:List Nat)(x:Nat):Jf op key val list s (xs++[x])=(Jf op key val list s xs).setAt x (He op key val list ((Jf op key val list s xs).nd x).attrs):=by
 unfold Jf;rw[List.foldl_append];rfl
theorem Fx:∀(xs:List Nat) (s:bY),(Jf op key val list s xs).F=s.F/\(Jf op key val list s xs).N=s.N/\(Jf op key val list s xs).op=s.op
 |[],s=>⟨rfl,rfl,rfl⟩
 |x::xs,s=>Fx xs (s.setAt x (He op key val list (s.nd x).attrs))
theorem FC{y:Nat}:∀(xs:List Nat) (s:bY),y∉xs->(Jf op key val list s xs).nd y=s.nd y
 |[],s,_=>rfl
 |x::xs,s,h=>by
  have a:y≠x:=λe=>h (by rw[e];exact Af);have:=FC xs (s.setAt x (He op key val list (s.nd x).attrs)) (λt=>h (Ab _ t));exact this.trans (AI a)
theorem Tf{y:Nat}:∀(xs:List Nat) (s:bY),xs.Nodup->y∈xs->(Jf op key val list s xs).nd y={s.nd y with attrs:=He op key val list (s.nd y).attrs}
 |x::xs,s,a,h=>by
  obtain⟨r,n⟩:=B4.1 a;by_cases e:y=x
  .subst e;exact(FC xs (s.setAt y (He op key val list (s.nd y).attrs)) r).trans (AJ rfl)
  have o:y∈xs:=by
   rcases BQ.1 h with h|h
   .exact absurd h e
   exact h
  have t:=Tf xs (s.setAt x (He op key val list (s.nd x).attrs)) n o;have i:(s.setAt x (He op key val list (s.nd x).attrs)).nd y=s.nd y:=AI e;rw[i]at t;exact t
theorem Df.at(h:Df r s)(xs:List Nat):Df r (Jf op key val list s xs):=by
 obtain⟨a,e,t⟩:=Fx (op:=op) (key:=key) (val:=val) (list:=list) xs s;obtain⟨d,o⟩:=h.ok;exact⟨⟨d,by rw[a,e];exact o⟩,by rw[e];exact h.le,by rw[e];exact h.few,h.r2,by rw[t];exact h.op⟩
end
def NN(R:Nd->Nd->Prop):Prop:=∀a b,R a b->a.kind=b.kind
section
variable {R:Nd->Nd->Prop} {T:Nat->Prop} {d:Nat} {P s:bY} {ρ:Nat->Nat}
theorem Cn.ZL(E:Cn R T d P s ρ)(hx:∀x∈Y,x<P.N):Cn R T d {P with F:=B_ P.F Y} {s with F:=B_ s.F (Y.map ρ)} ρ:=by
 obtain⟨f,i⟩:=E.okP;obtain⟨m,o⟩:=E.okS;have h:=E.Yx (xs:=Y.flatMap P.F.kids) (λc r=>by
  obtain⟨x,u,t⟩:=List.mem_flatMap.1 r;exact(E.Y1 t).2)
 rw[NS i]at h;have e:(Y.flatMap P.F.kids).map ρ=(Y.map ρ).flatMap s.F.kids:=by
  rw[List.map_flatMap,List.flatMap_map];clear h;induction Y with
  |nil=>rfl
  |cons a l n=>
   rw[A_,A_,E.kids a (hx a Af),n (λx h=>hx x (Ab _ h))]
 rw[e,NS o]at h;exact h
theorem Cn.Zy(E:Cn R T d P s ρ)(t:NN R)(hx:x<P.N):H9 s.F s.nd (ρ x)=(H9 P.F P.nd x).map ρ:=by
 unfold H9;rw[E.kids x hx];exact Gh _ λc e=>by
  unfold Eb;rw[t _ _ (E.nd c (E.Y1 e).2)]
theorem Cn.Z0(E:Cn R T d P s ρ)(t:NN R):∀(k x:Nat),x<P.N->II s.F s.nd k (ρ x)=(II P.F P.nd k x).map ρ
 |0,x,_=>rfl
 |k+1,x,hx=>by
  have h:=E.Zy t hx;cases e:H9 P.F P.nd x with
  |nil=>
   rw[e,List.map_nil]at h;rw[Dz e,Dz h];rfl
  |cons c l=>
   rw[e,Bz]at h;have a:c<P.N:=by
    have:c∈H9 P.F P.nd x:=(by rw[e];exact Af);exact(E.Y1 (Cd.1 this).1).2
   cases l with
   |nil=>
    rw[List.map_nil]at h;rw[E6 e,E6 h];exact Cn.Z0 E t k c a
   |cons b l=>
    have i:II s.F s.nd (k+1) (ρ x)=none:=by
     show(match H9 s.F s.nd (ρ x)with|[]=>some (ρ x)|[c]=>_|_::_::_=>none)=_;rw[h];rfl
    have o:II P.F P.nd (k+1) x=none:=by
     show(match H9 P.F P.nd x with|[]=>some x|[c]=>_|_::_::_=>none)=_;rw[e]
    rw[i,o];rfl
theorem Cn.Zx(E:Cn R T d P s ρ):∀(k x y:Nat),x<P.N->II P.F P.nd k x=some y->y<P.N
 |0,x,y,hx,h=>by
  have:some x=some y:=h;injection this with this;rw[<-this];exact hx
 |k+1,x,y,hx,h=>by
  cases e:H9 P.F P.nd x with
  |nil=>
   rw[Dz e]at h;injection h with h;rw[<-h];exact hx
  |cons c l=>
   have t:c<P.N:=by
    have:c∈H9 P.F P.nd x:=(by rw[e];exact Af);exact(E.Y1 (Cd.1 this).1).2
   cases l with
   |nil=>
    rw[E6 e]at h;exact Cn.Zx E k c y t h
   |cons b l=>
    have a:II P.F P.nd (k+1) x=none:=by
     show(match H9 P.F P.nd x with|[]=>some x|[c]=>_|_::_::_=>none)=_;rw[e]
    rw[a]at h;cases h
def LZ(s:bY)(xs ws:List Nat):bY:={CV 3 s xs ws xs.length with F:=CB (CV 3 s xs ws xs.length).F xs}
theorem Cn.bP(E:Cn R T d P s ρ)(f:Df r s)(hx:∀x∈Y.map ρ,x<r)(m:∀x∈J.map ρ,x<r)(g:Dl 3 s (Y.map ρ) (J.map ρ))(a:∀x∈Y,x<P.N)(i:∀x∈Y,¬T x)(l:∀w∈J,w<P.N)(u:J.Nodup)(n:∀w∈J,¬T w)(c:P.op=false)
 (o:(Bl 3 s (Y.map ρ) (J.map ρ) (Y.map ρ).length).op=false):
 ∃t,(∀y,y<P.N->t y=ρ y)/\Cn R T d (LZ P Y J) (Sv s (Y.map ρ) (J.map ρ)) t/\(LZ P Y J).op=false/\P.N<=(LZ P Y J).N:=by
 obtain⟨t,r1,p,o1,l1⟩:=E.many f (op:=3) (by decide) hx m g a i l u n c o Y.length (AG _);have h:=p.Yx (xs:=Y) (λx h=>AR (a x h) l1);have e:Y.map t=Y.map ρ:=Ay λx h=>r1 x (a x h);rw[e]at h;refine⟨t,r1,?_,o1,l1⟩;unfold LZ Sv;rw[Aq];exact h
def DV(f:List At2->List At2)(s:bY)(xs:List Nat):bY:=xs.foldl (λs x=>s.setAt x (f (s.nd x).attrs)) s
end
def Ew(n B C:Nat)(bl:Nat->Nat)(w:AB)(s:bY)(w':AB):Prop:=∃t e,PA n B C bl w s t e w'
theorem Nc(t:Df r s)(a:U=1\/U=2\/U=4\/U=3)(hx:∀x∈Y,x<r)(n:∀x∈J,x<r)(d:Dl U s Y J)(o:s.F.Ok (λi=>i<s.N) D)(l:∀i,i<s.N->D i<=600):
 ∀i,i<Y.length->∃h,Inv s.N s.F D s.nd U Y J (CV U s Y J i) h/\(CV U s Y J i).N<=1200+i*J.length:=by
 have m:=t.le;exact T6 (h:=D) a o t.few ⟨o,AG _,λ_ _ _ _=>⟨rfl,rfl⟩,λx hx y e=>by
  obtain⟨i,c,rfl⟩:=An hx;obtain⟨j,u,rfl⟩:=An e;exact d.2.1.2 i j c u,d.2.2.2,λy e=>⟨y,e,rfl⟩⟩ (λx hx=>⟨by have:=n x hx;omega,l x (by have:=n x hx;omega)⟩) (λx h=>by have:=hx x h;omega) (by have:=t.few;omega)
theorem X'(t:Df r s)(q:∀i,i<s.N->(CU (s.nd i)).length<=2000)(hx:∀x∈Y,x<r)(u:∀x∈J,x<r)(y:Y.Nodup)(b:J.Nodup)(p:Y≠[])(N:Dl 1 s Y J)(v:(Bl 1 s Y J Y.length).op=false){C:Nat}(H:Br s.F (λi=>i<s.N) s.nd B Z V w)(j:B<=C)(A:C<=w.heap.size)
 (D g:Nat)(d:Option Ai)(l:GJ Z Y D g d w){R:Nat}(a:Option Ai)(c:Nat)(k:w.ownsRow R 70 1 (.slice a J.length c) J.length (Ad Z J)):
 AX AC 84 #[.pointer (some ⟨g,0,none⟩),.slice a J.length c] w (Bk g (Ew s.N B C Z w (Bl 1 s Y J Y.length))):=by
 obtain⟨O,o,T⟩:=t.ZP;have U:=t.le;have m:=bY.Za t.op;have E:=Wq (F0:=s.F) (n:=s.N) (nd0:=s.nd) (h0:=O) (xs:=Y) (ws:=J) (λx h=>T x (by have:=u x h;omega)) q t.few (λx h=>by have:=hx x h;omega) (λx h=>by have:=u x h;omega) y b p (λi S=>by rw[m];obtain⟨h,I,_⟩:=KK t (by decide) hx u N o T i S;exact⟨h,I⟩) (by rw[m];exact v) H (AH j A) D g d l a c k;rw[m]at E;refine Jd w g a J.length c (E.mono ?_);rintro e M ⟨rfl,z,f,h⟩;exact⟨rfl,z,f,h.pa A⟩
theorem YA(t:Df r s)(q:∀i,i<s.N->(CU (s.nd i)).length<=2000)(hx:∀x∈Y,x<r)(u:∀x∈J,x<r)(y:Y.Nodup)(b:J.Nodup)(p:Y≠[])(N:Dl 4 s Y J)(v:(Bl 4 s Y J Y.length).op=false){C:Nat}(H:Br s.F (λi=>i<s.N) s.nd B Z V w)(j:B<=C)(A:C<=w.heap.size)
 (D g:Nat)(d:Option Ai)(l:GJ Z Y D g d w){R:Nat}(a:Option Ai)(c:Nat)(k:w.ownsRow R 70 1 (.slice a J.length c) J.length (Ad Z J)):
 AX AC 87 #[.pointer (some ⟨g,0,none⟩),.slice a J.length c] w (Bk g (Ew s.N B C Z w (Bl 4 s Y J Y.length))):=by
 obtain⟨O,o,T⟩:=t.ZP;have U:=t.le;have m:=bY.Za t.op;have E:=X9 (F0:=s.F) (n:=s.N) (nd0:=s.nd) (h0:=O) (xs:=Y) (ws:=J) (λx h=>T x (by have:=u x h;omega)) q t.few (λx h=>by have:=hx x h;omega) (λx h=>by have:=u x h;omega) y b p (λi S=>by rw[m];obtain⟨h,I,_⟩:=KK t (by decide) hx u N o T i S;exact⟨h,I⟩) (by rw[m];exact v) H (AH j A) D g d l a c k;rw[m]at E;refine M2 w g a J.length c (E.mono ?_);rintro e M ⟨rfl,z,f,h⟩;exact⟨rfl,z,f,h.pa A⟩
theorem Vz(a:Df r s)(z:∀i,i<s.N->(CU (s.nd i)).length<=2000)(hx:∀x∈Y,x<r)(m:∀x∈J,x<r)(p:Y.Nodup)(v:J.Nodup)(b:Y≠[])(S:Dl 2 s Y J)(q:(CV 2 s Y J Y.length).op=false)(M:Br s.F (λi=>i<s.N) s.nd B Z V w)(E:B<=w.heap.size)
 (g:Nat)(d t a1:Option Ai)(c1 D:Nat)(k:DP w g a1 Y.length c1 d t)(l:w.ownsRow D 70 1 (.slice a1 Y.length c1) Y.length (Ad Z Y)){F:Nat}(gb:Nat)(u:(AO a1 Y.length c1).ownBlock≠some gb)(c:Nat)(j:w.ownsRow F 70 1 (.slice (some ⟨gb,0,none⟩) J.length c) J.length (Ad Z J)):
 AX AC 85 #[.pointer (some ⟨g,0,none⟩),.slice (some ⟨gb,0,none⟩) J.length c] w (R7 s.N B Z g gb (CV 2 s Y J Y.length) w):=by
 obtain⟨H,o,N⟩:=a.ZP;have G:=a.le;have f:=bY.Za a.op;have O:=X8 (F0:=s.F) (n:=s.N) (nd0:=s.nd) (h0:=H) (xs:=Y) (vs:=J.reverse) (λx h=>N x (by have:=m x (CA.1 h);omega)) z a.few (λx h=>by have:=hx x h;omega) (λx h=>by have:=m x (CA.1 h);omega) p (GS.2 v) b (λe=>S.1 (List.reverse_eq_nil_iff.1 e)) (λi C=>by rw[f,CO];obtain⟨h,I,_⟩:=Nc a (by decide) hx m S o N i C;exact⟨h,I⟩) (by rw[f,CO];exact q) M E g d t a1 c1 D k l gb u c (by rw[EF,CO];exact j);rw[f,EF,CO]at O;refine(MC (R:=λU=>∃A T y,Al (λ_=>True) (λ_=>gb) w A/\PW s.N B Z A (CV 2 s Y J Y.length) T y U) w g _ J.length c (O.mono ?_)).mono ?_
 .rintro e L ⟨rfl,h⟩;exact⟨rfl,h⟩
 rintro e L ⟨rfl,h⟩;exact⟨rfl,h⟩
theorem Ra(a:Df r s)(z:∀i,i<s.N->(CU (s.nd i)).length<=2000)(hx:∀x∈Y,x<r)(m:∀x∈J,x<r)(p:Y.Nodup)(v:J.Nodup)(b:Y≠[])(S:Dl 3 s Y J)(q:(CV 3 s Y J Y.length).op=false)(M:Br s.F (λi=>i<s.N) s.nd B Z V w)(E:B<=w.heap.size)
 (g:Nat)(d t a1:Option Ai)(c1 D:Nat)(k:DP w g a1 Y.length c1 d t)(l:w.ownsRow D 70 1 (.slice a1 Y.length c1) Y.length (Ad Z Y)){F:Nat}(gb:Nat)(u:(AO a1 Y.length c1).ownBlock≠some gb)(c:Nat)(j:w.ownsRow F 70 1 (.slice (some ⟨gb,0,none⟩) J.length c) J.length (Ad Z J)):
 AX AC 86 #[.pointer (some ⟨g,0,none⟩),.slice (some ⟨gb,0,none⟩) J.length c] w (R7 s.N B Z g gb (CV 3 s Y J Y.length) w):=by
 obtain⟨H,o,N⟩:=a.ZP;have G:=a.le;have f:=bY.Za a.op;have O:=Wr (F0:=s.F) (n:=s.N) (nd0:=s.nd) (h0:=H) (xs:=Y) (vs:=J.reverse) (λx h=>N x (by have:=m x (CA.1 h);omega)) z a.few (λx h=>by have:=hx x h;omega) (λx h=>by have:=m x (CA.1 h);omega) p (GS.2 v) b (λe=>S.1 (List.reverse_eq_nil_iff.1 e)) (λi C=>by rw[f,CO];obtain⟨h,I,_⟩:=Nc a (by decide) hx m S o N i C;exact⟨h,I⟩) (by rw[f,CO];exact q) M E g d t a1 c1 D k l gb u c (by rw[EF,CO];exact j);rw[f,EF,CO]at O;refine(H_ (R:=λU=>∃A T y,Al (λ_=>True) (λ_=>gb) w A/\PW s.N B Z A (CV 3 s Y J Y.length) T y U) w g _ J.length c (O.mono ?_)).mono ?_
 .rintro e L ⟨rfl,h⟩;exact⟨rfl,h⟩
 rintro e L ⟨rfl,h⟩;exact⟨rfl,h⟩
theorem R7.pa{C:Nat}{gb:Nat}{s0:bY}{e:Bx}(h:R7 n B Z g gb s w e N)(p:s0.N=n)(h0:Br s0.F (λi=>i<s0.N) s0.nd B Z V w)(t:w.heap[gb]? =some (.cells E 70 (0,0)))(c:C<=w.heap.size)(v:C<=gb):e= .returned (.pointer (some ⟨g,0,none⟩))/\Ew n B C Z w s N:=by
 obtain⟨rfl,m,d,o,a,H⟩:=h;subst p;have r:=h0.ZX t a;have f:PA s0.N B C Z w s0 Z V m:=⟨r,λ_ _=>rfl,λy q k=>by omega,AT.ar a c v,λy l b e=>by
  obtain⟨_,aa,ac,u,_⟩:=h0.dom.node y l;refine .inl ⟨l,?_⟩;rw[<-Ce (a.block _ (AE.1 u).1 (λ_ _=>CC u t (by decide)))];exact e⟩
 exact⟨rfl,d,o,f.trans (H.pa (AH c a.size)) (AG _)⟩
theorem KQ{e:Nat}{gb:Nat}{xs:List AS}(h:w.ownsRow A e k (.slice (some ⟨gb,0,none⟩) n c) n xs):∃t,w.heap[gb]? =some (.cells t e (0,0)):=by
 rcases h.2 with⟨e1,_⟩|⟨o,cap,t,e1,_,a,_⟩
 .cases e1
 injection e1 with e1 _ _;injection e1 with e1;injection e1 with e1;subst e1;exact⟨t,a⟩
theorem YB(U:Df r s)(ea:∀i,i<s.N->(CU (s.nd i)).length<=2000)(hx:∀x∈Y,x<r)(hw:∀x∈J,x<r)(z:Y.Nodup)(P:J.Nodup)(G:Y≠[])(hk:Dl 3 s Y J)(Q:(CV 3 s Y J Y.length).op=false)(X:∃h,(CV 3 s Y J Y.length).F.Ok (λi=>i<(CV 3 s Y J Y.length).N) h)(ee:s.N<=(CV 3 s Y J Y.length).N){C:Nat}(F:Br s.F (λi=>i<s.N) s.nd B Z V w)(en:B<=C)(W:C<=w.heap.size)
 (g:Nat)(o a a1:Option Ai)(c1 D:Nat)(u:DP w g a1 Y.length c1 o a)(hD:D<=g)(f:w.ownsRow D 70 1 (.slice a1 Y.length c1) Y.length (Ad Z Y)){C2:Nat}(gb:Nat)(et:C<=gb)(p:(AO a1 Y.length c1).ownBlock≠some gb)(c:Nat)(E:w.ownsRow C2 70 1 (.slice (some ⟨gb,0,none⟩) J.length c) J.length (Ad Z J)):
 AX AC 88 #[.pointer (some ⟨g,0,none⟩),.slice (some ⟨gb,0,none⟩) J.length c] w (Bk g (Ew s.N B C Z w (LZ s Y J))):=by
 have hle:=U.le;obtain⟨cur,n⟩:=KQ E;have h1:=Ra U ea hx hw z P G hk Q F (AH en W) g o a a1 c1 D u f gb p c E;refine Kp (R:=λL=>Ew s.N B C Z w (CV 3 s Y J Y.length) L/\∀t l,PA s.N B C Z w (CV 3 s Y J Y.length) t l L->GJ t Y D g o L) w g _ J.length c (h1.mono ?_) ?_
 .rintro e k hM;obtain⟨e1,eo⟩:=hM.pa rfl F n W et;obtain⟨_,w0,bl0,st0,S,H⟩:=hM;refine⟨e1,eo,λt l b=> ?_⟩;have T:=u.lt;have m:DP w0 g a1 Y.length c1 o a:=(S.block g T (λ_ _=>CC u n (by decide))).trans u;have d:w0.ownsRow D 70 1 (.slice a1 Y.length c1) Y.length (Ad Z Y):=S.own f λ_ _ e=>p e;have O:=F.ZX n S;have I:DP k g a1 Y.length c1 o a:=(H.turn.block g (AR T S.size) (λi q=>by
   obtain⟨_,aa,ac,M,_⟩:=O.dom.node i q;exact CC m M (by decide))).trans m
  have v:k.ownsRow D 70 1 (.slice a1 Y.length c1) Y.length (Ad Z Y):=H.turn.own d λi q=>O.Yw d (by decide) i q;have ep:Ad t Y=Ad Z Y:=Ay λx h=>by rw[b.old x (by have:=hx x h;omega)]
  exact⟨a1,c1,a,I,hD,by rw[ep];exact v⟩
 rintro k ⟨⟨t,l,b⟩,N⟩;obtain⟨h3,o3⟩:=X;have K:=N t l b;have hxl:Y.length<=600:=by have:=BH z hx;have:=U.r2;omega
 refine(Ml o3 Y (λx h=>by have:=hx x h;omega) (by omega) k b.prog D g o K).mono ?_;rintro e w3 ⟨rfl,⟨j,ei⟩,A⟩;have hb:∀i,i<(CV 3 s Y J Y.length).N->t i<k.heap.size:=λi q=>by
  obtain⟨_,aa,ac,M,_⟩:=b.prog.dom.node i q;exact(AE.1 M).1
 have k2:PA (CV 3 s Y J Y.length).N B C t k (LZ s Y J) t j w3:=⟨ei,λ_ _=>rfl,λy h1 h2=>by
  have:y<(CV 3 s Y J Y.length).N:=h2;omega,AT.ZB A (AH W b.turn.size),VZ.ZB A hb⟩
 exact⟨rfl,t,j,b.trans k2 ee⟩
theorem Rs{s2:bY}{C:Nat}{e:Nat->Dn}(r:Br s.F (λi=>i<s.N) s.nd B Z V w)(l:C<=w.heap.size)(d:s2.N=s.N)(t:Br s2.F (λi=>i<s2.N) s2.nd B Z e M)(a:Dy (λi=>i<s.N) Z w.heap.size w M):Ew s.N B C Z w s2 M:=by
 have h:∀i,i<s.N->Z i<w.heap.size:=λi o=>by
  obtain⟨_,aa,ac,n,_⟩:=r.dom.node i o;exact(AE.1 n).1
 exact⟨Z,e,t,λ_ _=>rfl,λy c u=>by omega,AT.ZB a l,by rw[d];exact VZ.ZB a h⟩
theorem Wt(u:Df r s){xs:List Nat}(hx:∀x∈xs,x<s.N)(n:xs.length<=1000){C:Nat}(l:Br s.F (λi=>i<s.N) s.nd B Z V w)(c:C<=w.heap.size)(D g:Nat)(t:Option Ai)(a:GJ Z xs D g t w):
 AX AC 89 #[.pointer (some ⟨g,0,none⟩)] w (Bk g (Ew s.N B C Z w {s with F:=CB s.F xs})):=by
 obtain⟨y,o⟩:=u.ok;refine(Ml o xs hx n w l D g t a).mono ?_;rintro e f ⟨rfl,⟨m,d⟩,h⟩;exact⟨rfl,Rs (s2:={s with F:=CB s.F xs}) l c rfl d h⟩
theorem YC(u:Df r s)(hx:∀x∈Y,x<s.N)(h:Y.length<=1000){C:Nat}(c:Br s.F (λi=>i<s.N) s.nd B Z V w)(m:C<=w.heap.size)(D g:Nat)(t:Option Ai)(a:Fw Z Y D g t w):
 AX AC 90 #[.pointer (some ⟨g,0,none⟩)] w (λe w'=>(∃n,e= .returned (.pointer (some ⟨n,0,none⟩)))/\Ew s.N B C Z w {s with F:=B_ s.F Y} w'):=by
 obtain⟨v,o⟩:=u.ok;have b:=u.few;refine(SH o (N:=600) (by decide) (λi p=>by omega) Y hx h w c D g t a).mono ?_;rintro e y ⟨n,rfl,⟨f,l⟩,d⟩;exact⟨⟨n,rfl⟩,Rs (s2:={s with F:=B_ s.F Y}) c m rfl l d⟩
theorem XN(o:F.Ok S h){a b:Nat}(u:(CB F J).Up a b):F.Up a b:=by
 induction u with
 |self=>exact .self
 | @step y p e i t=>
   rw[DL]at e;split at e
   .cases e
   exact .step e t
theorem JH{s:bY}(o:s.F.Ok (λi=>i<s.N) h)(v:List Nat):Ap true s v={s with F:=CB s.F v}:=by
 have e1:=GL o v;have hF:(Ap true s v).F=CB s.F v:=Fo.Yv (λi=>by rw[e1.par,DL]) (λi=>by rw[e1.kids,Dm]);have a:=e1.N;have t:=e1.nd;have e:=e1.op;generalize Ap true s v=z at hF a t e;obtain⟨_,_,_,_⟩:=z;cases hF;cases a;cases t;cases e
 rfl
theorem XM(op:Int)(F:Fo)(v:List Nat):CB F (rv op v)=CB F v:=Fo.Yv (λi=>by rw[DL,DL];simp only[D2]) (λi=>by rw[Dm,Dm];simp only[D2])
theorem SU{s:bY}(o:s.F.Ok (λi=>i<s.N) h)(op:Int)(x:Nat)(ws:List Nat):Gs op true s x ws=Bm op true s x ws:=by
 unfold Gs Bm;have e:rv op (CI true s (rv op ws))=CI true s ws:=Rk op ws;rw[JH o,JH o,XM,e]
section
variable {R:Nd->Nd->Prop} {T:Nat->Prop} {d:Nat} {P s:bY} {ρ:Nat->Nat}
theorem Cn.last(E:Cn R T d P s ρ){op:Int}(S:op=1\/op=2\/op=4\/op=3){ws:List Nat}(hx:x<P.N)(z:¬T x)(U:∀w∈ws,w<P.N/\¬T w)(A:ws.Nodup)(k:Jn op->P.F.par x≠none)(C:∀w∈ws,¬P.F.Up w x):
 Cn R T d (Bm op true P x ws) (Bm op true s (ρ x) (ws.map ρ)) ρ:=by
 obtain⟨hP,H⟩:=E.okP;obtain⟨hS,B⟩:=E.okS;have y:∀w∈ws,w<P.N:=λw h=>(U w h).1;have i:=E.Yx (xs:=ws) y;have j:x∉ws:=λh=>C x h .self;have e1:=JH H ws;have e2:=JH B (ws.map ρ);have q:Bm op true P x ws=(Ap true P ws).row (CK op (Ap true P ws).F x) (DE op (Ap true P ws).F x (CK op (Ap true P ws).F x)) ws:=rfl;have v:Bm op true s (ρ x) (ws.map ρ)=(Ap true s (ws.map ρ)).row (CK op (Ap true s (ws.map ρ)).F (ρ x)) (DE op (Ap true s (ws.map ρ)).F (ρ x) (CK op (Ap true s (ws.map ρ)).F (ρ x))) (ws.map ρ):=rfl;rw[e1]at q;rw[e2]at v;obtain⟨t,f⟩:∃t:bY,t={P with F:=CB P.F ws}:=⟨_,rfl⟩;obtain⟨s1,I⟩:∃s1:bY,s1={s with F:=CB s.F (ws.map ρ)}:=⟨_,rfl⟩;rw[<-f]at q i;rw[<-I]at v i;have hF:t.F=CB P.F ws:=by rw[f]
 have M:t.N=P.N:=by rw[f]
 have m:t.F.par x=P.F.par x:=by rw[hF,DL,AI j]
 have n:x<t.N:=by rw[M];exact hx
 have b:Jn op->s1.F.par (ρ x)≠none:=λh e=>by
  have:=i.Z7 n e;rw[m]at this;exact k h this
 obtain⟨K,D,Z⟩:=i.Y_ n z b;have V:=i.Y6 (op:=op) n D;rw[K,V]at v;have O:P.F.Up (CK op t.F x) x:=by
  unfold CK;by_cases h:Jn op
  .rw[AJ h,m];cases e:P.F.par x with
   |none=>exact absurd e (k h)
   |some p=>exact .step e .self
  rw[AI h];exact .self
 have N:Jn op->t.F.par x=some (CK op t.F x):=λh=>by
  unfold CK;rw[AJ h];cases e:t.F.par x with
  |none=>rw[m]at e;exact absurd e (k h)
  |some p=>rfl
 generalize CK op t.F x=p at*;have J:DE op t.F x p<=(t.F.kids p).length:=by
  unfold DE;rcases S with rfl|rfl|rfl|rfl
  .have:=(List.takeWhile_sublist (l:=t.F.kids p) λc=> !decide (c=x)).length_le;simp;exact this
  .simp
  .have:=(List.takeWhile_sublist (l:=t.F.kids p) λc=> !decide (c=x)).length_le;simp;exact this
  ·
   obtain⟨G,o1⟩:=i.okP;have Q:x∈t.F.kids p:=(o1.mem p x).2 (N (.inl rfl));have G:=I8 x (t.F.kids p);have Y:=Ob Q;have W:=congrArg List.length G;rw[AN]at W;cases e:(t.F.kids p).dropWhile (λc=> !decide (c=x))with
   |nil=>rw[e]at Y;simp at Y
   |cons a l=>rw[e,Ak]at W;simp;omega
 have g:((t.F.kids p).take (DE op t.F x p)).length=DE op t.F x p:=by rw[At];omega
 have o:=i.row (p:=p) D (L:=ws) (Av (DE op t.F x p) (t.F.kids p)).symm (λr hr=>by
  refine⟨by rw[M];exact y r hr,by rw[hF,DL,AJ hr],(U r hr).2,λu=>C r hr ?_⟩;rw[hF]at u;exact(XN H u).tr O) A
 rw[g]at o;rw[q,v];exact o
theorem Cn.Z'(E:Cn R T d P s ρ)(a:p<P.N)(o:¬T p)(i:P.F.par p≠none):Cn R T d (I9 P p) (I9 s (ρ p)) ρ:=by
 obtain⟨c,e⟩:=E.okP;have h:=E.last (op:=3) (by decide) (x:=p) (ws:=P.F.kids p) a o (λw t=>⟨(E.Y1 t).2,E.Zw t⟩) (e.nodup p) (λ_=>i) (λw t u=>by
  have r:=e.ht _ _ ((e.mem p w).1 t);rcases u.ht e with n|n
  .rw[n]at r;exact Nat.lt_irrefl _ r
  omega)
 rw[<-E.kids p a]at h;have l:(Bm 3 true P p (P.F.kids p)).N=P.N:=(GL e _).N;exact h.cut (x:=p) (by rw[l];exact a)
theorem Cn.Z1:∀(t:List Nat) {P s:bY},Cn R T d P s ρ->(∀p∈t,p<P.N/\¬T p/\P.F.par p≠none)->t.Nodup->Cn R T d (E5 P t) (E5 s (t.map ρ)) ρ
 |[],P,s,E,_,_=>E
 |p::t,P,s,E,h,r=>by
  obtain⟨u,l⟩:=B4.1 r;obtain⟨a,b,c⟩:=h p Af;obtain⟨m,i⟩:=E.okP;obtain⟨_,n,_,_,k5⟩:=N0 i c;exact Cn.Z1 t (E.Z' a b c) (λq o=>by
   obtain⟨a,b,c⟩:=h q (Ab _ o);exact⟨by rw[n];exact a,b,k5 q (λe=>u (e▸o)) c⟩) l
theorem Cn.ZW(E:Cn R T d P s ρ)(hx:∀x∈Y,x<P.N/\¬T x):Cm s.F (Y.map ρ)=(Cm P.F Y).map ρ/\∀p∈Cm P.F Y,p<P.N:=by
 obtain⟨f,r⟩:=E.okP;unfold Cm;have key:∀(Y l:List Nat),(∀x∈Y,x<P.N/\¬T x)->(∀p∈l,p<P.N)->(Y.map ρ).foldl (ID s.F) (l.map ρ)=(Y.foldl (ID P.F) l).map ρ/\∀p∈Y.foldl (ID P.F) l,p<P.N:=by
  intro Y;induction Y with
  |nil=>intro l _ t;exact⟨rfl,t⟩
  |cons x Y u=>
   intro l h t;obtain⟨a,b⟩:=h x Af;have e:ID s.F (l.map ρ) (ρ x)=(ID P.F l x).map ρ/\∀p∈ID P.F l x,p<P.N:=by
    unfold ID;rw[E.Ze a b];cases m:P.F.par x with
    |none=>exact⟨rfl,t⟩
    |some p=>
     have o:=(r.dom _ _ m).1;simp only[As];by_cases n:p∈l
     .rw[AJ n,AJ ((E.ZC t o).2 n)];exact⟨rfl,t⟩
     rw[AI n,AI (λh=>n ((E.ZC t o).1 h))];refine⟨by rw[B3];rfl,λq i=> ?_⟩;rcases AV.1 i with i|i
     .exact t q i
     rw[AP.1 i];exact o
   rw[Bz,List.foldl_cons,List.foldl_cons,e.1];exact u _ (λy c=>h y (Ab _ c)) e.2
 exact key Y [] hx (λ_ h=>by cases h)
theorem Cn.bJ(E:Cn R T d P s ρ)(l:NN R){w:Nat}(t:∀x∈I,x<P.N/\¬T x)(a:w<P.N)(Q:J1 s (I.map ρ) (ρ w)):J1 P I w where
 lt:=λx h=>(t x h).1
 nodup:=(E.nodup λx h=>(t x h).1).1 Q.nodup
 ne:=λe=>Q.ne (by rw[e];rfl)
 wi:=a
 one:=λe=>Q.one (by rw[E.Z0 l 600 w a,e];rfl)
 apart:=λx h u=>Q.apart _ (BK h) ((E.up a (t x h).1).1 u)
 par:=λx h e=>Q.par _ (BK h) (by rw[E.Ze (t x h).1 (t x h).2,e];rfl)
 pair:=λi j r n o u=>Q.pair i j (by simpa using r) (by simpa using n) o (by
  rw[BD,BD];exact(E.up (t _ (AD r)).1 (t _ (AD n)).1).1 u)
theorem Cn.Z9(E:Cn R T d P s ρ)(hR:NN R)(D:Df r s){on:List Nat}{w:Nat}(b:∀x∈on,x<P.N/\¬T x)(C:w<P.N)(G:¬T w)(B:P.op=false)(Q:J1 s (on.map ρ) (ρ w))(g:(C5 s ((on.map ρ).headD 0) (ρ w)).op=false):
 ∃o,(∀y,y<P.N->o y=ρ y)/\Cn R T d (GO P on w) (GO s (on.map ρ) (ρ w)) o/\(C5 P (on.headD 0) w).op=false/\(GO P on w).op=false/\P.N<=(GO P on w).N:=by
 obtain⟨h0,U,M⟩:=D.ZP;have O:on≠[]:=λe=>Q.ne (by rw[e];rfl);have J:on.headD 0∈on:=EL O;have S:(on.map ρ).headD 0=ρ (on.headD 0):=by
  cases on with
  |nil=>exact absurd rfl O
  |cons a l=>rfl
 rw[S]at g;have F:=BK (f:=ρ) J;obtain⟨I,_⟩:=Od D U M Q F;have H:∀L∈[w].map ρ,L<s.N/\h0 L<=600:=λL z=>by
  rw[List.map_singleton,AP]at z;subst z;exact⟨E.lt w C,M _ (E.lt w C)⟩
 obtain⟨o,r1,n,o1,l1,hL⟩:=E.one (op:=4) (xs:=on) (ws:=[w]) (by decide) U I H (λi j k hj hne=>by simp at k hj;omega) (λx hx=>by
  obtain⟨q,Z,rfl⟩:=BL.1 hx;exact E.lt q (b q Z).1) (λx h=>(b x h).1) (λx h=>(b x h).2) (λx h=>by rw[AP.1 h];exact C) (by simp) (λx h=>by rw[AP.1 h];exact G) D.few B false J g
 rw[PO (by decide)]at n o1 l1;have eP:Bm 4 false P (on.headD 0) [w]=C5 P (on.headD 0) w:=rfl;have eS:Bm 4 false s (ρ (on.headD 0)) ([w].map ρ)=C5 s (ρ (on.headD 0)) (ρ w):=rfl;rw[eP]at n o1 l1;rw[eS]at n;have v:o P.N=s.N:=by
  have:[s.N]=[o P.N]:=hL;injection this with this;exact this.symm
 obtain⟨h2,W⟩:=LF D U M Q F (p:=(s.F.par (ρ (on.headD 0))).getD 0) (by
  have:=Q.par _ F;cases e:s.F.par (ρ (on.headD 0))with
  |none=>exact absurd e this
  |some p=>rfl) g
 have N:P.N<(C5 P (on.headD 0) w).N:=by
  have h3:s.N<(C5 s (ρ (on.headD 0)) (ρ w)).N:=W.ge;have:=n.num;have:=E.num;omega
 have m:EU s (ρ (on.headD 0)) (ρ w)=o (EU P (on.headD 0) w)/\EU P (on.headD 0) w<(C5 P (on.headD 0) w).N/\(C5 P (on.headD 0) w).F.Up P.N (EU P (on.headD 0) w):=by
  obtain⟨hP1,Y⟩:=n.okP;have k:=W.inn;unfold EU;rw[<-v,n.Z0 hR 600 P.N N]at k|-;cases e:II (C5 P (on.headD 0) w).F (C5 P (on.headD 0) w).nd 600 P.N with
  |none=>rw[e]at k;simp at k
  |some y=>exact⟨rfl,n.Zx _ _ _ N e,OP (λp c=>(Y.mem p c).1) _ _ _ e⟩
 have ex:on.map o=on.map ρ:=Ay λx h=>r1 x (b x h).1;have A:=W.inv.up;rw[m.1]at A;have E2:=n.last (op:=1) (x:=EU P (on.headD 0) w) (ws:=on) (by decide) m.2.1 (λt=>by
                                                                        have K:=(n.tp _ t).2;have V:=(E.tp _ t).1;have X:=m.2.2;generalize EU P (on.headD 0) w=y at*;cases X with
                                                                        |self=>exact absurd V (Nat.lt_irrefl _)
                                                                        |step hp _=>rw[hp]at K;cases K) (λx h=>⟨AR (b x h).1 l1,(b x h).2⟩) ((E.nodup λx h=>(b x h).1).1 Q.nodup) (λh=>by rcases h with h|h<;>simp at h) (λx h u=>by
                                                                        refine A (ρ x) (BK h) _ (AP.2 rfl) ?_;rw[<-r1 x (b x h).1];exact(n.up (AR (b x h).1 l1) m.2.1).1 u)
 refine⟨o,r1,?_,o1,?_,?_⟩
 .unfold GO;rw[S,m.1,<-ex];exact E2
 .have:=GL n.okP.choose_spec on;exact this.op.trans o1
 have:=GL n.okP.choose_spec on;have e:(GO P on w).N=(C5 P (on.headD 0) w).N:=this.N;omega
theorem Cn.Zh(p:NN R):∀(G:List (List Nat)) {P s s2:bY} {ρ:Nat->Nat} {w:Nat},Cn R T d P s ρ->Df r s->(∀g∈G,∀x∈g,x<P.N/\¬T x)->w<P.N->¬T w->P.op=false->EX s (ρ w) (G.map (List.map ρ)) s2->s2.op=false->
 ∃n e,EX P w G n/\(∀y,y<P.N->e y=ρ y)/\Cn R T d n s2 e/\n.op=false/\P.N<=n.N
 |[],P,s,s2,ρ,w,E,_,_,_,_,f,h,m=>by
  cases h
  exact⟨P,ρ,.nil _ _,λ_ _=>rfl,E,f,AG _⟩
 |g::G,P,s,s2,ρ,w,E,A,v,c,l,f,h,m=>by
  rw[Bz]at h;generalize j:G.map (List.map ρ)=C at h;cases h with
  |opn Q o=>rw[o]at m;cases m
  |cons Q o t=>
   have O:=v g Af;obtain⟨e,r1,N,S,o1,l1⟩:=E.Z9 p A O c l f Q o;have L:=E.bJ p O c Q;have I:ρ w=e w:=(r1 w c).symm;have H:G.map (List.map ρ)=G.map (List.map e):=Ay λk i=>Ay λx hx=>(r1 x (v k (Ab _ i) x hx).1).symm;obtain⟨u,_⟩:=A.wg Q o;rw[<-j,H,I]at t;rw[I]at u N;obtain⟨n,q,D,r2,U,o2,l2⟩:=Cn.Zh p G N u (λk i x hx=>by
    obtain⟨a,b⟩:=v k (Ab _ i) x hx;exact⟨AR a l1,b⟩) (AR c l1) l o1 t m
   exact⟨n,q,.cons L S D,λy z=>(r2 y (AR z l1)).trans (r1 y z),U,o2,AH l1 l2⟩
end
theorem V0(xs:List Nat)(bl:Nat->Nat)(j:xs.length<=100000)(k:AS)(g:Nat)(a1:Option Ai)(c1:Nat)(w:AB)(f:w.cell? ⟨g,0,none⟩=some (.slice a1 xs.length c1))(t:B6 w w.heap.size a1 (Ad bl xs))(a:Option Ai)(c:Nat):
 AX AC 109 #[.pointer (some ⟨g,0,none⟩),.slice a 0 c,.bool true,k] w (Bk g λw'=>w'=w):=by
 have m:=AA (Gl g a1 xs.length c1 w f);have s:=AA t;clear t;go_enter func109,ntmps109;go_wp2_with fail;refine m.o.mono ?_;rintro e p ⟨rfl,rfl⟩;go_wp2;go_loopw [10,11] (λu l wr=>u= .int .i64 0/\l= .int .i64 (-1)/\wr=p) (λv _ _=>0)
 .exact⟨rfl,rfl,rfl⟩
 obtain⟨rfl,rfl,rfl⟩:=hrel;go_wp2;go_loopw [49] (λv d=>∃i:Nat,i<=xs.length/\v= .int .i64 i/\d=wr) (λv _=>xs.length-(Aa v).toNat)
 .exact⟨0,AY _,rfl,rfl⟩
 obtain⟨i,E,rfl,q⟩:=hrel;subst q;clear f;by_cases n:i<xs.length
 .obtain⟨b,o,rfl,z,y⟩:=s.o.at_ (by rw[AM];omega);have h:=y i (by rw[AM];exact n);rw[A5 n]at h;obtain⟨x,hx⟩:∃x,x=xs[i]:=⟨_,rfl⟩;rw[<-hx]at h;clear y hx;go_wp2;go_loopw [56] (λv r=>v= .int .i64 0/\r=wr) (λv _=>0)
  .exact⟨rfl,rfl⟩
  obtain⟨rfl,e1⟩:=hrel;subst e1;clear h;go_wp2;go_roundw
  .exact⟨i+1,n,by go_num,by trivial⟩
  simp[Aa];omega
 have e:i=xs.length:=by omega
 subst e;go_wp2;go_ret;exact⟨rfl,rfl⟩
theorem Pn{xs:List Nat}{D:Nat}{a1 e:Option Ai}{c1:Nat}(t:DP w g a1 xs.length c1 L e)(n:D<=g)(a:w.ownsRow D 70 1 (.slice a1 xs.length c1) xs.length (Ad Z xs))(o:AL w.heap.size w M):DP M g a1 xs.length c1 L e/\M.ownsRow D 70 1 (.slice a1 xs.length c1) xs.length (Ad Z xs):=
 ⟨t.below o t.lt,BB a λb _ i=>o.block b i⟩
theorem WH(U:Df r s)(hal:∀i,i<s.N->(CU (s.nd i)).length<=2000)(X:p<s.N)(hpp:s.F.par p≠none){C:Nat}(hP:Br s.F (λi=>i<s.N) s.nd B Z V w)(hBC:B<=C)(hC:C<=w.heap.size)
 (g:Nat)(f l a1:Option Ai)(c1 D:Nat)(v:DP w g a1 [p].length c1 f l)(hD:D<=g)(b:w.ownsRow D 70 1 (.slice a1 [p].length c1) [p].length (Ad Z [p])){C2:Nat}(a:Option Ai)(c:Nat)(Q:∀gb,a=some ⟨gb,0,none⟩->C<=gb/\(AO a1 [p].length c1).ownBlock≠some gb)(I:w.ownsRow C2 70 1 (.slice a (s.F.kids p).length c) (s.F.kids p).length (Ad Z (s.F.kids p))):
 AX AC 88 #[.pointer (some ⟨g,0,none⟩),.slice a (s.F.kids p).length c] w (Bk g (Ew s.N B C Z w (I9 s p))):=by
 obtain⟨M,o,hl⟩:=U.ZP;have e0:=bY.Za U.op;have hcut:∀(t:bY) (k:AB) (d:Nat->Nat) (m:Nat->Dn),t.N=s.N->t.nd=s.nd->t.op=s.op->(∃h,t.F.Ok (λi=>i<t.N) h)->(∀y,y<s.N->d y=Z y)->PA s.N B C Z w t d m k->GJ Z [p] D g f k->AX AC 89 #[.pointer (some ⟨g,0,none⟩)] k (Bk g (Ew s.N B C Z w {t with F:=t.F.cut p})):=by
  intro t k d m hN hnd hop hok N T q;have S:GJ d [p] D g f k:=by
   have:Ad d [p]=Ad Z [p]:=by unfold Ad;simp[N p X]
   obtain⟨a3,c3,p3,q1,q2,q3⟩:=q;exact⟨a3,c3,p3,q1,q2,by rw[this];exact q3⟩
  have hst:Df 0 t:=⟨hok,AY _,by rw[hN];exact U.few,by omega,by rw[hop];exact U.op⟩;refine(Wt hst (xs:=[p]) (λx h=>by rw[AP.1 h,hN];exact X) (by simp) T.prog (AH hC T.turn.size) D g f S).mono ?_;rintro e w3 ⟨rfl,bl3,st3,h3⟩;exact⟨rfl,bl3,st3,T.trans h3 (by rw[hN];exact AG _)⟩
 by_cases hK:s.F.kids p=[]
 .have hu:I9 s p={s with F:=s.F.cut p}:=by
   unfold I9;rw[hK];have e1:Bm 3 true s p []=s:=by
    have:=Hr 3 true s p;exact this
   rw[e1]
  rw[hK,hu]at*;have O:B6 w w.heap.size a1 (Ad Z [p]):=by
   obtain⟨_,_,hv,_,O⟩:=B6.own b;cases hv
   exact O
  have hm:=V0 [p] Z (by simp) (.func (.func 113) #[] #[]) g a1 c1 w v.cells.1 O a c;refine Kp (R:=λJ=>J=w) w g a 0 c (H_ w g a 0 c hm) ?_;rintro k rfl;exact hcut s k Z V rfl rfl rfl ⟨M,o⟩ (λ_ _=>rfl) (PA.refl rfl hP) ⟨a1,c1,l,v,hD,b⟩
 have E:∀x∈s.F.kids p,x<s.N/\¬s.F.Up x p:=λx hx=>by
  have h1:=(o.mem p x).1 hx;refine⟨(o.dom _ _ h1).2,λu=> ?_⟩;have h2:=o.ht _ _ h1;rcases u.ht o with h3|h3
  .rw[h3]at h2;exact Nat.lt_irrefl _ h2
  omega
 obtain⟨gb,cap,ea⟩:=FW I (Bg.2 hK);cases ea
 obtain⟨hCg,Y⟩:=Q gb rfl;obtain⟨cur,j⟩:=KQ I;have hI:Inv s.N s.F M s.nd 3 [p] (s.F.kids p) s M:=⟨o,AG _,λ_ _ _ _=>⟨rfl,rfl⟩,λw hw x hx=>by rw[AP.1 hx];exact(E w hw).2,λ_ x hx=>by rw[AP.1 hx];exact hpp,λy hy=>⟨y,hy,rfl⟩⟩;have eM:CV 3 s [p] (s.F.kids p) [p].length=Bm 3 true s p (s.F.kids p):=by
  show Gs 3 true s p (s.F.kids p)=_;exact SU o 3 p _
 obtain⟨h',ok',eN,eD,eO⟩:=KL (op:=3) (by decide) hI (o.nodup p) (λw hw=>(E w hw).1) (λx hx=>by rw[AP.1 hx];exact X) (AP.2 rfl);have hm:=Wr (F0:=s.F) (n:=s.N) (nd0:=s.nd) (h0:=M) (xs:=[p]) (vs:=(s.F.kids p).reverse) (λx h=>hl x (E x (CA.1 h)).1) hal U.few (λx h=>by rw[AP.1 h];exact X) (λx h=>(E x (CA.1 h)).1) (by simp) (GS.2 (o.nodup p)) (by simp) (λe=>hK (List.reverse_eq_nil_iff.1 e)) (λi W=>by
  have:i=0:=by simp at W;omega
  subst this;rw[e0,CO];exact⟨M,hI⟩) (by rw[e0,CO,eM,eO];exact U.op) hP (AH hBC hC) g f l a1 c1 D v b gb Y c (by rw[EF,CO];exact I)
 rw[e0,EF,CO,eM]at hm;refine Kp (R:=λJ=>∃d m,(∀y,y<s.N->d y=Z y)/\PA s.N B C Z w (Bm 3 true s p (s.F.kids p)) d m J/\GJ Z [p] D g f J) w g _ (s.F.kids p).length c (H_ w g _ _ c (hm.mono ?_)) ?_
 .rintro e k hM;obtain⟨e1,d,m,T⟩:=hM.pa rfl hP j hC hCg;obtain⟨_,w0,bl0,st0,hT,H⟩:=hM;have G:=v.lt;have A:DP w0 g a1 [p].length c1 f l:=(hT.block g G (λ_ _=>CC v j (by decide))).trans v;have z:w0.ownsRow D 70 1 (.slice a1 [p].length c1) [p].length (Ad Z [p]):=hT.own b λ_ _ e=>Y e;have P:=hP.ZX j hT;have K:DP k g a1 [p].length c1 f l:=(H.turn.block g (AR G hT.size) (λi W=>by
   obtain⟨_,aa,ac,hh,_⟩:=P.dom.node i W;exact CC A hh (by decide))).trans A
  have L:k.ownsRow D 70 1 (.slice a1 [p].length c1) [p].length (Ad Z [p]):=H.turn.own z λi W=>P.Yw z (by decide) i W;exact⟨e1,d,m,T.old,T,a1,c1,l,K,hD,L⟩
 rintro k ⟨d,m,N,T,q⟩;exact hcut (Bm 3 true s p (s.F.kids p)) k d m eN eD eO ⟨h',ok'⟩ N T q
theorem KS.turn{o e:Nat}(h:KS r g o e s O w)(d:Ct F (λi=>i<s.N) s.nd (M1 r) e O M)(a:Al (λi=>i<s.N) O w M):KS r g o e {s with F:=F} O M:=by
 refine⟨d,h.rs.Y8 a,a.own h.row λi n=> ?_⟩;obtain⟨_,_,_,_,_,t,_,_⟩:=h.kno.node i n;exact Ax h.row t (by decide)
theorem KS.az{n e:Nat}(h:KS r g n e s O w)(t:e<=w.heap.size)(o:Al (λi=>i<s.N) O w M):AL e w M:=o.below t λi a=>(h.kno.node i a).1
theorem Df.cut(h:Df r s)(e:List Nat):Df r {s with F:=CB s.F e}:=by
 obtain⟨d,o⟩:=h.ok;exact⟨⟨d,Hh o e⟩,h.le,h.few,h.r2,h.op⟩
theorem Df.bS(h:Df r s)(e:List Nat):Df r {s with F:=B_ s.F e}:=by
 obtain⟨d,o⟩:=h.ok;exact⟨⟨d,Ir o e⟩,h.le,h.few,h.r2,h.op⟩
def Fe(s:bY)(x:Nat):Prop:=∃p u,s.F.par x=some p/\s.F.par p=some u/\(s.nd p).kind=3/\((s.nd p).tag.toList==[98,111,100,121])=false
def Vb(s:bY)(t:Nat->Int)(B:Nat)(kb:Nat->Nat)(xs:List Nat)(w:AB)(e:Bx)(w':AB):Prop:=
 ∃b,e= .returned (.bool b)/\(b=true->(∀x∈xs,Fe s x)/\Ct (E5 s (Cm s.F xs)).F (λi=>i<s.N) s.nd t B kb w')/\Al (λi=>i<s.N) kb w w'
theorem NJ(o:s.F.Ok (λi=>i<s.N) h)(hN:s.N<=600)(hK:Ct s.F (λi=>i<s.N) s.nd P B O w)(hBw:B<=w.heap.size)
 (xs:List Nat)(hx:∀x∈xs,x<s.N)(hl:xs.length<=200)(a:Option Ai)(c:Nat)(ho1:w.ownsRow A 57 1 (.slice a xs.length c) xs.length (Ad O xs)):
 AX AC 41 #[.slice a xs.length c] w (Vb s P B O xs w):=by
 have HX:=AA hx;have HO:=AA o;have HK:=AA hK;have HRow:Hid (∀W,Al (λi=>i<s.N) O w W->B6 W W.heap.size a (Ad O xs)):=λW hT=>by
  have:=hT.own ho1 (λi m=>by obtain⟨_,_,_,_,_,h1,_⟩:=hK.node i m;exact Ax ho1 h1 (by decide));exact Bh this
 clear hK ho1 hx o;go_enter func41,ntmps41;go_wp2;go_loopw [3,4,5,6,7] (λv3 v4 v5 v6 v7 wr=>∃(i:Nat) (a2:Option Ai) (c2:Nat),i<=xs.length/\v4= .int .i64 i/\v3= .slice a2 (Cm s.F (xs.take i)).length c2/\
  Hid (wr.ownsRow w.heap.size 57 1 (.slice a2 (Cm s.F (xs.take i)).length c2) (Cm s.F (xs.take i)).length (Ad O (Cm s.F (xs.take i))))/\Hid (AL w.heap.size w wr)/\Hid (∀x∈xs.take i,Fe s x)) (λ_ v4 _ _ _ _=>xs.length-(Aa v4).toNat)
 .exact⟨0,none,0,AY _,rfl,rfl,Aw _ _ _ _,AW _ _,λx hx=>by simp at hx⟩
 obtain⟨i,a2,c2,m,rfl,rfl,HL,HB,HU⟩:=hrel;have C:=AA (HK.o.up HB.o);have HT:Hid (Al (λi=>i<s.N) O w wr):=Al.Yq HB.o;obtain⟨d,rfl⟩:∃d:AB,d=wr:=⟨_,rfl⟩;by_cases t:i<xs.length
 .obtain⟨b,of,rfl,hbB,F⟩:=(HRow.o d HT.o).at_ (by rw[AM];omega);have g1:=F i (by rw[AM];exact t);rw[A5 t]at g1;have hxm:=HX.o _ (AD t);have T:Hid (xs.take (i+1)=xs.take i++[xs[i]]):=AF t;have q6:=C.o.ZG hxm;obtain⟨x,R⟩:∃x,x=xs[i]:=⟨_,rfl⟩;rw[<-R]at g1 q6 hxm T;cases hp:s.F.par x with
  |none=>
   rw[hp]at q6;simp only[Au,BF]at q6;clear F R;go_wp2;go_ret;exact⟨false,rfl,λh=>(by cases h),HT.o⟩
  |some p=>
   rw[hp]at q6;simp only[Au,As]at q6;have z:p<s.N:=(HO.o.dom p x hp).1;have q7:=C.o.ZG z;cases j:s.F.par p with
   |none=>
    rw[j]at q7;simp only[Au,BF]at q7;clear F R hp j;go_wp2;go_ret;exact⟨false,rfl,λh=>(by cases h),HT.o⟩
   |some u=>
    rw[j]at q7;simp only[Au,As]at q7;obtain⟨aa,ac,q1,q2,-⟩:=C.o.Z5 z;by_cases k3:(s.nd p).kind=3
    rotate_left
    .have m3:((s.nd p).kind !=3)=true:=bne_iff_ne.2 k3;clear F R hp j q2;go_wp2;go_ret;exact⟨false,rfl,λh=>(by cases h),HT.o⟩
    have m3:((s.nd p).kind !=3)=false:=(by rw[k3];rfl);obtain⟨tb,htb⟩:∃tb,((s.nd p).tag.toList==[98,111,100,121])=tb:=⟨_,rfl⟩;cases tb
    case true=>
     clear F R hp j;go_wp2;go_ret;exact⟨false,rfl,λh=>(by cases h),HT.o⟩
    have HU1:Hid (Fe s x):=⟨p,u,hp,j,k3,htb⟩;have en:=AA hp;have hLl:(Cm s.F (xs.take i)).length<=i:=(by have:=(Ec s.F (xs.take i)).2.1;simp only[At]at this;omega);have HLm:Hid (∀q∈Cm s.F (xs.take i),q<s.N):=λq M=>by
     obtain⟨y,-,e⟩:=(Ec s.F (xs.take i)).2.2 q M;exact(HO.o.dom q y e).1
    have HSm:=AA (Kx p O d);have HOt:Hid (∀k,k<s.N->k≠p->_):=λk Y hne=>C.o.other (i:=p) (k:=k) z Y hne;have HLR:Hid (B6 d d.heap.size a2 (Ad O (Cm s.F (xs.take i)))):=Bh HL.o;have HAdd:Hid (Cm s.F (xs.take (i+1))=if p∈Cm s.F (xs.take i)then Cm s.F (xs.take i)else Cm s.F (xs.take i)++[p]):=by
     rw[Hid,T.o,Nn];unfold ID;rw[en.o]
    obtain⟨L,hL⟩:∃L,L=Cm s.F (xs.take i):=⟨_,rfl⟩;rw[<-hL]at HL HLm HLR HAdd hLl|-;clear F R hp j hL;go_wp2;go_loopw [6,7] (λv6 v7 wr=>∃(k:Nat),k<=L.length/\v7= .int .i64 k/\v6= .bool (decide (p∈L.take k))/\d=wr) (λ_ v7 _=>L.length-(Aa v7).toNat)
    .exact⟨0,AY _,rfl,by simp,rfl⟩
    obtain⟨k,Y,rfl,rfl,rfl⟩:=hrel;by_cases l:k<L.length
    .obtain⟨b3,o3,rfl,hbB3,V⟩:=HLR.o.at_ (by rw[AM];omega);have g3:=V k (by rw[AM];exact l);rw[A5 l]at g3;have H:Hid (L.take (k+1)=L.take k++[L[k]]):=AF l;have hqN:=HLm.o _ (AD l);obtain⟨q,M⟩:∃q,q=L[k]:=⟨_,rfl⟩;rw[<-M]at g3 H hqN;clear V M;by_cases g:p∈L.take k
     .have HD:Hid (decide (p∈L.take (k+1))=true):=by rw[Hid,H.o];simp[g]
      rw[decide_eq_true g];clear g;go_wp2;go_roundw
      .exact⟨k+1,by omega,by go_num,by rw[HD.o],by trivial⟩
      simp[Aa];omega
     rw[decide_eq_false g];by_cases D:q=p
     .have HD:Hid (decide (p∈L.take (k+1))=true):=by rw[Hid,H.o,D];simp
      rw[D]at g3;have e1:=HSm.o;clear g D;go_wp2;go_roundw
      .exact⟨k+1,by omega,by go_num,by rw[HD.o],by trivial⟩
      simp[Aa];omega
     have HD:Hid (decide (p∈L.take (k+1))=false):=by
      rw[Hid,H.o];simp only[AV,AP,decide_eq_false_iff_not];rintro(h|h)
      .exact g h
      exact D h.symm
     have e1:=HOt.o q hqN D;clear g D;go_wp2;go_roundw
     .exact⟨k+1,by omega,by go_num,by rw[HD.o],by trivial⟩
     simp[Aa];omega
    have e:k=L.length:=(by omega);subst e;rw[AU];have HU2:Hid (∀y∈xs.take (i+1),Fe s y):=λy hy=>by
     rw[T.o]at hy;rcases AV.1 hy with h|h
     .exact HU.o y h
     rw[AP.1 h];exact HU1.o
    by_cases g:p∈L
    .have ei:Hid (Cm s.F (xs.take (i+1))=L):=by rw[Hid,HAdd.o,AJ g]
     rw[decide_eq_true g];clear g;go_wp2;go_roundw
     .exact⟨i+1,a2,c2,by omega,by go_num,by rw[ei.o],by rw[ei.o];exact HL.o,HB.o,HU2.o⟩
     simp[Aa];omega
    have ei:Hid (Cm s.F (xs.take (i+1))=L++[p]):=(by rw[Hid,HAdd.o,AI g]);rw[decide_eq_false g];clear g;have HZr:Hid (B6 (d.alloc (.cells #[.pointer (some ⟨O p,0,none⟩)] 57)) (d.alloc (.cells #[.pointer (some ⟨O p,0,none⟩)] 57)).heap.size (some ⟨d.heap.size,0,none⟩) (Ad O [p])):=E8 d O p _ rfl;have et:Hid ((d.alloc (.cells #[.pointer (some ⟨O p,0,none⟩)] 57)).ownsRow w.heap.size 57 1 (.slice a2 L.length c2) L.length (Ad O L)):=HL.o.alloc _;have ee:Hid (w.heap.size<=(d.alloc (.cells #[.pointer (some ⟨O p,0,none⟩)] 57)).heap.size):=(by rw[Hid];simp;have:=HB.o.size;omega);go_wp2_with(at_builtin;refine Az _ rfl (.tmp 69) (.tmp 71) rfl O w.heap.size (.slice a2 L.length c2) L rfl et.o (some ⟨d.heap.size,0,none⟩) 1 1 [p] rfl rfl HZr.o (by simp only[Ak,Ar];omega) ee.o ?_);intro a5 c5 w6 eh hg2 hat2;have HB6:Hid (AL w.heap.size w w6):=(HB.o.alloc HB.o.size _).grown hg2 ee.o (λq M=>(HL.o.lt q M).1);have HL6:Hid (w6.ownsRow w.heap.size 57 1 (.slice a5 (Cm s.F (xs.take (i+1))).length c5) (Cm s.F (xs.take (i+1))).length (Ad O (Cm s.F (xs.take (i+1))))):=(by rw[Hid,ei.o];simpa using eh);have HLen:Hid ((Cm s.F (xs.take (i+1))).length=(L++[p]).length):=(by rw[Hid,ei.o]);clear eh hg2 hat2;go_wp2;go_roundw
    .exact⟨i+1,a5,c5,by omega,by go_num,by rw[HLen.o];simp,HL6.o,HB6.o,HU2.o⟩
    simp[Aa];omega
 have e:i=xs.length:=by omega
 subst e;rw[AU]at HL HU|-;obtain⟨pn,pl2,pm⟩:=Ec s.F xs;have HUw:=HU;have S:∀q∈Cm s.F xs,s.F.par q≠none:=λq M=>by
  obtain⟨x,hxm,e⟩:=pm q M;obtain⟨p,u,e1,e2,-⟩:=HUw.o x hxm;rw[e]at e1;cases e1
  rw[e2];simp
 have z:∀q∈Cm s.F xs,q<s.N:=λq M=>by
  obtain⟨x,-,e⟩:=pm q M;exact(HO.o.dom q x e).1
 obtain⟨r,hps⟩:∃r,r=Cm s.F xs:=⟨_,rfl⟩;rw[<-hps]at HL pn pl2 S z|-;have HPs:=AA hps;have HKeep:Hid (∀i,i<=r.length->_):=λi m=>Hu HO.o r pn S i m;have HPn:=AA z;have hpl:r.length<=200:=by omega
 have HNm:Hid (∀i (m:i<r.length),r[i]∉r.take i):=λi m g=>by
  rw[<-Av i r,Ck m]at pn;exact(BA.1 pn).2.2 _ g _ Af rfl
 have en:=AA S;have HLR:Hid (∀W,Al (λi=>i<s.N) O d W->B6 W W.heap.size a2 (Ad O r)):=λW hT=>by
  have:=hT.own HL.o (λi m=>by obtain⟨_,_,_,_,_,h1,_⟩:=C.o.node i m;exact Ax HL.o h1 (by decide));exact Bh this
 have HBW:Hid (B<=d.heap.size):=AH hBw HB.o.size;clear pn pl2 pm S z hps;go_wp2;go_loopw [8,9,10,11,12,13] (λv8 v9 v10 v11 v12 v13 wr=>∃(i:Nat),i<=r.length/\v8= .int .i64 i/\Ct (E5 s (r.take i)).F (λi=>i<s.N) s.nd P B O wr/\Al (λi=>i<s.N) O d wr) (λv8 _ _ _ _ _ _=>r.length-(Aa v8).toNat)
 .exact⟨0,AY _,rfl,C.o,Al.refl _ _ _⟩
 obtain⟨i,m,rfl,f,Q⟩:=hrel;obtain⟨W2,rfl⟩:∃W2:AB,W2=wr:=⟨_,rfl⟩;by_cases t:i<r.length
 .obtain⟨m1,m2,m3,m4,m5⟩:=HKeep.o i m;obtain⟨b,of,rfl,hbB,F⟩:=(HLR.o W2 Q).at_ (by rw[AM];omega);have g1:=F i (by rw[AM];exact t);rw[A5 t]at g1;have G:=HPn.o _ (AD t);have hpn:=m5 r[i] (HNm.o i t) (en.o _ (AD t));have T:Hid (E5 s (r.take (i+1))=I9 (E5 s (r.take i)) r[i]):=by rw[Hid,AF t,LC]
  obtain⟨p,hpd⟩:∃p,p=r[i]:=⟨_,rfl⟩;rw[<-hpd]at g1 G hpn T;obtain⟨s1,hs1⟩:∃s1,s1=E5 s (r.take i):=⟨_,rfl⟩;rw[<-hs1]at m1 hpn T f;cases j:s1.F.par p with
  |none=>exact absurd j hpn
  |some u=>
   obtain⟨l1,l2,Y⟩:=D3 ((m1.mem u p).2 j);have huN:u<s.N:=(m1.dom u p j).1;have q6:=f.ZG G;rw[j]at q6;simp only[Au,As]at q6;have hkl:∀q,(s1.F.kids q).length<=600:=λq=>by have:=m1.Yu (N:=s.N) (λi m=>m) q;omega
   have hll:l1.length<=600:=by have:=hkl u;rw[Y]at this;simp at this;omega
   have HPl:Hid (∀n,AX AC 63 #[.pointer (some ⟨O p,0,none⟩)] (W2.drewN n) λe w'=>e= .returned (.int .i64 l1.length)/\w'=W2.drewN n):=λn=>(Ed m1 (f.up (BC (AW _ _) n)) p u j l1 l2 Y (by have:=hkl u;omega)).mono (λe w' hh=>⟨hh.1,hh.2.symm⟩);have HDr:Hid (∀n,Ct s1.F (λi=>i<s.N) s.nd P B O (W2.drewN n)/\Al (λi=>i<s.N) O d (W2.drewN n)):=λn=>⟨f.up (BC (AW _ _) n),Q.trans (Al.Yq (BC (AW _ _) n))⟩;have I:=AA m1;have ea:=AA j;have eo:=AA Y;have HKl:=AA hkl;clear F hpd hs1 m1 m2 m3 m4 m5 hpn f Q j Y hkl;go_wp2_with fail;go_quiet(first|(go_at_call 63;exact(HPl.o _).mono (λ_ _ hh=>⟨hh.1,_,hh.2⟩)));obtain⟨X,hTd⟩:=HDr.o nq;obtain⟨U,hU⟩:∃U,U=W2.drewN nq:=⟨_,rfl⟩;rw[<-hU]at X hTd|-;clear hU q6 g1 HPl HDr;obtain⟨-,-,-,ka,kc,c7,hkc,hkr⟩:=X.cells G;have hbA:AL U.heap.size U (U.alloc (.cells #[] 57)):=Ac;have HZr:Hid (B6 (U.alloc (.cells #[] 57)) (U.alloc (.cells #[] 57)).heap.size ka (Ad O (s1.F.kids p))):=(Bh hkr).up hbA;have et:Hid ((U.alloc (.cells #[] 57)).ownsRow U.heap.size 57 1 (.slice (some ⟨U.heap.size,0,none⟩) 0 0) ([]:List Nat).length (Ad O [])):=De U 57 1;have ee:Hid (U.heap.size<=(U.alloc (.cells #[] 57)).heap.size):=hbA.size;have HKU:=AA X;have HTU:=AA hTd;have HBU:Hid (B<=U.heap.size):=AH HBW.o hTd.size;have hKl:=HKl.o p;have c8:=(hbA.cell (p:=⟨O p,7,none⟩) (X.lt G)).trans c7;clear hkr hkc X hTd hbA;go_wp2_with(at_builtin;refine Az _ rfl (.tmp 89) (.tmp 93) rfl O U.heap.size (.slice (some ⟨U.heap.size,0,none⟩) 0 0) [] rfl et.o ka (s1.F.kids p).length kc (s1.F.kids p) rfl rfl HZr.o (by simp only[Ar];omega) ee.o ?_);intro a6 c6 w6 es hg6 hat6;have hb6:AL U.heap.size U w6:=((AW _ _).alloc (AG _) _).grown hg6 ee.o (λq M=>(et.o.lt q M).1);have HK6:=AA (HKU.o.up hb6);have HT6:Hid (Al (λi=>i<s.N) O d w6):=HTU.o.trans (Al.Yq hb6);have HBw6:Hid (B<=w6.heap.size):=AH HBU.o hb6.size;have HRk:Hid (∀W,Al (λi=>i<s.N) O w6 W->B6 W W.heap.size a6 (Ad O (s1.F.kids p))):=λW hT=>by
    have h0:w6.ownsRow U.heap.size 57 1 (.slice a6 (s1.F.kids p).length c6) (s1.F.kids p).length (Ad O (s1.F.kids p)):=(by simpa using es);have:=hT.own h0 (λi m=>by obtain⟨_,_,_,_,_,h1,_⟩:=HK6.o.node i m;exact Ax h0 h1 (by decide));exact Bh this
   have HZ0:Hid (s1.F.Y' u p l1 l2 (s1.F.kids p) 0=s1.F):=S' I.o ea.o eo.o;have HOk:Hid (∀k,(s1.F.Y' u p l1 l2 (s1.F.kids p) k).Ok (λi=>i<s.N) h):=λk=>Rv I.o ea.o eo.o k;have HStp:Hid (∀k (Y:k<(s1.F.kids p).length),_):=λk Y=>S_ I.o ea.o eo.o Y;have HNe:Hid (∀c∈s1.F.kids p,c<s.N/\u≠c):=λc F=>⟨(I.o.dom p c ((I.o.mem p c).1 F)).2,λe=>(JX I.o ea.o eo.o F).2.2.2.2 e.symm⟩;have HEq:Hid ((I9 s1 p).F=(s1.F.Y' u p l1 l2 (s1.F.kids p) (s1.F.kids p).length).cut p):=by rw[Hid,Ru I.o ea.o eo.o]
   obtain⟨K,hK⟩:∃K,K=s1.F.kids p:=⟨_,rfl⟩;rw[<-hK]at HRk HZ0 HOk HStp HNe HEq hKl|-;have HKn:Hid (∀k q,((s1.F.Y' u p l1 l2 K k).kids q).length<=600):=λk q=>by have:=(HOk.o k).Yu (N:=s.N) (λi m=>m) q;omega
   clear es hg6 hat6 hb6 HZr et c7 c8 hK;go_wp2;go_loopw [13] (λv wr=>∃k:Nat,k<=K.length/\v= .int .i64 k/\Ct (s1.F.Y' u p l1 l2 K k) (λi=>i<s.N) s.nd P B O wr/\Al (λi=>i<s.N) O w6 wr) (λv _=>K.length-(Aa v).toNat)
   .exact⟨0,AY _,rfl,by rw[HZ0.o];exact HK6.o,Al.refl _ _ _⟩
   obtain⟨k,Y,rfl,hK3,E⟩:=hrel;by_cases l:k<K.length
   .obtain⟨b3,o3,rfl,hbB3,V⟩:=(HRk.o wr E).at_ (by rw[AM];omega);have g3:=V k (by rw[AM];exact l);rw[A5 l]at g3;obtain⟨e1,e2⟩:=HStp.o k l;obtain⟨y1,y2⟩:=HNe.o K[k] (AD l);have hP2:=Pf (HOk.o k) hK3 (AH HBw6.o E.size) u K[k] huN y1 y2 (l1++K.take k) (p::l2) e1 (λq=>by have:=HKn.o k q;omega) (l1.length+k) (by rw[AN,At];omega);have er:(((l1.length+k:Nat)):Int)=(l1.length:Int)+(k:Int):=by omega
    rw[er]at hP2;have HP2:=AA hP2;have HE2:=AA e2;have HT3:=AA E;obtain⟨y,hy⟩:∃y,y=K[k]:=⟨_,rfl⟩;rw[<-hy]at g3 HP2 HE2;clear V hy hK3 E e1 e2 y1 y2 hP2 er;go_wp2_with fail;refine HP2.o.mono ?_;rintro e w7 ⟨rfl,Z,J⟩;have HK4:Hid (Ct (s1.F.Y' u p l1 l2 K (k+1)) (λi=>i<s.N) s.nd P B O w7):=(by rw[Hid,<-HE2.o];exact Z);have HT4:=AA (HT3.o.trans J);clear Z J g3;go_wp2;go_roundw
    .exact⟨k+1,by omega,by go_num,HK4.o,HT4.o⟩
    simp[Aa];omega
   have e:k=K.length:=by omega
   subst e;have HCut:=AA (L3 (HOk.o K.length) hK3 (AH HBw6.o E.size) p G (λq=>by have:=HKn.o K.length q;omega));have HT3:=AA E;clear hK3 E;go_wp2_with fail;refine HCut.o.mono ?_;rintro e w7 ⟨rfl,Z,J⟩;have HK4:Hid (Ct (E5 s (r.take (i+1))).F (λi=>i<s.N) s.nd P B O w7):=by rw[Hid,T.o,HEq.o];exact Z
   have HT4:=AA (HT6.o.trans (HT3.o.trans J));clear Z J;go_wp2;go_roundw
   .exact⟨i+1,by omega,by go_num,HK4.o,HT4.o⟩
   simp[Aa];omega
 have e:i=r.length:=by omega
 subst e;rw[AU]at f;have HE:Hid (Ct (E5 s (Cm s.F xs)).F (λi=>i<s.N) s.nd P B O W2):=by rw[Hid,<-HPs.o];exact f
 have HTe:Hid (Al (λi=>i<s.N) O w W2):=HT.o.trans Q;clear f Q;go_wp2;go_ret;exact⟨true,rfl,λ_=>⟨HU.o,HE.o⟩,HTe.o⟩
theorem TA(T:Df r s)(E:∀i,i<s.N->(CU (s.nd i)).length<=2000)(A:p<s.N)(R:s.F.par p≠none)(Q:(s.nd p).kind=3)(hb:((s.nd p).tag.toList==[98,111,100,121])=false){C:Nat}(q:Br s.F (λi=>i<s.N) s.nd B Z V w)(L:B<=C)(J:C<=w.heap.size)
 (g:Nat)(y d a1:Option Ai)(c1 D:Nat)(u:DP w g a1 1 c1 y d)(N:D<=g)(t:w.ownsRow D 70 1 (.slice a1 1 c1) 1 (Ad Z [p]))(k:Nat):
 AX AC 118 #[.int .i64 k,.pointer (some ⟨g,0,none⟩)] w (λe w'=>e= .returned (.tuple #[])/\Ew s.N B C Z w (I9 s p) w'):=by
 obtain⟨h0,o⟩:=T.ok;have m:B6 w w.heap.size a1 (Ad Z [p]):=by
  obtain⟨_,_,hv,_,m⟩:=B6.own t;cases hv
  exact m
 have HC:=AA (KE o T.few q p A D g y ⟨a1,c1,d,u,N,t⟩);have HR:=AA (λ(v:AB) (h:AL w.heap.size w v) (a:Option Ai) (c I:Nat) (O:v.cell? ⟨I,0,none⟩=some (.slice a (s.F.kids p).length c)) (K:v.ownsRow w.heap.size 70 1 (.slice a (s.F.kids p).length c) (s.F.kids p).length (Ad Z (s.F.kids p)))=>by
  obtain⟨q1,q2⟩:=Pn (xs:=[p]) u N t h;exact IB v g I a (s.F.kids p).length c O (WH T E A R (q.kept h) L (AH J h.size) g y d a1 c1 D q1 N q2 a c (λgb e=>by
   subst e;have h1:=(K.lt gb rfl).1;refine⟨by omega,λe=> ?_⟩;have h2:=(t.lt gb e).2;omega) K))
 have F:=AA (PA.refl (n:=s.N) (B:=B) (C:=C) rfl q);obtain⟨z0,-,-⟩:=u.cells;obtain⟨b,o2,rfl,hbB,O⟩:=m.at_ (by simp[Ad]);have g1:=O 0 (by simp[Ad]);simp only[Ad,Bz,List.map_nil,List.getElem_cons_zero,Dj]at g1;obtain⟨-,-,-,-,-,-,-,S,-⟩:=q.dom.cells (i:=p) A;have f:(V p).dat=(s.nd p).tag:=by
  rw[(q.self p A).dat];unfold PE;rw[AI (by rw[Q];decide),AI (by rw[Q];decide)]
 rw[f]at S;obtain⟨G,j⟩:∃G,G=(s.nd p).tag:=⟨_,rfl⟩;rw[<-j]at S hb;obtain⟨P,z⟩:∃P,P=Z p:=⟨_,rfl⟩;rw[<-z]at g1 S;clear T E q u t m O f j z o;go_enter func118,ntmps118;go_wp2_with fail;refine HC.o.mono ?_;rintro e v ⟨I,rfl,⟨a3,c3,Y,x,hg3,l,-⟩,h⟩;have M:=AA (HR.o v h a3 c3 I x.cells.1 l);have W:=AA h;clear x l h HR;go_wp2_with fail;refine M.o.mono ?_;rintro e w3 ⟨rfl,U,H,X⟩;have H3:Hid (Ew s.N B C Z w (I9 s p) w3):=⟨U,H,(F.o.up W.o J).trans X (AG _)⟩;clear X;go_wp2_with fail
 go_end0;exact⟨rfl,H3.o⟩
theorem PA.low{C a:Nat}{t:Nat->Nat}(h:PA n B a Z w s t W wr)(r:C<=a):PA n B C Z w s t W wr:=
 ⟨h.prog,h.old,λy l d=>AH r (h.new y l d),⟨h.turn.os,h.turn.tape,h.turn.output,h.turn.size,λb u i=>h.turn.block b (by omega) i⟩,λy o b e=>(h.rw y o b e).imp id λh=>by omega⟩
theorem Q_(t:Df r s)(hx:∀x∈Y,Fe s x):∀k,k<=(Cm s.F Y).length->Df r (E5 s ((Cm s.F Y).take k))/\(E5 s ((Cm s.F Y).take k)).N=s.N/\(E5 s ((Cm s.F Y).take k)).nd=s.nd/\∀(h:k<(Cm s.F Y).length),(Cm s.F Y)[k]<s.N/\(E5 s ((Cm s.F Y).take k)).F.par (Cm s.F Y)[k]≠none/\(s.nd (Cm s.F Y)[k]).kind=3/\((s.nd (Cm s.F Y)[k]).tag.toList==[98,111,100,121])=false:=by
 obtain⟨E,o⟩:=t.ok;obtain⟨m,-,n⟩:=Ec s.F Y;have c:∀p∈Cm s.F Y,p<s.N/\s.F.par p≠none/\(s.nd p).kind=3/\((s.nd p).tag.toList==[98,111,100,121])=false:=λp l=>by
  obtain⟨x,d,a⟩:=n p l;obtain⟨I,u,e1,e2,A,T⟩:=hx x d;rw[a]at e1;injection e1 with e1;subst e1;exact⟨(o.dom _ _ a).1,by rw[e2];simp,A,T⟩
 intro k z;obtain⟨q,i,v,b,k5⟩:=Hu o (Cm s.F Y) m (λp h=>(c p h).2.1) k z;have O:=t.le;refine⟨⟨⟨E,by rw[i];exact q⟩,by rw[i];exact t.le,by rw[i];exact t.few,t.r2,by rw[b];exact t.op⟩,i,v,λh=> ?_⟩;obtain⟨g,y,w,f⟩:=c _ (AD h);refine⟨g,k5 _ (λn=> ?_) y,w,f⟩;obtain⟨j,N,e⟩:=C7.1 n;have:=(C0 m).1 e;omega
theorem YD(hs:Df r s)(L:∀i,i<s.N->G' (s.nd i))(M:∀i,i<s.N->(CU (s.nd i)).length<=2000)(hxl:Y.length<=100000)(hx:∀x∈Y,x<s.N/\Fe s x){C:Nat}(J:Br s.F (λi=>i<s.N) s.nd B Z V w)(hBC:B<=C)(hC:C<=w.heap.size)(D g:Nat)(a:Option Ai)(b:GJ Z Y D g a w):
 AX AC 91 #[.pointer (some ⟨g,0,none⟩)] w (Bk g (Ew s.N B C Z w (E5 s (Cm s.F Y)))):=by
 obtain⟨h0,o⟩:=hs.ok;have m:=Q_ hs (λx h=>(hx x h).2);obtain⟨-,hpl,-⟩:=Ec s.F Y;have v:=AA (Po o L J Y hxl (λx h=>by
  obtain⟨p,u,e1,e2,e3,e4⟩:=(hx x h).2;exact⟨(hx x h).1,p,e1,e3⟩) D g a b)
 obtain⟨t,R⟩:∃t,t=Cm s.F Y:=⟨_,rfl⟩;rw[<-R]at v m hpl|-;have d:Hid (∀l y,Fw Z t w.heap.size y a l->AL w.heap.size w l->AX AC 117 #[.pointer (some ⟨y,0,none⟩),.func (.func 118) #[] #[]] l (Bk y (Ew s.N B C Z w (E5 s t)))):=λl y O z=>by
  obtain⟨a1,c1,F,hsb,hg2,G,-⟩:=O;have hP1:=J.kept z;have hC1:C<=l.heap.size:=AH hC z.size;have P:PA s.N B C Z w s Z V l:=(PA.refl (n:=s.N) rfl J).up z hC;refine(Ts (I:=λk W=>∃f j,PA s.N B C Z w (E5 s (t.take k)) f j W/\DP W y a1 t.length c1 a F/\W.ownsRow w.heap.size 70 1 (.slice a1 t.length c1) t.length (Ad Z t)) y t Z a1 a c1 (by omega) l ⟨Z,V,by rw[BM];exact P,hsb,G⟩ ?_ ?_).mono ?_
  .rintro k W ⟨f,j,X,K,q2⟩;refine⟨K.cells.1,K.cells.2.1,?_⟩;obtain⟨_,_,hv,_,hrs⟩:=B6.own q2;cases hv
   exact hrs
  .rintro k hk W W1 ⟨f,j,X,K,q2⟩ hs1 ho1 Q;obtain⟨f1,f2,f3,f4⟩:=m k (Ca hk);obtain⟨p1,p2,p3,p4⟩:=f4 hk;have E:C<=W.heap.size:=AH hC X.turn.size;have hA1:=X.up Q E;obtain⟨S,N⟩:=Pn (D:=w.heap.size) K hg2 q2 Q;have ep:Ad f [t[k]]=Ad Z [t[k]]:=by
    unfold Ad;simp[X.old _ p1]
   refine(TA f1 (by rw[f2,f3];exact M) (p:=t[k]) (by rw[f2];exact p1) p2 (by rw[f3];exact p3) (by rw[f3];exact p4) hA1.prog (AH hBC (AH E Q.size)) (AG W1.heap.size) (W.heap.size+1) a none (some ⟨W.heap.size,0,none⟩) 1 W.heap.size hs1 (Nat.le_succ _) (by rw[ep];exact ho1) k).mono ?_;rintro e w3 ⟨rfl,T,q,c⟩;have A:E5 s (t.take (k+1))=I9 (E5 s (t.take k)) t[k]:=by
    rw[AF hk,LC]
   refine⟨rfl,T,q,?_,?_,?_⟩
   .rw[A];exact hA1.trans (c.low (AH E Q.size)) (by rw[f2];exact AG _)
   .exact c.other (s0:=E5 s (t.take k)) hA1.prog S (by decide) (by decide) S.lt
   exact c.own (s0:=E5 s (t.take k)) hA1.prog N (by decide) (by decide) (λgg hh=>(N.lt gg hh).2)
  rintro e w3 ⟨rfl,T,q,c,-,-⟩;rw[AU]at c;exact⟨rfl,T,q,c⟩
 have HX:=AA m;clear hs L M hx J b m o R;go_enter func91,ntmps91;go_wp2_with fail;refine v.o.mono ?_;rintro e l ⟨y,rfl,H,U⟩;have HE:=AA (d.o l y H U);clear H U d;go_wp2_with fail;refine HE.o.mono ?_;rintro e w3 ⟨rfl,c⟩;have H3:=AA c;clear c;go_wp2;go_ret;exact⟨rfl,H3.o⟩
theorem Vl{z y:Nat}(u:(F.cut x).Up z y):F.Up z y:=by
 induction u with
 |self=>exact .self
 | @step y p e _ t=>
   refine .step ?_ t;change (if y=x then none else F.par y)=some p at e;split at e
   .cases e
   exact e
theorem PW.up(H:PW n B Z w s C W wr)(e:AL wr.heap.size wr M):PW n B Z w s C W M:=⟨H.prog.kept e,H.old,H.new,H.turn.trans (Al.Yq e),H.rw.trans (Lm.Yq H.prog e) H.turn.size⟩
theorem PW.trans{n2:Nat}{s2:bY}{t:Nat->Nat}{e:Nat->Dn}(H:PW n B Z w s C W wr)(l:n<=n2)(d:n2<=s.N)(K:PW n2 B C wr s2 t e M)(o:s.N=n2):PW n B Z w s2 t e M:=by
 subst o;refine⟨K.prog,λy a=>(K.old y (by omega)).trans (H.old y a),λy r i=> ?_,GR H.turn K.turn H.old H.new,H.rw.trans K.rw H.turn.size⟩;rcases Be y s.N with h|h
 .rw[K.old y h];exact H.new y r h
 exact AH H.turn.size (K.new y h i)
theorem OQ:∀(ws:List Nat) (s:bY),(Ap true s ws).op=s.op:=by
 intro ws;induction ws with
 |nil=>intro s;rfl
 |cons a ws e=>intro s;exact e (s.cut a)
theorem We(E:Df r s)(g:s.F.Ok (λi=>i<s.N) D)(d:∀i,i<s.N->D i<=600){w:Nat}(P:J1 s I w)(v:(C5 s (I.headD 0) w).op=false):
 ∃h p,Ym s I w (EU s (I.headD 0) w) ((C5 s (I.headD 0) w).cut (I.headD 0)) h/\(C5 s (I.headD 0) w).F.Ok (λi=>i<(C5 s (I.headD 0) w).N) h/\(C5 s (I.headD 0) w).F.par (I.headD 0)=some p/\Bm 1 true ((C5 s (I.headD 0) w).cut (I.headD 0)) (EU s (I.headD 0) w) I=GO s I w:=by
 have a:=EL P.ne;obtain⟨p,t⟩:=Option.ne_none_iff_exists'.1 (P.par _ a);obtain⟨h,T⟩:=LF E g d P a t v;obtain⟨H,j,q,S,N⟩:=I_ E g d P a t;have l:I.headD 0<s.N:=P.lt _ a;have U:=(g.dom _ _ t).1;have O:Bm 1 true ((C5 s (I.headD 0) w).cut (I.headD 0)) (EU s (I.headD 0) w) I=GO s I w:=by
  have e1:Ap true ((C5 s (I.headD 0) w).cut (I.headD 0)) I=Ap true (C5 s (I.headD 0) w) I:=by
   have k:=P.ne;cases I with
   |nil=>exact absurd rfl k
   |cons f r=>
    show r.foldl _ (((C5 s f w).cut f).cut f)=r.foldl _ ((C5 s f w).cut f);have e2:((C5 s f w).cut f).cut f=(C5 s f w).cut f:=by
     show{(C5 s f w).cut f with F:=((C5 s f w).F.cut f).cut f}=_;have ok1:((C5 s f w).F.cut f).Ok (λi=>i<(C5 s f w).N) h:=T.inv.ok.cut f;rw[Fo.Y0 ok1 (show(if f=f then none else _)=none from AJ rfl)];rfl
    rw[e2]
  unfold GO Bm;rw[e1];rfl
 obtain⟨s1,o⟩:∃s1,s1=C5 s (I.headD 0) w:=⟨_,rfl⟩;obtain⟨f,A⟩:∃f,f=I.headD 0:=⟨_,rfl⟩;rw[<-o,<-A]at T O|-;rw[<-o]at H j q S N;rw[<-A]at l t a;have n:s1.F.par f=some p:=(j f l).trans t;refine⟨h,p,⟨?_,T.hr,T.hx,T.tn,⟨T.inv.ok.cut f,AG _,λ_ _ _ _=>⟨rfl,rfl⟩,λx hx y b u=>T.inv.up x hx y b (Vl u),λe=>absurd e (by decide),λy b=>⟨y,b,rfl⟩⟩,T.nds,T.le,T.ge⟩,T.inv.ok,n,O⟩;refine(JG (F:=s1.F) (F2:=(s1.cut f).F) (nd:=s1.nd) (nd2:=s1.nd) (λp c=>(T.inv.ok.mem p c).1) 600 s.N (λz u=> ?_) (λ_ _=>rfl)).trans T.inn;refine List.filter_eq_self.2 λc R=> ?_;have m:=(T.inv.ok.mem z c).1 R;by_cases e:c=f
 .subst e;rw[n]at m;cases m;have C:=T.inv.ok.ht _ _ q;rcases u.ht T.inv.ok with L|L
  .omega
  omega
 simp[e]
theorem Lx(hs:Df r s)(hal:∀i,i<s.N->(CU (s.nd i)).length<=2000)(hnd:∀i,i<s.N->G' (s.nd i)){wi:Nat}(P:J1 s I wi)(W:(C5 s (I.headD 0) wi).op=false)(hP:Br (s.F) (λi=>i<s.N) (s.nd) B Z V w)(hBw:B<=w.heap.size)
 (C g:Nat)(D:Option Ai)(hsel:GJ Z I C g D w):
 AX AC 122 #[.pointer (some ⟨g,0,none⟩),.pointer (some ⟨Z wi,0,none⟩)] w (N6 s.N B Z g (GO s I wi) w):=by
 obtain⟨h0,o0,hl0⟩:=hs.ZP;obtain⟨a1,c1,prev,F,hCg,hown⟩:=hsel;obtain⟨z0,zd,-⟩:=F.cells;have hle:=hs.few;have hne:=P.ne;have hpl:0<I.length:=Bg.2 hne;have M:∀x∈I,x<s.N:=P.lt;have hxl:I.length<=600:=by have:=BH P.nodup M;omega
 have hwn:wi<s.N:=P.wi;have hm0:=EL hne;have hx0:I[0]'hpl=I.headD 0:=by
  cases I with
  |nil=>exact absurd rfl hne
  |cons a l=>rfl
 have hSz:=Gl g a1 I.length c1 w z0;have hcop:(CZ 600 s wi).op=false:=W;have hCl:=GQ 600 o0 hP hBw hwn (hl0 _ hwn) hcop hal;have HPW0:PW s.N B Z w s Z V w:=⟨hP,λ_ _=>rfl,λy h1 h2=>absurd (show y<s.N from h2) (by omega),Al.refl _ _ _,Lm.refl _ _ _⟩;have HSz:=AA hSz;have HCl:=AA hCl;have HPW:=AA HPW0;have J:∀{C3 e size m:Nat} {v:AS} {xs:List AS},w.ownsRow C3 e size v m xs->e=70->∀t3 q k wr,PW s.N B Z w t3 q k wr->wr.ownsRow C3 e size v m xs:=λho he t3 q k wr H=>Al.own H.turn ho (λi hi=>by obtain⟨_,_,_,hhn,_⟩:=hP.dom.node i hi;exact Ax ho hhn (by rw[he];decide));have X:=AA (J hown rfl);have G:Hid (∀t3 q k wr,PW s.N B Z w t3 q k wr->wr.cell? ⟨g,0,none⟩=some (.slice a1 I.length c1)/\wr.cell? ⟨g,1,none⟩=some (.pointer D)):=λt3 q k wr H=>by
  have hb:=H.turn.block g F.lt (λi hi e=>by obtain⟨_,_,_,hhn,_⟩:=hP.dom.node i hi;exact CC F hhn (by decide) e);have hsb2:DP wr g a1 I.length c1 D prev:=hb.trans F;exact⟨hsb2.cells.1,hsb2.cells.2.1⟩
 have hput:=VB hs o0 hl0 P hm0;obtain⟨hQ,pq,TQ,okQ,j,Y⟩:=We hs o0 hl0 P W;have HL6:Hid (((C5 s (I.headD 0) wi).cut (I.headD 0)).N<=600):=(Hk [wi] false s hs.few W).2;have HP:=AA P;have HHop:=AA W;have HNd:=AA hnd;have HAl:=AA hal;have ez:((I.length:Int)==0)=false:=CY.2 (by omega);clear J F hown hSz hCl HPW0 P W hnd hal hcop hP hs hl0 o0;go_enter func122,ntmps122;go_wp2_with fail;refine HSz.o.mono ?_;rintro e w1 ⟨rfl,rfl⟩;go_wp2_with fail;refine HCl.o.mono ?_;intro e w2 hp2;obtain⟨t,st2,rfl,A⟩:=HPW.o.clone (AG _) hp2;obtain⟨y0,yd⟩:=G.o _ _ _ _ A;obtain⟨b,o,hbo,-,hc⟩:=(Bh (X.o _ _ _ _ A)).at_ (by rw[AM];omega);cases hbo
 have g1:=hc 0 (by rw[AM];exact hpl);rw[A5 hpl,hx0,Dj,<-A.old _ (M _ hm0)]at g1;obtain⟨hh,p,l1,l3,p1,p2,p3,p4,p5,p6,p7,p8,p9⟩:=hput;obtain⟨-,c0,-⟩:=A.prog.dom.cells p2;rw[(A.prog.fit _ p2).par,p8]at c0;simp only[Au,As]at c0;have HIns:Hid (AX AC 112 #[.pointer (some ⟨t p,0,none⟩),.pointer (some ⟨t s.N,0,none⟩),.pointer (some ⟨t (I.headD 0),0,none⟩)] w2 λe w3=>e= .returned (.tuple #[])/\∃u,PW s.N B Z w1 (C5 s (I.headD 0) wi) t u w3):=by
  have:=G1 p1 w2 B t st2 A.prog p s.N p5 p3 p4 p6 l1 (I.headD 0::l3) p7;refine this.mono λe w3 hp3=> ?_;obtain⟨e1,u,H3⟩:=A.put hp3;rw[p9]at H3;exact⟨e1,u,H3⟩
 have hfN:I.headD 0<(C5 s (I.headD 0) wi).N:=by have:=TQ.ge;have:=M _ hm0;show _<((C5 s (I.headD 0) wi).cut (I.headD 0)).N;omega
 obtain⟨f,hf⟩:∃f,f=I.headD 0:=⟨_,rfl⟩;rw[<-hf]at g1 c0 HIns;have HRem:Hid (∀u w3,PW s.N B Z w1 (C5 s f wi) t u w3->w3.cell? ⟨t f,0,none⟩=some (.pointer (some ⟨t pq,0,none⟩))/\AX AC 115 #[.pointer (some ⟨t pq,0,none⟩),.pointer (some ⟨t f,0,none⟩)] w3 λe w4=>e= .returned (.tuple #[])/\∃st4,PW s.N B Z w1 ((C5 s f wi).cut f) t st4 w4):=by
  intro u w3 H3;rw[<-hf]at okQ j hfN;obtain⟨-,d0,-⟩:=H3.prog.dom.cells hfN;rw[(H3.prog.fit _ hfN).par,j]at d0;refine⟨d0,(Ee okQ w3 B t u H3.prog pq f j).mono λe w4 hp4=> ?_⟩;exact H3.put hp4
 have HF:=AA hf;rw[<-hf]at TQ Y;have h:=AA TQ;have K:=AA Y;clear hp2 hc A p1 p2 p3 p4 p5 p6 p7 p8 p9 okQ j hfN hm0 hx0 TQ Y hf;go_wp2_with fail;refine HIns.o.mono ?_;rintro e w3 ⟨rfl,u,hH3⟩;obtain⟨d0,hRem⟩:=HRem.o u w3 hH3;have HRm:=AA hRem;clear hRem hH3 c0 g1 y0 yd;go_wp2_with fail;refine HRm.o.mono ?_;rintro e w4 ⟨rfl,st4,S⟩;obtain⟨y0,yd⟩:=G.o _ _ _ _ S;obtain⟨s2,hs2⟩:∃s2,s2=(C5 s f wi).cut f:=⟨_,rfl⟩;obtain⟨tq,hto⟩:∃tq,tq=EU s f wi:=⟨_,rfl⟩;have HS2:=AA hs2;rw[<-HF.o,<-hs2]at HL6;rw[<-hs2]at S h K;rw[<-hto]at h K;have HNd2:Hid (∀i,i<s2.N->G' (s2.nd i)):=λi hi=>by obtain⟨z,hz,e⟩:=h.o.nds i hi;rw[e];exact HNd.o z hz
 have HFe:Hid (∀y,y<s2.N->AX AC 139 #[.pointer (some ⟨t y,0,none⟩)] w4 λe w'=>e= .returned (Au t (H9 s2.F s2.nd y).head?)/\w'=w4):=λy hy=>PI h.o.inv.ok HNd2.o S.prog y hy;have HInj:Hid (∀y,y<s2.N->NB (λi=>i<s2.N) t hQ (.pointer (some ⟨t y,0,none⟩))=hQ y+1):=λy hy=>Jo S.prog.dom.inj hQ hy;have HF0:=AA (HFe.o s.N h.o.ge);have T:Hid (II s2.F s2.nd 600 s.N=some tq/\hQ s.N<=600/\s.N<s2.N):=⟨h.o.inn,h.o.hr,h.o.ge⟩;have HUp:Hid (∀y c,c∈s2.F.kids y->c<s2.N/\hQ c<hQ y):=λy c hc=>⟨(h.o.inv.ok.dom _ _ ((h.o.inv.ok.mem y c).1 hc)).2,h.o.inv.ok.ht _ _ ((h.o.inv.ok.mem y c).1 hc)⟩;have HH4:=AA S;clear S d0 hs2 hto;go_wp2_with fail;refine HF0.o.mono ?_;rintro e U ⟨rfl,rfl⟩;obtain⟨v0,hv0⟩:∃v0,v0=Au t (H9 s2.F s2.nd s.N).head? :=⟨_,rfl⟩;have HV0:=AA hv0;rw[<-hv0];obtain⟨q0,rfl⟩:∃q0,v0= .pointer q0:=⟨_,hv0⟩;clear hv0;go_wp2;go_loopw [5,7] (λv5 v7 wr=>∃y d,v5= .pointer (some ⟨t y,0,none⟩)/\v7=Au t (H9 s2.F s2.nd y).head? /\y<s2.N/\hQ y<=d/\Hid (II s2.F s2.nd d y=some tq)/\U=wr) (λv5 _ _=>NB (λi=>i<s2.N) t hQ v5)
 .exact⟨s.N,600,rfl,HV0.o,T.o.2.2,T.o.2.1,T.o.1,rfl⟩
 obtain⟨y,d,rfl,rfl,hy,hd,hin,hwr⟩:=hrel;subst hwr;cases N:H9 s2.F s2.nd y with
 |nil=>
  have hyt:y=tq:=by have:=hin.o;rw[Dz N]at this;exact Cw this
  subst hyt;simp only[List.head?_nil,Au,BF];have HSg:=AA (IV t y D U);have HMan:Hid (∀L,DP L (U.heap.size+1) (some ⟨U.heap.size,0,none⟩) 1 1 D none->L.ownsRow U.heap.size 70 1 (.slice (some ⟨U.heap.size,0,none⟩) 1 1) 1 (Ad t [y])->AL U.heap.size U L->AX AC 140 #[.pointer (some ⟨U.heap.size+1,0,none⟩),.pointer (some ⟨g,0,none⟩)] L (λe w7=>e= .returned (.pointer (some ⟨U.heap.size+1,0,none⟩))/\∃q k,PW s.N B Z w1 (GO s I wi) q k w7)):=by
   intro L O E hb6;have H6:=HH4.o.up hb6;obtain⟨x0,xd⟩:=G.o _ _ _ _ H6;have Q:=X.o _ _ _ _ H6;rw[<-FG (kb:=Z) (kb2:=t) λz hz=>H6.old z (M z hz)]at Q;have hop2:s2.op=false:=by rw[HS2.o,HF.o];exact HHop.o
   have es:(⟨s2.F,s2.N,s2.nd,false⟩:bY)=s2:=by rw[<-hop2]
   have hBs:B<=L.heap.size:=by have:=H6.turn.size;omega
   have hE1:Bl 1 s2 [y] I [y].length=GO s I wi:=K.o;have hge:=h.o.ge;have:=Wq (n:=s2.N) (F0:=s2.F) (h0:=hQ) (nd0:=s2.nd) (xs:=[y]) (ws:=I) h.o.hx (λi hi=>by obtain⟨z,hz,e⟩:=h.o.nds i hi;rw[e];exact HAl.o z hz) HL6.o (λx hx=>by rw[AP]at hx;subst hx;exact hy) (λx hx=>by have:=M x hx;omega) (by simp) HP.o.nodup (by simp)
    (λi hi=>by
     have e0:i=0:=(by simpa using hi);subst e0;rw[es];exact⟨hQ,h.o.inv⟩) (by rw[es];show(Ap true s2 I).op=false;rw[OQ,hop2]) H6.prog hBs U.heap.size (U.heap.size+1) D ⟨_,_,_,O,by omega,E⟩ (some ⟨b,o,none⟩) c1 Q
   rw[es,hE1]at this;refine(J3 (R:=λw7=>∃q k,PW s2.N B t L (GO s I wi) q k w7) L _ g (some ⟨b,o,none⟩) I.length c1 x0 (Jd L _ _ _ _ (this.mono λe w7 hh=>hh))).mono ?_;rintro e w7 ⟨rfl,bl7,st7,H7⟩;exact⟨rfl,bl7,st7,H6.trans (Ca hge) (AG _) H7 rfl⟩
  clear N hin;go_wp2_with fail;refine HSg.o.mono ?_;rintro e L ⟨rfl,O,E,hb6⟩;have HA:=AA (HMan.o L O E hb6);clear O E hb6 y0 yd;go_wp2_with fail;refine HA.o.mono ?_;rintro e w7 ⟨rfl,hH7⟩;have HH7:=AA hH7;clear hH7;go_wp2;go_ret;exact⟨rfl,HH7.o⟩
 |cons c l=>
  have hck:c∈s2.F.kids y:=(Cd.1 (show c∈H9 s2.F s2.nd y by rw[N];simp)).1;obtain⟨k1,k2⟩:=HUp.o y c hck;obtain⟨d',rfl⟩:∃d',d=d'+1:=⟨d-1,by omega⟩;have HN:Hid (II s2.F s2.nd d' c=some tq):=by
   have:=hin.o;cases l with
   |nil=>rw[E6 N]at this;exact this
   |cons a l=>rw[G0 N]at this;cases this
  have HFc:=AA (HFe.o c k1);have HM1:=AA (HInj.o y hy);have HM2:=AA (HInj.o c k1);simp only[List.head?_cons,Au,As];clear N hin hck;go_wp2_with fail;refine HFc.o.mono ?_;rintro e L ⟨rfl,rfl⟩;obtain⟨v1,hv1⟩:∃v1,v1=Au t (H9 s2.F s2.nd c).head? :=⟨_,rfl⟩;have HV1:=AA hv1;rw[<-hv1];obtain⟨q1,rfl⟩:∃q1,v1= .pointer q1:=⟨_,hv1⟩;clear hv1;go_wp2;go_roundw
  .exact⟨c,d',rfl,HV1.o,k1,by omega,HN,by trivial⟩
  have:=HM1.o;have:=HM2.o;omega
def TI(s:bY)(w:Nat)(G:List (List Nat)):bY:=G.foldl (λs g=>GO s g w) s
theorem My(s:bY)(w:Nat)(G:List (List Nat))(g:List Nat):TI s w (G++[g])=GO (TI s w G) g w:=by unfold TI;rw[List.foldl_append];rfl
structure YT(r:Nat)(s:bY)(w:Nat)(s1:bY):Prop where
 fst:Df r s1
 le:s.N<=s1.N
 nd:∀y,y<s.N->s1.nd y=s.nd y
 nds:∀y,y<s1.N->∃z,z<s.N/\s1.nd y=s.nd z
theorem Kf{w:Nat}:∀(G:List (List Nat)) {s s2:bY},EX s w G s2->s2.op=false->Df r s->s2=TI s w G/\∀k,(n:k<=G.length)->YT r s w (TI s w (G.take k))/\∀h:k<G.length,J1 (TI s w (G.take k)) G[k] w/\(C5 (TI s w (G.take k)) (G[k].headD 0) w).op=false
 |[],s,s2,h,i,a=>by
  cases h
  refine⟨rfl,λk n=> ?_⟩;rw[List.take_nil];exact⟨⟨a,AG _,λ_ _=>rfl,λy t=>⟨y,t,rfl⟩⟩,λh=>by simp at h⟩
 |g::G,s,s2,h,i,a=>by
  cases h with
  |opn Q o=>rw[o]at i;cases i
  |cons Q o hr=>
   obtain⟨b,p,f,v⟩:=a.wg Q o;obtain⟨m,c⟩:=Kf G hr i b;refine⟨m,λk n=> ?_⟩;cases k with
   |zero=>
    rw[BM];exact⟨⟨a,AG _,λ_ _=>rfl,λy t=>⟨y,t,rfl⟩⟩,λh=>⟨Q,o⟩⟩
   |succ k=>
    obtain⟨c1,c2⟩:=c k (by simpa using n);refine⟨⟨c1.fst,by have:=c1.le;show s.N<=(TI (GO s g w) w (G.take k)).N;omega,λy t=>(c1.nd y (by omega)).trans (p y t),λy t=> ?_⟩,λh=>c2 (by simpa using h)⟩;obtain⟨z,u,e⟩:=c1.nds y t;obtain⟨l,d,e2⟩:=f z u;exact⟨l,d,e.trans e2⟩
theorem Qx(m:Df r s)(d:∀i,i<s.N->(CU (s.nd i)).length<=2000)(h:∀i,i<s.N->G' (s.nd i)){wi:Nat}(P:J1 s I wi)(n:(C5 s (I.headD 0) wi).op=false){C:Nat}(f:Br s.F (λi=>i<s.N) s.nd B Z V w)(l:B<=C)(c:C<=w.heap.size)
 (D g:Nat)(t:Option Ai)(a:GJ Z I D g t w):
 AX AC 122 #[.pointer (some ⟨g,0,none⟩),.pointer (some ⟨Z wi,0,none⟩)] w (Bk g (Ew s.N B C Z w (GO s I wi))):=by
 refine(Lx m d h P n f (AH l c) D g t a).mono ?_;rintro e y ⟨rfl,u,o,H⟩;exact⟨rfl,u,o,H.pa c⟩
theorem Hz(w:AB)(g t:Nat)(p:Ai)(n:w.cell? ⟨t,0,none⟩=some (.pointer (some p)))(h:AX AC 122 #[.pointer (some ⟨g,0,none⟩),.pointer (some p)] w (Bk g R)):
 AX AC 149 #[.pointer (some ⟨g,0,none⟩),.slice (some ⟨t,0,none⟩) 1 1] w (Bk g R):=by
 have H:=AA h;clear h;go_enter func149,ntmps149;go_wp2_with fail;refine H.o.mono ?_;rintro e i ⟨rfl,a⟩;have o:=AA a;clear a;go_wp2;go_ret;exact⟨rfl,o.o⟩
theorem Wg(w:AB)(g i t k:Nat)(p:Ai)(hx:w.cell? ⟨i,0,none⟩=some (.slice (some ⟨t,0,none⟩) 1 1))(a:w.cell? ⟨t,0,none⟩=some (.pointer (some p)))(h:AX AC 122 #[.pointer (some ⟨g,0,none⟩),.pointer (some p)] w (Bk g R)):
 AX AC 148 #[.int .i64 k,.pointer (some ⟨g,0,none⟩),.pointer (some ⟨i,0,none⟩)] w (λe w'=>e= .returned (.tuple #[])/\R w'):=by
 have H:=AA (Hz w g t p a h);clear h a;go_enter func148,ntmps148;go_wp2_with fail;refine H.o.mono ?_;rintro e s ⟨rfl,o⟩;have n:=AA o;clear o;go_wp2_with fail
 go_end0;exact⟨rfl,n.o⟩
structure RG(s:bY)(B C:Nat)(bl:Nat->Nat)(w:AB)(t:bY)(xs:List Nat)(wi D g gx r0 Dr:Nat)(a1 doc prev:Option Ai)(c1:Nat)(W:AB):Prop where
 pa:Ew s.N B C bl w t W
 sel:DP W g a1 xs.length c1 doc prev
 own:W.ownsRow D 70 1 (.slice a1 xs.length c1) xs.length (Ad bl xs)
 box:W.heap[gx]? =some (.cells #[.slice (some ⟨r0,0,none⟩) 1 1] 63 (0,0))
 row:W.ownsRow Dr 70 1 (.slice (some ⟨r0,0,none⟩) 1 1) 1 (Ad bl [wi])
theorem RG.up{C:Nat}{t:bY}{wi D d r u:Nat}{a1 e:Option Ai}{c1:Nat}{W l:AB}(h:RG s B C Z w t Y wi D g d r u a1 L e c1 W)(a:AL W.heap.size W l)(c:C<=W.heap.size):RG s B C Z w t Y wi D g d r u a1 L e c1 l:=by
 obtain⟨n,i,m⟩:=h.pa;exact⟨⟨n,i,m.up a c⟩,h.sel.below a h.sel.lt,BB h.own λb _ o=>a.block b o,(a.block _ (AE.1 h.box).1).trans h.box,BB h.row λb _ o=>a.block b o⟩
theorem RG.next{C:Nat}{t t2:bY}{wi D m c y:Nat}{a1 e:Option Ai}{c1:Nat}{W f:AB}{n i:Nat->Nat}{u o:Nat->Dn}(h:RG s B C Z w t Y wi D g m c y a1 L e c1 W)(a:PA s.N B C Z w t n u W)(k:PA t.N B W.heap.size n W t2 i o f)(p:s.N<=t.N)(b:C<=W.heap.size):RG s B C Z w t2 Y wi D g m c y a1 L e c1 f:=
 ⟨⟨i,o,a.trans (k.low b) p⟩,k.other (s0:=t) a.prog h.sel (by decide) (by decide) h.sel.lt,k.own (s0:=t) a.prog h.own (by decide) (by decide) (λl d=>(h.own.lt l d).2),k.other (s0:=t) a.prog h.box (by decide) (by decide) (AE.1 h.box).1,k.own (s0:=t) a.prog h.row (by decide) (by decide) (λl d=>(h.row.lt l d).2)⟩
theorem QL{C:Nat}{t:bY}{e:Nat->Nat}{a:Nat->Dn}{W:AB}(i:PA n B C Z w t e a W){l:List Nat}(o:∀x∈l,x<n):Ad e l=Ad Z l:=Ay λx h=>by rw[i.old x (o x h)]
theorem RB(O:∀i,i<s.N->(CU (s.nd i)).length<=2000)(A:∀i,i<s.N->G' (s.nd i))(v:∀x∈Y,x<s.N){wi:Nat}(q:wi<s.N){t:bY}(K:YT r s wi t)(M:k<Y.length)(Q:J1 t [Y[k]] wi)(E:(C5 t ([Y[k]].headD 0) wi).op=false){C:Nat}(I:B<=C){D y n R:Nat}{a1 o:Option Ai}{c1:Nat}{W a:AB}
 (h:RG s B C Z w t Y wi D g y n R a1 L o c1 W)(H:C<=W.heap.size)(j:DP a (W.heap.size+1) (some ⟨W.heap.size,0,none⟩) 1 1 L none)(T:a.ownsRow W.heap.size 70 1 (.slice (some ⟨W.heap.size,0,none⟩) 1 1) 1 (Ad Z [Y[k]]))(S:AL W.heap.size W a):
 AX AC 148 #[.int .i64 k,.pointer (some ⟨W.heap.size+1,0,none⟩),.pointer (some ⟨y,0,none⟩)] a (λe w'=>e= .returned (.tuple #[])/\RG s B C Z w (GO t [Y[k]] wi) Y wi D g y n R a1 L o c1 w'):=by
 have f:=h.up S H;obtain⟨J,P,m⟩:=f.pa;have d:C<=a.heap.size:=AH H S.size;have hx:∀x∈[Y[k]],x<s.N:=λx U=>by rw[AP.1 U];exact v _ (AD M)
 have c:∀i,i<t.N->(CU (t.nd i)).length<=2000:=λi b=>by obtain⟨z,p,e⟩:=K.nds i b;rw[e];exact O z p
 have u:∀i,i<t.N->G' (t.nd i):=λi b=>by obtain⟨z,p,e⟩:=K.nds i b;rw[e];exact A z p
 have N:=Qx K.fst c u Q E m.prog (AH I d) (AG a.heap.size) W.heap.size (W.heap.size+1) L ⟨_,_,_,j,Nat.le_succ _,by rw[QL m hx];exact T⟩;rw[m.old wi q]at N;have l:a.cell? ⟨n,0,none⟩=some (.pointer (some ⟨Z wi,0,none⟩)):=by
  have:=f.row.cells (g:=n) rfl 0 (.pointer (some ⟨Z wi,0,none⟩)) (by simp[Ad]);rw[Ba]at this;exact this
 refine(Wg a (W.heap.size+1) y n k _ (Aj f.box) l N).mono ?_;rintro e X ⟨rfl,V,G,F⟩;exact⟨rfl,f.next m F K.le d⟩
theorem T5{bl:Nat->Nat}{K:List Nat}(z:K≠[])(w:AB)(d:Option Ai)(g u n k:Nat)(p:Ai)(hx:w.cell? ⟨u,0,none⟩=some (.slice (some ⟨n,0,none⟩) 1 1))(f:w.cell? ⟨n,0,none⟩=some (.pointer (some p)))(b:AX AC 120 #[.pointer (some ⟨g,0,none⟩)] w (Lz bl K d w))
 (h:∀t a,Fw bl K w.heap.size a d t->AL w.heap.size w t->AX AC 122 #[.pointer (some ⟨a,0,none⟩),.pointer (some p)] t (Bk a R)):
 AX AC 150 #[.int .i64 k,.pointer (some ⟨g,0,none⟩),.pointer (some ⟨u,0,none⟩)] w (λe w'=>e= .returned (.tuple #[])/\R w'):=by
 have q:=AA b;have l:∀t,AL w.heap.size w t->t.cell? ⟨u,0,none⟩=some (.slice (some ⟨n,0,none⟩) 1 1)/\t.cell? ⟨n,0,none⟩=some (.pointer (some p)):=λt s=>⟨(s.cell (Bn w _ hx)).trans hx,(s.cell (Bn w _ f)).trans f⟩;have v:=AA l;have H:=AA (λt a x s=>Hz t a n p (l t s).2 (h t a x s));have j:=Bg.2 z;have L:((K.length:Int)>0)=True:=by simp;omega
 have O:decide ((0:Int)<(K.length:Int))=true:=by simp;omega
 clear h b l;go_enter func150,ntmps150;go_wp2_with fail;refine q.o.mono ?_;rintro e t ⟨a,rfl,r,i⟩;have T:=AA (H.o t a r i);obtain⟨N,I⟩:=v.o t i;obtain⟨E,c3,m,o,-,-,-⟩:=r;have c:=AA (Gl a E K.length c3 t o.cells.1);clear i o H q v;go_wp2_with fail;refine c.o.mono ?_;rintro e D ⟨rfl,rfl⟩;go_wp2_with fail;refine T.o.mono ?_;rintro e S ⟨rfl,y⟩;have A:=AA y;clear y;go_wp2_with fail
 go_end0;exact⟨rfl,A.o⟩
theorem PN(J:∀i,i<s.N->(CU (s.nd i)).length<=2000)(V:∀i,i<s.N->G' (s.nd i))(f:∀x∈Y,x<s.N){wi:Nat}(H:wi<s.N){t:bY}(K:YT r s wi t)(hk:k<Y.length){G:List Nat}(hG:t.F.kids Y[k]=G)(Q:J1 t G wi)(F:(C5 t (G.headD 0) wi).op=false){C:Nat}(X:B<=C){D A c Dr:Nat}{a1 d:Option Ai}{c1:Nat}{W a:AB}
 (h:RG s B C Z w t Y wi D g A c Dr a1 L d c1 W)(hC:C<=W.heap.size)(M:DP a (W.heap.size+1) (some ⟨W.heap.size,0,none⟩) 1 1 L none)(P:a.ownsRow W.heap.size 70 1 (.slice (some ⟨W.heap.size,0,none⟩) 1 1) 1 (Ad Z [Y[k]]))(hb:AL W.heap.size W a):
 AX AC 150 #[.int .i64 k,.pointer (some ⟨W.heap.size+1,0,none⟩),.pointer (some ⟨A,0,none⟩)] a (λe w'=>e= .returned (.tuple #[])/\RG s B C Z w (GO t G wi) Y wi D g A c Dr a1 L d c1 w'):=by
 have T:=h.up hb hC;obtain⟨v,st',u⟩:=T.pa;have p:C<=a.heap.size:=AH hC hb.size;have hx:∀x∈[Y[k]],x<s.N:=λx hm=>by rw[AP.1 hm];exact f _ (AD hk)
 have S:Y[k]<t.N:=AR (f _ (AD hk)) K.le;obtain⟨h0,o⟩:=K.fst.ok;have E:∀i,i<t.N->(CU (t.nd i)).length<=2000:=λi I=>by obtain⟨z,O,e⟩:=K.nds i I;rw[e];exact J z O
 have j:∀i,i<t.N->G' (t.nd i):=λi I=>by obtain⟨z,O,e⟩:=K.nds i I;rw[e];exact V z O
 have y:=KE o K.fst.few u.prog Y[k] S W.heap.size (W.heap.size+1) L ⟨_,_,_,M,Nat.le_succ _,by rw[QL u hx];exact P⟩;rw[hG]at y;have q:a.cell? ⟨c,0,none⟩=some (.pointer (some ⟨Z wi,0,none⟩)):=by
  have:=T.row.cells (g:=c) rfl 0 (.pointer (some ⟨Z wi,0,none⟩)) (by simp[Ad]);rw[Ba]at this;exact this
 refine(T5 (R:=λw'=>Ew t.N B a.heap.size v a (GO t G wi) w') (bl:=v) (K:=G) Q.ne a L (W.heap.size+1) A c k _ (Aj T.box) q y (λw2 g2 U l=> ?_)).mono ?_
 .have hp:=Qx K.fst E j Q F (u.prog.kept l) (AH X p) l.size a.heap.size g2 L U.toW;rw[u.old wi H]at hp;refine hp.mono ?_;rintro e w3 ⟨rfl,b,m,N⟩;exact⟨rfl,b,m,((PA.refl (C:=a.heap.size) (n:=t.N) rfl u.prog).up l (AG _)).trans N (AG _)⟩
 rintro e w3 ⟨rfl,b,m,N⟩;exact⟨rfl,T.next u N K.le p⟩
theorem Qa{s2:bY}(g:Df r s)(d:Y.Nodup)(h:∀x∈Y,x<s.N){wi:Nat}(p:EX s wi (Y.map s.F.kids) s2)(u:s2.op=false):∀k,k<=Y.length->∀i (n:i<Y.length),k<=i->(TI s wi ((Y.map s.F.kids).take k)).F.kids Y[i]=s.F.kids Y[i]:=by
 obtain⟨-,l⟩:=Kf _ p u g;have m:(Y.map s.F.kids).length=Y.length:=Aq _;intro k;induction k with
 |zero=>intro _ i n _;rw[BM];rfl
 |succ k f=>
  intro v i n b;have t:k<(Y.map s.F.kids).length:=by rw[m];omega
  obtain⟨K,q⟩:=l k (Ca t);obtain⟨Q,w⟩:=q t;have y:(Y.map s.F.kids)[k]=s.F.kids (Y[k]'(by omega)):=BD _;rw[y]at Q w;rw[AF t,My,y];obtain⟨j,o⟩:=K.fst.ok;have c:=f (by omega) k (by omega) (AG _);have a:∀x∈s.F.kids (Y[k]'(by omega)),(TI s wi ((Y.map s.F.kids).take k)).F.par x=some (Y[k]'(by omega)):=λx hx=>(o.mem _ _).1 (by rw[c];exact hx);rw[(Mx K.fst Q a w).1 Y[i] (AR (h _ (AD n)) K.le) (λe=>by have:=(C0 d).1 e;omega)];exact f (by omega) i n (by omega)
theorem YE{s2:bY}(G:Df r s)(H:∀i,i<s.N->(CU (s.nd i)).length<=2000)(O:∀i,i<s.N->G' (s.nd i))(hxl:Y.length<=100000)(z:∀x∈Y,x<s.N){wi:Nat}(E:wi<s.N)(J:EX s wi (Y.map λx=>[x]) s2)(hop:s2.op=false){C:Nat}(P:Br s.F (λi=>i<s.N) s.nd B Z V w)(hBC:B<=C)(hC:C<=w.heap.size)
 (D g:Nat)(v:Option Ai)(M:GJ Z Y D g v w):
 AX AC 121 #[.pointer (some ⟨g,0,none⟩),.pointer (some ⟨Z wi,0,none⟩)] w (Bk g (Ew s.N B C Z w s2)):=by
 obtain⟨X,c1,j,f,hD,d⟩:=M;obtain⟨e2,T⟩:=Kf _ J hop G;have U:(Y.map λx=>[x]).length=Y.length:=Aq _;obtain⟨c,o⟩:∃c,c=w.alloc (.cells #[.pointer (some ⟨Z wi,0,none⟩)] 70):=⟨_,rfl⟩;obtain⟨u,t⟩:∃u,u=c.alloc (.cells #[.slice (some ⟨w.heap.size,0,none⟩) 1 1] 63):=⟨_,rfl⟩;have p:AL w.heap.size w c:=by rw[o];exact Ac
 have y:c.heap.size=w.heap.size+1:=by rw[o];simp
 have a:AL w.heap.size w u:=by rw[t];exact p.alloc p.size _
 have m:u.heap[w.heap.size+1]? =some (.cells #[.slice (some ⟨w.heap.size,0,none⟩) 1 1] 63 (0,0)):=by rw[t,<-y];exact Ah c _
 have A:u.ownsRow w.heap.size 70 1 (.slice (some ⟨w.heap.size,0,none⟩) 1 1) 1 (Ad Z [wi]):=by
  have h1:c.heap[w.heap.size]? =some (.cells #[.pointer (some ⟨Z wi,0,none⟩)] 70 (0,0)):=by rw[o];exact Ah w _
  have F:c.ownsRow w.heap.size 70 1 (.slice (some ⟨w.heap.size,0,none⟩) 1 1) 1 (Ad Z [wi]):=⟨by simp[Ad],.inr ⟨w.heap.size,1,_,rfl,AG _,h1,AG _,by simp[maxLen],rfl,rfl⟩⟩;rw[t];exact F.alloc _
 have R:RG s B C Z w s Y wi D g (w.heap.size+1) w.heap.size w.heap.size X v j c1 u:=⟨⟨Z,V,(PA.refl (n:=s.N) rfl P).up a hC⟩,f.below a f.lt,BB d λb _ h2=>a.block b h2,m,A⟩;have HE:Hid (AX AC 117 #[.pointer (some ⟨g,0,none⟩),.func (.func 148) #[] #[.pointer (some ⟨w.heap.size+1,0,none⟩)]] u (Bk g (Ew s.N B C Z w s2))):=by
  refine(SG (I:=λk W=>RG s B C Z w (TI s wi ((Y.map λx=>[x]).take k)) Y wi D g (w.heap.size+1) w.heap.size w.heap.size X v j c1 W) g Y Z X v c1 (w.heap.size+1) hxl u (by rw[BM];exact R) ?_ ?_).mono ?_
  .intro k W h;refine⟨h.sel.cells.1,h.sel.cells.2.1,?_⟩;obtain⟨_,_,hv,_,hrs⟩:=B6.own h.own;cases hv
   exact hrs
  .intro k hk W W' h y ho1 hb;have N:k<(Y.map λx=>[x]).length:=by rw[U];exact hk
   obtain⟨K,q⟩:=T k (Ca N);obtain⟨Q,F⟩:=q N;have hCW:C<=W.heap.size:=by
    obtain⟨bl',st',hA⟩:=h.pa;exact AH hC hA.turn.size
   have eg:(Y.map λx=>[x])[k]=[Y[k]]:=BD _;rw[eg]at Q F;rw[AF N,My,eg];exact RB H O z E K hk Q F hBC h hCW y ho1 hb
  rintro e w3 ⟨rfl,l⟩;have l:=l.pa;rw[<-U,AU,<-e2]at l;exact⟨rfl,l⟩
 have hmf:∀(fn:Fn) (first cap:Array AS) (w:AB),(Instr.makeFunc fn first cap).run AC w= .ok (.func fn first cap) w:=λ_ _ _ _=>rfl;have S:u.cell? ⟨w.heap.size+1,0,none⟩=some (.slice (some ⟨w.heap.size,0,none⟩) 1 1):=by rw[AZ u _ 0 _ _ _ m];rfl
 have L:AX AC 138 #[.pointer (some ⟨g,0,none⟩),.slice (some ⟨w.heap.size,0,none⟩) 1 1] c (Bk g (Ew s.N B C Z w s2)):=by
  have HW2:=AA t;have HBx:=AA S;clear G H O z E e2 J P f d T p a m A R S o t;go_enter func138,ntmps138;go_wp2_with fail;rw[<-HW2.o];refine HE.o.mono ?_;rintro e w3 ⟨rfl,l⟩;have H3:=AA l;clear l;go_wp2;go_ret;exact⟨rfl,H3.o⟩
 have HM:=AA L;have HW1:=AA o;clear G H O z E e2 J P f d T p a m A R S t L HE y;go_enter func121,ntmps121;go_wp2_with fail;rw[<-HW1.o];refine HM.o.mono ?_;rintro e w3 ⟨rfl,l⟩;have H3:=AA l;clear l;go_wp2;go_ret;exact⟨rfl,H3.o⟩
theorem XQ{s2:bY}(X:Df r s)(R:∀i,i<s.N->(CU (s.nd i)).length<=2000)(N:∀i,i<s.N->G' (s.nd i))(hxl:Y.length<=100000)(m:∀x∈Y,x<s.N)(E:Y.Nodup){wi:Nat}(T:wi<s.N)(hG:EX s wi (Y.map s.F.kids) s2)(M:s2.op=false){C:Nat}(hP:Br s.F (λi=>i<s.N) s.nd B Z V w)(hBC:B<=C)(hC:C<=w.heap.size)
 (D g:Nat)(j:Option Ai)(P:GJ Z Y D g j w):
 AX AC 123 #[.pointer (some ⟨g,0,none⟩),.pointer (some ⟨Z wi,0,none⟩)] w (Bk g (Ew s.N B C Z w s2)):=by
 obtain⟨a1,c1,z,y,hD,d⟩:=P;obtain⟨e2,A⟩:=Kf _ hG M X;have F:(Y.map s.F.kids).length=Y.length:=Aq _;obtain⟨c,o⟩:∃c,c=w.alloc (.cells #[.pointer (some ⟨Z wi,0,none⟩)] 70):=⟨_,rfl⟩;obtain⟨u,t⟩:∃u,u=c.alloc (.cells #[.slice (some ⟨w.heap.size,0,none⟩) 1 1] 63):=⟨_,rfl⟩;have v:AL w.heap.size w c:=by rw[o];exact Ac
 have p:c.heap.size=w.heap.size+1:=by rw[o];simp
 have a:AL w.heap.size w u:=by rw[t];exact v.alloc v.size _
 have f:u.heap[w.heap.size+1]? =some (.cells #[.slice (some ⟨w.heap.size,0,none⟩) 1 1] 63 (0,0)):=by rw[t,<-p];exact Ah c _
 have O:u.ownsRow w.heap.size 70 1 (.slice (some ⟨w.heap.size,0,none⟩) 1 1) 1 (Ad Z [wi]):=by
  have h1:c.heap[w.heap.size]? =some (.cells #[.pointer (some ⟨Z wi,0,none⟩)] 70 (0,0)):=by rw[o];exact Ah w _
  have ho:c.ownsRow w.heap.size 70 1 (.slice (some ⟨w.heap.size,0,none⟩) 1 1) 1 (Ad Z [wi]):=⟨by simp[Ad],.inr ⟨w.heap.size,1,_,rfl,AG _,h1,AG _,by simp[maxLen],rfl,rfl⟩⟩;rw[t];exact ho.alloc _
 have L:RG s B C Z w s Y wi D g (w.heap.size+1) w.heap.size w.heap.size a1 j z c1 u:=⟨⟨Z,V,(PA.refl (n:=s.N) rfl hP).up a hC⟩,y.below a y.lt,BB d λb _ h2=>a.block b h2,f,O⟩;have HE:Hid (AX AC 117 #[.pointer (some ⟨g,0,none⟩),.func (.func 150) #[] #[.pointer (some ⟨w.heap.size+1,0,none⟩)]] u (Bk g (Ew s.N B C Z w s2))):=by
  refine(QN (I:=λk W=>RG s B C Z w (TI s wi ((Y.map s.F.kids).take k)) Y wi D g (w.heap.size+1) w.heap.size w.heap.size a1 j z c1 W) g Y Z a1 j c1 (w.heap.size+1) hxl u (by rw[BM];exact L) ?_ ?_).mono ?_
  .intro k W h;refine⟨h.sel.cells.1,h.sel.cells.2.1,?_⟩;obtain⟨_,_,hv,_,hrs⟩:=B6.own h.own;cases hv
   exact hrs
  .intro k hk W W' h p ho1 hb;have S:k<(Y.map s.F.kids).length:=by rw[F];exact hk
   obtain⟨K,q⟩:=A k (Ca S);obtain⟨Q,ho⟩:=q S;have hCW:C<=W.heap.size:=by
    obtain⟨bl',st',hA⟩:=h.pa;exact AH hC hA.turn.size
   have eg:(Y.map s.F.kids)[k]=s.F.kids Y[k]:=BD _;rw[eg]at Q ho;rw[AF S,My,eg];exact PN R N m T K hk (Qa X E m hG M k (Ca hk) k hk (AG _)) Q ho hBC h hCW p ho1 hb
  rintro e w3 ⟨rfl,l⟩;have l:=l.pa;rw[<-F,AU,<-e2]at l;exact⟨rfl,l⟩
 have hmf:∀(fn:Fn) (first cap:Array AS) (w:AB),(Instr.makeFunc fn first cap).run AC w= .ok (.func fn first cap) w:=λ_ _ _ _=>rfl;have H:u.cell? ⟨w.heap.size+1,0,none⟩=some (.slice (some ⟨w.heap.size,0,none⟩) 1 1):=by rw[AZ u _ 0 _ _ _ f];rfl
 have U:AX AC 141 #[.pointer (some ⟨g,0,none⟩),.slice (some ⟨w.heap.size,0,none⟩) 1 1] c (Bk g (Ew s.N B C Z w s2)):=by
  have G:=AA t;have HBx:=AA H;clear X R N m T E e2 hG hP y d A v a f O L H o t;go_enter func141,ntmps141;have J:=HBx.o;rw[G.o]at J;go_wp2_with fail;rw[<-G.o];refine HE.o.mono ?_;rintro e w3 ⟨rfl,l⟩;have H3:=AA l;clear l;go_wp2;go_ret;exact⟨rfl,H3.o⟩
 have HM:=AA U;have HW1:=AA o;clear X R N m T E e2 hG hP y d A v a f O L H t U HE p;go_enter func123,ntmps123;go_wp2_with fail;rw[<-HW1.o];refine HM.o.mono ?_;rintro e w3 ⟨rfl,l⟩;have H3:=AA l;clear l;go_wp2;go_ret;exact⟨rfl,H3.o⟩
def BW(op:Int)(on wi:AS)(ky vl:ByteArray)(e:AS):Array AS:= #[.int .i64 op,on,wi,.string ky,.string vl,e]
theorem Vo(g:Nat)(t:List Nat)(bl:Nat->Nat)(a:Option Ai)(c:Nat)(f:t.length<=100000)(w:AB)
 (h0:w.cell? ⟨g,0,none⟩=some (.slice a t.length c))(hr:B6 w w.heap.size a (Ad bl t))
 (n:∀x∈t,w.cell? ⟨bl x,5,none⟩=some (.int .u32 3)):
 AX AC 80 #[.pointer (some ⟨g,0,none⟩)] w (λe w'=>e= .returned (.bool true)/\w'=w):=by
 have u:=AA n;have l:=AA hr;clear n hr;go_enter func80,ntmps80;go_wp2;go_loopw [10] (λx wr=>∃k:Nat,k<=t.length/\x= .int .i64 k/\wr=w) (λx _=>t.length-(Aa x).toNat)
 .exact⟨0,by omega,rfl,rfl⟩
 obtain⟨k,n,rfl,rfl⟩:=hrel;by_cases i:k<t.length
 .obtain⟨b,o,rfl,m,h⟩:=l.o.at_ (by rw[AM];omega);have r:=h k (by rw[AM];exact i);rw[A5 i]at r;have d:=u.o t[k] (AD i);obtain⟨y,s⟩:∃y,y=bl t[k]:=⟨_,rfl⟩;rw[<-s]at r d;clear h s;go_wp2;go_roundw
  .exact⟨k+1,by omega,by go_num,by first|trivial|rfl⟩
  simp[Aa];omega
 have e:k=t.length:=by omega
 subst e;go_wp2;go_ret;exact⟨rfl,rfl⟩
theorem UR(w:AB)(g:Nat)(on wi i:AS)(ky vl:ByteArray)
 (h:∀n,AL w.heap.size w n->AX AC 78 #[.pointer (some ⟨g,0,none⟩),.string ky,.string vl] n (Bk g R)):
 AX AC 50 #[.pointer (some ⟨g,0,none⟩),.agg (BW 12 on wi ky vl i)] w (λe w'=>e= .returned (.bool true)/\R w'):=by
 obtain⟨t,a⟩:∃t,t=w.alloc (.cells (BW 12 on wi ky vl i) 45):=⟨_,rfl⟩;have l:t.heap.size=w.heap.size+1:=by rw[a];simp
 have d:Hid (AL w.heap.size w t):=by rw[a];exact Ac
 have o:t.heap[w.heap.size]? =some (.cells (BW 12 on wi ky vl i) 45 (0,0)):=by rw[a];exact Ah w _
 have c:t.cell? ⟨w.heap.size,0,none⟩=some (.int .i64 12):=Aj o;have c3:t.cell? ⟨w.heap.size,3,none⟩=some (.string ky):=Aj o;have c4:t.cell? ⟨w.heap.size,4,none⟩=some (.string vl):=Aj o;have H:=AA (h t d.o);clear h o;subst a;go_enter func50,ntmps50;go_wp2_with fail;refine H.o.mono ?_;rintro e u ⟨rfl,s⟩;have r:=AA s;clear s;go_wp2;go_ret;exact⟨rfl,r.o⟩
theorem US(w:AB)(g:Nat)(on wi o:AS)(ky vl:ByteArray)
 (h:∀n,AL w.heap.size w n->AX AC 79 #[.pointer (some ⟨g,0,none⟩),.string ky] n (Bk g R)):
 AX AC 50 #[.pointer (some ⟨g,0,none⟩),.agg (BW 13 on wi ky vl o)] w (λe w'=>e= .returned (.bool true)/\R w'):=by
 obtain⟨a,t⟩:∃a,a=w.alloc (.cells (BW 13 on wi ky vl o) 45):=⟨_,rfl⟩;have l:a.heap.size=w.heap.size+1:=by rw[t];simp
 have d:Hid (AL w.heap.size w a):=by rw[t];exact Ac
 have i:a.heap[w.heap.size]? =some (.cells (BW 13 on wi ky vl o) 45 (0,0)):=by rw[t];exact Ah w _
 have c:a.cell? ⟨w.heap.size,0,none⟩=some (.int .i64 13):=Aj i;have c3:a.cell? ⟨w.heap.size,3,none⟩=some (.string ky):=Aj i;have H:=AA (h a d.o);clear h i;subst t;go_enter func50,ntmps50;go_wp2_with fail;refine H.o.mono ?_;rintro e u ⟨rfl,s⟩;have r:=AA s;clear s;go_wp2;go_ret;exact⟨rfl,r.o⟩
theorem UT(w:AB)(g:Nat)(on wi i:AS)(ky vl:ByteArray)
 (r:∀o,AL w.heap.size w o->AX AC 80 #[.pointer (some ⟨g,0,none⟩)] o (λe w'=>e= .returned (.bool true)/\w'=o))
 (h:∀o,AL w.heap.size w o->AX AC 81 #[.pointer (some ⟨g,0,none⟩),i] o (Bk g R)):
 AX AC 50 #[.pointer (some ⟨g,0,none⟩),.agg (BW 14 on wi ky vl i)] w (λe w'=>e= .returned (.bool true)/\R w'):=by
 obtain⟨t,a⟩:∃t,t=w.alloc (.cells (BW 14 on wi ky vl i) 45):=⟨_,rfl⟩;have c:t.heap.size=w.heap.size+1:=by rw[a];simp
 have d:Hid (AL w.heap.size w t):=by rw[a];exact Ac
 have n:t.heap[w.heap.size]? =some (.cells (BW 14 on wi ky vl i) 45 (0,0)):=by rw[a];exact Ah w _
 have f:t.cell? ⟨w.heap.size,0,none⟩=some (.int .i64 14):=Aj n;have c5:t.cell? ⟨w.heap.size,5,none⟩=some i:=Aj n;have H:=AA (h t d.o);have u:=AA (r t d.o);clear r;clear h n;subst a;go_enter func50,ntmps50;go_wp2_with fail;refine u.o.mono ?_;rintro e o ⟨rfl,rfl⟩;go_wp2_with fail;refine H.o.mono ?_;rintro e m ⟨rfl,s⟩;have l:=AA s;clear s;go_wp2;go_ret;exact⟨rfl,l.o⟩
theorem UU(w:AB)(g:Nat)(on wi o:AS)(ky vl:ByteArray)
 (h:∀n,AL w.heap.size w n->AX AC 82 #[.pointer (some ⟨g,0,none⟩),o] n (Bk g R)):
 AX AC 50 #[.pointer (some ⟨g,0,none⟩),.agg (BW 15 on wi ky vl o)] w (λe w'=>e= .returned (.bool true)/\R w'):=by
 obtain⟨a,t⟩:∃a,a=w.alloc (.cells (BW 15 on wi ky vl o) 45):=⟨_,rfl⟩;have l:a.heap.size=w.heap.size+1:=by rw[t];simp
 have d:Hid (AL w.heap.size w a):=by rw[t];exact Ac
 have i:a.heap[w.heap.size]? =some (.cells (BW 15 on wi ky vl o) 45 (0,0)):=by rw[t];exact Ah w _
 have c:a.cell? ⟨w.heap.size,0,none⟩=some (.int .i64 15):=Aj i;have c5:a.cell? ⟨w.heap.size,5,none⟩=some o:=Aj i;have H:=AA (h a d.o);clear h i;subst t;go_enter func50,ntmps50;go_wp2_with fail;refine H.o.mono ?_;rintro e u ⟨rfl,s⟩;have r:=AA s;clear s;go_wp2;go_ret;exact⟨rfl,r.o⟩
theorem UV(w:AB)(g:Nat)(on wi i:AS)(ky vl:ByteArray)
 (r:∀o,AL w.heap.size w o->AX AC 80 #[.pointer (some ⟨g,0,none⟩)] o (λe w'=>e= .returned (.bool true)/\w'=o))
 (h:∀o,AL w.heap.size w o->AX AC 83 #[.pointer (some ⟨g,0,none⟩),i] o (Bk g R)):
 AX AC 50 #[.pointer (some ⟨g,0,none⟩),.agg (BW 16 on wi ky vl i)] w (λe w'=>e= .returned (.bool true)/\R w'):=by
 obtain⟨t,a⟩:∃t,t=w.alloc (.cells (BW 16 on wi ky vl i) 45):=⟨_,rfl⟩;have c:t.heap.size=w.heap.size+1:=by rw[a];simp
 have d:Hid (AL w.heap.size w t):=by rw[a];exact Ac
 have n:t.heap[w.heap.size]? =some (.cells (BW 16 on wi ky vl i) 45 (0,0)):=by rw[a];exact Ah w _
 have f:t.cell? ⟨w.heap.size,0,none⟩=some (.int .i64 16):=Aj n;have c5:t.cell? ⟨w.heap.size,5,none⟩=some i:=Aj n;have H:=AA (h t d.o);have u:=AA (r t d.o);clear r;clear h n;subst a;go_enter func50,ntmps50;go_wp2_with fail;refine u.o.mono ?_;rintro e o ⟨rfl,rfl⟩;go_wp2_with fail;refine H.o.mono ?_;rintro e m ⟨rfl,s⟩;have l:=AA s;clear s;go_wp2;go_ret;exact⟨rfl,l.o⟩
theorem Qk(w:AB)(g:Nat)(op:Int)(on wi o:AS)(ky vl:ByteArray)(i:op≠12/\op≠13/\op≠14/\op≠15/\op≠16):
 AX AC 50 #[.pointer (some ⟨g,0,none⟩),.agg (BW op on wi ky vl o)] w (λe w'=>e= .returned (.bool false)/\AL w.heap.size w w'):=by
 obtain⟨a,t⟩:∃a,a=w.alloc (.cells (BW op on wi ky vl o) 45):=⟨_,rfl⟩;have h:a.heap.size=w.heap.size+1:=by rw[t];simp
 have s:Hid (AL w.heap.size w a):=by rw[t];exact Ac
 have n:a.heap[w.heap.size]? =some (.cells (BW op on wi ky vl o) 45 (0,0)):=by rw[t];exact Ah w _
 have m:a.cell? ⟨w.heap.size,0,none⟩=some (.int .i64 op):=Aj n;obtain⟨c,u,l,d,r⟩:=i;clear n;subst t;go_enter func50,ntmps50;go_wp2;go_ret;exact⟨rfl,s.o⟩
theorem V3(w:AB)(g:Nat)(on wi i:AS)(ky vl:ByteArray)(a:Option Ai)(m c:Nat)
 (h:∀n,AL w.heap.size w n->AX AC 84 #[.pointer (some ⟨g,0,none⟩),.slice a m c] n (Bk g R)):
 AX AC 51 #[.pointer (some ⟨g,0,none⟩),.agg (BW 1 on wi ky vl i),.slice a m c] w (λe w'=>e= .returned (.bool true)/\R w'):=by
 obtain⟨o,t⟩:∃o,o=w.alloc (.cells (BW 1 on wi ky vl i) 45):=⟨_,rfl⟩;have u:o.heap.size=w.heap.size+1:=by rw[t];simp
 have l:Hid (AL w.heap.size w o):=by rw[t];exact Ac
 have s:o.heap[w.heap.size]? =some (.cells (BW 1 on wi ky vl i) 45 (0,0)):=by rw[t];exact Ah w _
 have y:o.cell? ⟨w.heap.size,0,none⟩=some (.int .i64 1):=Aj s;have H:=AA (h o l.o);clear h s;subst t;go_enter func51,ntmps51;go_wp2_with fail;refine H.o.mono ?_;rintro e f ⟨rfl,r⟩;have d:=AA r;clear r;go_wp2;go_ret;exact⟨rfl,d.o⟩
theorem V4(w:AB)(g:Nat)(on wi i:AS)(ky vl:ByteArray)(a:Option Ai)(m c:Nat)
 (h:∀n,AL w.heap.size w n->AX AC 85 #[.pointer (some ⟨g,0,none⟩),.slice a m c] n (Bk g R)):
 AX AC 51 #[.pointer (some ⟨g,0,none⟩),.agg (BW 2 on wi ky vl i),.slice a m c] w (λe w'=>e= .returned (.bool true)/\R w'):=by
 obtain⟨o,t⟩:∃o,o=w.alloc (.cells (BW 2 on wi ky vl i) 45):=⟨_,rfl⟩;have u:o.heap.size=w.heap.size+1:=by rw[t];simp
 have l:Hid (AL w.heap.size w o):=by rw[t];exact Ac
 have s:o.heap[w.heap.size]? =some (.cells (BW 2 on wi ky vl i) 45 (0,0)):=by rw[t];exact Ah w _
 have y:o.cell? ⟨w.heap.size,0,none⟩=some (.int .i64 2):=Aj s;have H:=AA (h o l.o);clear h s;subst t;go_enter func51,ntmps51;go_wp2_with fail;refine H.o.mono ?_;rintro e f ⟨rfl,r⟩;have d:=AA r;clear r;go_wp2;go_ret;exact⟨rfl,d.o⟩
theorem V5(w:AB)(g:Nat)(on wi i:AS)(ky vl:ByteArray)(a:Option Ai)(m c:Nat)
 (h:∀n,AL w.heap.size w n->AX AC 86 #[.pointer (some ⟨g,0,none⟩),.slice a m c] n (Bk g R)):
 AX AC 51 #[.pointer (some ⟨g,0,none⟩),.agg (BW 3 on wi ky vl i),.slice a m c] w (λe w'=>e= .returned (.bool true)/\R w'):=by
 obtain⟨o,t⟩:∃o,o=w.alloc (.cells (BW 3 on wi ky vl i) 45):=⟨_,rfl⟩;have u:o.heap.size=w.heap.size+1:=by rw[t];simp
 have l:Hid (AL w.heap.size w o):=by rw[t];exact Ac
 have s:o.heap[w.heap.size]? =some (.cells (BW 3 on wi ky vl i) 45 (0,0)):=by rw[t];exact Ah w _
 have y:o.cell? ⟨w.heap.size,0,none⟩=some (.int .i64 3):=Aj s;have H:=AA (h o l.o);clear h s;subst t;go_enter func51,ntmps51;go_wp2_with fail;refine H.o.mono ?_;rintro e f ⟨rfl,r⟩;have d:=AA r;clear r;go_wp2;go_ret;exact⟨rfl,d.o⟩
theorem V6(w:AB)(g:Nat)(on wi i:AS)(ky vl:ByteArray)(a:Option Ai)(m c:Nat)
 (h:∀n,AL w.heap.size w n->AX AC 87 #[.pointer (some ⟨g,0,none⟩),.slice a m c] n (Bk g R)):
 AX AC 51 #[.pointer (some ⟨g,0,none⟩),.agg (BW 4 on wi ky vl i),.slice a m c] w (λe w'=>e= .returned (.bool true)/\R w'):=by
 obtain⟨o,t⟩:∃o,o=w.alloc (.cells (BW 4 on wi ky vl i) 45):=⟨_,rfl⟩;have u:o.heap.size=w.heap.size+1:=by rw[t];simp
 have l:Hid (AL w.heap.size w o):=by rw[t];exact Ac
 have s:o.heap[w.heap.size]? =some (.cells (BW 4 on wi ky vl i) 45 (0,0)):=by rw[t];exact Ah w _
 have y:o.cell? ⟨w.heap.size,0,none⟩=some (.int .i64 4):=Aj s;have H:=AA (h o l.o);clear h s;subst t;go_enter func51,ntmps51;go_wp2_with fail;refine H.o.mono ?_;rintro e f ⟨rfl,r⟩;have d:=AA r;clear r;go_wp2;go_ret;exact⟨rfl,d.o⟩
theorem V7(w:AB)(g:Nat)(on wi i:AS)(ky vl:ByteArray)(a:Option Ai)(m c:Nat)
 (h:∀n,AL w.heap.size w n->AX AC 88 #[.pointer (some ⟨g,0,none⟩),.slice a m c] n (Bk g R)):
 AX AC 51 #[.pointer (some ⟨g,0,none⟩),.agg (BW 5 on wi ky vl i),.slice a m c] w (λe w'=>e= .returned (.bool true)/\R w'):=by
 obtain⟨o,t⟩:∃o,o=w.alloc (.cells (BW 5 on wi ky vl i) 45):=⟨_,rfl⟩;have u:o.heap.size=w.heap.size+1:=by rw[t];simp
 have l:Hid (AL w.heap.size w o):=by rw[t];exact Ac
 have s:o.heap[w.heap.size]? =some (.cells (BW 5 on wi ky vl i) 45 (0,0)):=by rw[t];exact Ah w _
 have y:o.cell? ⟨w.heap.size,0,none⟩=some (.int .i64 5):=Aj s;have H:=AA (h o l.o);clear h s;subst t;go_enter func51,ntmps51;go_wp2_with fail;refine H.o.mono ?_;rintro e f ⟨rfl,r⟩;have d:=AA r;clear r;go_wp2;go_ret;exact⟨rfl,d.o⟩
theorem V8(w:AB)(g:Nat)(on wi i:AS)(ky vl:ByteArray)(a:Option Ai)(m c:Nat)
 (h:∀n,AL w.heap.size w n->AX AC 89 #[.pointer (some ⟨g,0,none⟩)] n (Bk g R)):
 AX AC 51 #[.pointer (some ⟨g,0,none⟩),.agg (BW 6 on wi ky vl i),.slice a m c] w (λe w'=>e= .returned (.bool true)/\R w'):=by
 obtain⟨o,t⟩:∃o,o=w.alloc (.cells (BW 6 on wi ky vl i) 45):=⟨_,rfl⟩;have u:o.heap.size=w.heap.size+1:=by rw[t];simp
 have l:Hid (AL w.heap.size w o):=by rw[t];exact Ac
 have s:o.heap[w.heap.size]? =some (.cells (BW 6 on wi ky vl i) 45 (0,0)):=by rw[t];exact Ah w _
 have y:o.cell? ⟨w.heap.size,0,none⟩=some (.int .i64 6):=Aj s;have H:=AA (h o l.o);clear h s;subst t;go_enter func51,ntmps51;go_wp2_with fail;refine H.o.mono ?_;rintro e f ⟨rfl,r⟩;have d:=AA r;clear r;go_wp2;go_ret;exact⟨rfl,d.o⟩
theorem V9(w:AB)(g:Nat)(on wi i:AS)(ky vl:ByteArray)(a:Option Ai)(m c:Nat)
 (h:∀n,AL w.heap.size w n->AX AC 90 #[.pointer (some ⟨g,0,none⟩)] n (λe w'=>(∃d,e= .returned (.pointer (some ⟨d,0,none⟩)))/\R w')):
 AX AC 51 #[.pointer (some ⟨g,0,none⟩),.agg (BW 7 on wi ky vl i),.slice a m c] w (λe w'=>e= .returned (.bool true)/\R w'):=by
 obtain⟨o,t⟩:∃o,o=w.alloc (.cells (BW 7 on wi ky vl i) 45):=⟨_,rfl⟩;have f:o.heap.size=w.heap.size+1:=by rw[t];simp
 have u:Hid (AL w.heap.size w o):=by rw[t];exact Ac
 have s:o.heap[w.heap.size]? =some (.cells (BW 7 on wi ky vl i) 45 (0,0)):=by rw[t];exact Ah w _
 have p:o.cell? ⟨w.heap.size,0,none⟩=some (.int .i64 7):=Aj s;have H:=AA (h o u.o);clear h s;subst t;go_enter func51,ntmps51;go_wp2_with fail;refine H.o.mono ?_;rintro e y ⟨⟨d,rfl⟩,r⟩;have l:=AA r;clear r;go_wp2;go_ret;exact⟨rfl,l.o⟩
theorem V_(w:AB)(g:Nat)(on wi i:AS)(ky vl:ByteArray)(a:Option Ai)(m c:Nat)
 (h:∀n,AL w.heap.size w n->AX AC 91 #[.pointer (some ⟨g,0,none⟩)] n (Bk g R)):
 AX AC 51 #[.pointer (some ⟨g,0,none⟩),.agg (BW 8 on wi ky vl i),.slice a m c] w (λe w'=>e= .returned (.bool true)/\R w'):=by
 obtain⟨o,t⟩:∃o,o=w.alloc (.cells (BW 8 on wi ky vl i) 45):=⟨_,rfl⟩;have u:o.heap.size=w.heap.size+1:=by rw[t];simp
 have l:Hid (AL w.heap.size w o):=by rw[t];exact Ac
 have s:o.heap[w.heap.size]? =some (.cells (BW 8 on wi ky vl i) 45 (0,0)):=by rw[t];exact Ah w _
 have y:o.cell? ⟨w.heap.size,0,none⟩=some (.int .i64 8):=Aj s;have H:=AA (h o l.o);clear h s;subst t;go_enter func51,ntmps51;go_wp2_with fail;refine H.o.mono ?_;rintro e f ⟨rfl,r⟩;have d:=AA r;clear r;go_wp2;go_ret;exact⟨rfl,d.o⟩
theorem Wh(w:AB)(g:Nat)(on wi o:AS)(ky vl:ByteArray)(p:Ai)
 (h:∀i,AL w.heap.size w i->AX AC 121 #[.pointer (some ⟨g,0,none⟩),.pointer (some p)] i (Bk g R)):
 AX AC 92 #[.pointer (some ⟨g,0,none⟩),.agg (BW 9 on wi ky vl o),.pointer (some p)] w (λe w'=>e= .returned (.bool true)/\R w'):=by
 obtain⟨a,t⟩:∃a,a=w.alloc (.cells (BW 9 on wi ky vl o) 45):=⟨_,rfl⟩;have l:a.heap.size=w.heap.size+1:=by rw[t];simp
 have d:Hid (AL w.heap.size w a):=by rw[t];exact Ac
 have n:a.heap[w.heap.size]? =some (.cells (BW 9 on wi ky vl o) 45 (0,0)):=by rw[t];exact Ah w _
 have c:a.cell? ⟨w.heap.size,0,none⟩=some (.int .i64 9):=Aj n;have H:=AA (h a d.o);clear h n;subst t;go_enter func92,ntmps92;go_wp2_with fail;refine H.o.mono ?_;rintro e u ⟨rfl,s⟩;have r:=AA s;clear s;go_wp2;go_ret;exact⟨rfl,r.o⟩
theorem VF(w:AB)(g:Nat)(on wi o:AS)(ky vl:ByteArray)(p:Ai)
 (h:∀i,AL w.heap.size w i->AX AC 122 #[.pointer (some ⟨g,0,none⟩),.pointer (some p)] i (Bk g R)):
 AX AC 92 #[.pointer (some ⟨g,0,none⟩),.agg (BW 10 on wi ky vl o),.pointer (some p)] w (λe w'=>e= .returned (.bool true)/\R w'):=by
 obtain⟨a,t⟩:∃a,a=w.alloc (.cells (BW 10 on wi ky vl o) 45):=⟨_,rfl⟩;have l:a.heap.size=w.heap.size+1:=by rw[t];simp
 have d:Hid (AL w.heap.size w a):=by rw[t];exact Ac
 have n:a.heap[w.heap.size]? =some (.cells (BW 10 on wi ky vl o) 45 (0,0)):=by rw[t];exact Ah w _
 have c:a.cell? ⟨w.heap.size,0,none⟩=some (.int .i64 10):=Aj n;have H:=AA (h a d.o);clear h n;subst t;go_enter func92,ntmps92;go_wp2_with fail;refine H.o.mono ?_;rintro e u ⟨rfl,s⟩;have r:=AA s;clear s;go_wp2;go_ret;exact⟨rfl,r.o⟩
theorem VG(w:AB)(g:Nat)(on wi o:AS)(ky vl:ByteArray)(p:Ai)
 (h:∀i,AL w.heap.size w i->AX AC 123 #[.pointer (some ⟨g,0,none⟩),.pointer (some p)] i (Bk g R)):
 AX AC 92 #[.pointer (some ⟨g,0,none⟩),.agg (BW 11 on wi ky vl o),.pointer (some p)] w (λe w'=>e= .returned (.bool true)/\R w'):=by
 obtain⟨a,t⟩:∃a,a=w.alloc (.cells (BW 11 on wi ky vl o) 45):=⟨_,rfl⟩;have l:a.heap.size=w.heap.size+1:=by rw[t];simp
 have d:Hid (AL w.heap.size w a):=by rw[t];exact Ac
 have n:a.heap[w.heap.size]? =some (.cells (BW 11 on wi ky vl o) 45 (0,0)):=by rw[t];exact Ah w _
 have c:a.cell? ⟨w.heap.size,0,none⟩=some (.int .i64 11):=Aj n;have H:=AA (h a d.o);clear h n;subst t;go_enter func92,ntmps92;go_wp2_with fail;refine H.o.mono ?_;rintro e u ⟨rfl,s⟩;have r:=AA s;clear s;go_wp2;go_ret;exact⟨rfl,r.o⟩
theorem V'(w:AB)(g:Nat)(on wi n:AS)(ky vl:ByteArray)(b o c:Nat)(p:Ai)(l:w.cell? ⟨b,o,none⟩=some (.pointer (some p)))(m:b<w.heap.size)
 (h:∀d,AL w.heap.size w d->AX AC 92 #[.pointer (some ⟨g,0,none⟩),.agg (BW 9 on wi ky vl n),.pointer (some p)] d (λe w'=>e= .returned (.bool true)/\R w')):
 AX AC 51 #[.pointer (some ⟨g,0,none⟩),.agg (BW 9 on wi ky vl n),.slice (some ⟨b,o,none⟩) 1 c] w (λe w'=>e= .returned (.bool true)/\R w'):=by
 obtain⟨t,a⟩:∃t,t=w.alloc (.cells (BW 9 on wi ky vl n) 45):=⟨_,rfl⟩;have r:t.heap.size=w.heap.size+1:=by rw[a];simp
 have s:Hid (AL w.heap.size w t):=by rw[a];exact Ac
 have i:t.heap[w.heap.size]? =some (.cells (BW 9 on wi ky vl n) 45 (0,0)):=by rw[a];exact Ah w _
 have f:t.cell? ⟨w.heap.size,0,none⟩=some (.int .i64 9):=Aj i;have c1:t.cell? ⟨w.heap.size,1,none⟩=some on:=Aj i;have c2:t.cell? ⟨w.heap.size,2,none⟩=some wi:=Aj i;have c3:t.cell? ⟨w.heap.size,3,none⟩=some (.string ky):=Aj i;have c4:t.cell? ⟨w.heap.size,4,none⟩=some (.string vl):=Aj i;have c5:t.cell? ⟨w.heap.size,5,none⟩=some n:=Aj i;have cp:t.cell? ⟨b,o,none⟩=some (.pointer (some p)):=by
  unfold World.cell?;rw[s.o.block b m];exact l
 have k:Hid (AL w.heap.size w t.drew):=s.o.drew;have H:=AA (h t.drew k.o);clear h i l;have y:=AA a;subst a;go_enter func51,ntmps51;go_wp2_with fail;obtain⟨t,a⟩:∃t,t=w.alloc (.cells (BW 9 on wi ky vl n) 45):=⟨_,rfl⟩;rw[<-a]at f c1 c2 c3 c4 c5 cp H|-;clear s y r a;refine wp_region_still_tail 9 (by kernel_rfl) (by kernel_rfl) ?_;simp only[List.take_succ_cons,BM,List.drop_succ_cons,List.drop_zero];iterate 9 still_step
 refine wpStill_nil ?_;change wpList _ _ _ _ _ t.drew;go_wp2_with fail;refine H.o.mono ?_;rintro e q ⟨rfl,u⟩;have v:=AA u;clear u;go_wp2;go_ret;exact⟨rfl,v.o⟩
theorem UY(w:AB)(g:Nat)(on wi n:AS)(ky vl:ByteArray)(b o c:Nat)(p:Ai)(l:w.cell? ⟨b,o,none⟩=some (.pointer (some p)))(m:b<w.heap.size)
 (h:∀d,AL w.heap.size w d->AX AC 92 #[.pointer (some ⟨g,0,none⟩),.agg (BW 10 on wi ky vl n),.pointer (some p)] d (λe w'=>e= .returned (.bool true)/\R w')):
 AX AC 51 #[.pointer (some ⟨g,0,none⟩),.agg (BW 10 on wi ky vl n),.slice (some ⟨b,o,none⟩) 1 c] w (λe w'=>e= .returned (.bool true)/\R w'):=by
 obtain⟨t,a⟩:∃t,t=w.alloc (.cells (BW 10 on wi ky vl n) 45):=⟨_,rfl⟩;have r:t.heap.size=w.heap.size+1:=by rw[a];simp
 have s:Hid (AL w.heap.size w t):=by rw[a];exact Ac
 have i:t.heap[w.heap.size]? =some (.cells (BW 10 on wi ky vl n) 45 (0,0)):=by rw[a];exact Ah w _
 have f:t.cell? ⟨w.heap.size,0,none⟩=some (.int .i64 10):=Aj i;have c1:t.cell? ⟨w.heap.size,1,none⟩=some on:=Aj i;have c2:t.cell? ⟨w.heap.size,2,none⟩=some wi:=Aj i;have c3:t.cell? ⟨w.heap.size,3,none⟩=some (.string ky):=Aj i;have c4:t.cell? ⟨w.heap.size,4,none⟩=some (.string vl):=Aj i;have c5:t.cell? ⟨w.heap.size,5,none⟩=some n:=Aj i;have cp:t.cell? ⟨b,o,none⟩=some (.pointer (some p)):=by
  unfold World.cell?;rw[s.o.block b m];exact l
 have k:Hid (AL w.heap.size w t.drew):=s.o.drew;have H:=AA (h t.drew k.o);clear h i l;have y:=AA a;subst a;go_enter func51,ntmps51;go_wp2_with fail;obtain⟨t,a⟩:∃t,t=w.alloc (.cells (BW 10 on wi ky vl n) 45):=⟨_,rfl⟩;rw[<-a]at f c1 c2 c3 c4 c5 cp H|-;clear s y r a;refine wp_region_still_tail 9 (by kernel_rfl) (by kernel_rfl) ?_;simp only[List.take_succ_cons,BM,List.drop_succ_cons,List.drop_zero];iterate 9 still_step
 refine wpStill_nil ?_;change wpList _ _ _ _ _ t.drew;go_wp2_with fail;refine H.o.mono ?_;rintro e q ⟨rfl,u⟩;have v:=AA u;clear u;go_wp2;go_ret;exact⟨rfl,v.o⟩
theorem UZ(w:AB)(g:Nat)(on wi n:AS)(ky vl:ByteArray)(b o c:Nat)(p:Ai)(l:w.cell? ⟨b,o,none⟩=some (.pointer (some p)))(m:b<w.heap.size)
 (h:∀d,AL w.heap.size w d->AX AC 92 #[.pointer (some ⟨g,0,none⟩),.agg (BW 11 on wi ky vl n),.pointer (some p)] d (λe w'=>e= .returned (.bool true)/\R w')):
 AX AC 51 #[.pointer (some ⟨g,0,none⟩),.agg (BW 11 on wi ky vl n),.slice (some ⟨b,o,none⟩) 1 c] w (λe w'=>e= .returned (.bool true)/\R w'):=by
 obtain⟨t,a⟩:∃t,t=w.alloc (.cells (BW 11 on wi ky vl n) 45):=⟨_,rfl⟩;have r:t.heap.size=w.heap.size+1:=by rw[a];simp
 have s:Hid (AL w.heap.size w t):=by rw[a];exact Ac
 have i:t.heap[w.heap.size]? =some (.cells (BW 11 on wi ky vl n) 45 (0,0)):=by rw[a];exact Ah w _
 have f:t.cell? ⟨w.heap.size,0,none⟩=some (.int .i64 11):=Aj i;have c1:t.cell? ⟨w.heap.size,1,none⟩=some on:=Aj i;have c2:t.cell? ⟨w.heap.size,2,none⟩=some wi:=Aj i;have c3:t.cell? ⟨w.heap.size,3,none⟩=some (.string ky):=Aj i;have c4:t.cell? ⟨w.heap.size,4,none⟩=some (.string vl):=Aj i;have c5:t.cell? ⟨w.heap.size,5,none⟩=some n:=Aj i;have cp:t.cell? ⟨b,o,none⟩=some (.pointer (some p)):=by
  unfold World.cell?;rw[s.o.block b m];exact l
 have k:Hid (AL w.heap.size w t.drew):=s.o.drew;have H:=AA (h t.drew k.o);clear h i l;have y:=AA a;subst a;go_enter func51,ntmps51;go_wp2_with fail;obtain⟨t,a⟩:∃t,t=w.alloc (.cells (BW 11 on wi ky vl n) 45):=⟨_,rfl⟩;rw[<-a]at f c1 c2 c3 c4 c5 cp H|-;clear s y r a;refine wp_region_still_tail 9 (by kernel_rfl) (by kernel_rfl) ?_;simp only[List.take_succ_cons,BM,List.drop_succ_cons,List.drop_zero];iterate 9 still_step
 refine wpStill_nil ?_;change wpList _ _ _ _ _ t.drew;go_wp2_with fail;refine H.o.mono ?_;rintro e q ⟨rfl,u⟩;have v:=AA u;clear u;go_wp2;go_ret;exact⟨rfl,v.o⟩
theorem Rq(n:Nat)(hn:n<=200)(bl:Nat->Nat)(A:Option Ai)(Z:Nat)(P:Option Ai)(c:Nat)(l:List Int)(ns:List Nat)(I:GX n l ns)(J:l.length<=2147483647)(w:AB)(G:B6 w w.heap.size A (Ad bl (BV n)))(h:Kj w w.heap.size P l):
 AX AC 45 #[.slice A n Z,.slice P l.length c] w (NO bl ns w):=by
 have s:l.length=ns.length:=by rw[I.eq];simp
 have K:=AA I;have HA:=AA G;have HH:=AA h;obtain⟨Q,E,D,R,H⟩:=D6 Tryz.ZF;rw[s]at J|-;have r:=AA s;clear I G h s;go_enter func45,ntmps45;go_wp2;go_loopw [6,11] (λv x wr=>O1 0 bl ns w v x wr) (λ_ x _=>ns.length-(Aa x).toNat)
 .exact⟨0,none,0,by omega,rfl,rfl,Aw _ _ _ _,AW _ _⟩
 obtain⟨k,a,c1,hk,rfl,rfl,i,y⟩:=hrel;by_cases m:k<ns.length
 .obtain⟨b,o,rfl,U,Y⟩:=HH.o.at_ (by rw[r.o];omega);have O:=Y k (by rw[r.o];exact m);have hx:l[k]'(by rw[r.o];exact m)=(ns[k]:Int):=by
   have:=K.o.eq;subst this;simp
  rw[hx]at O;replace O:=(y.cell (p:=⟨b,_,none⟩) U).trans O;have S:=K.o.lt ns[k] (AD m);obtain⟨L,p,rfl,X,z⟩:=HA.o.at_ (by rw[AM,D7];omega);have T:=z ns[k] (by rw[AM,D7];exact S);rw[A5 (by rw[D7];exact S),List.getElem_range]at T;replace T:=(y.cell (p:=⟨L,_,none⟩) X).trans T;obtain⟨j,N⟩:∃j,j=ns[k]:=⟨_,rfl⟩;rw[<-N]at O T S;have HJ:Hid (ns.take (k+1)=ns.take k++[j]):=by
   rw[Hid,AF m,N]
  have V:=AA i;have hsz:=y.size;clear Y hx N i z;go_wp2_with(at_builtin;refine wpList_append_own _ rfl _ _ 63 rfl w.heap.size 70 Q (.pointer none) 1 8 underlying63 E D R H rfl (by decide) _ _ _ rfl (V.o.alloc _) ⟨wr.heap.size,0,none⟩ 1 1 [.pointer (some ⟨bl j,0,none⟩)] rfl rfl ?c1 ?c2 ?c3 ?c4 ?c5 ?_)
  case c1=>
   intro q u f
   match q,f with
   |0,f=>simp at f;subst f;simp[Addr.add]
  case c2=>intro u W;simp at W;subst W;rfl
  case c3=>unfold maxLen;omega
  case c4=>omega
  case c5=>simp;omega
  intro v' F t d _;obtain⟨B,c2,g⟩:=DA t;rw[g]at t|-;have C:AL w.heap.size w F:=(y.alloc y.size _).grown d (by simp;omega) (λq f=>(V.o.lt q f).1);have M:Hid (F.ownsRow w.heap.size 70 1 (.slice B (k+1) c2) (k+1) (Ad bl (ns.take (k+1)))):=by
   rw[Hid,HJ.o,K7];exact t
  clear t d g;go_wp2;go_roundw
  .exact⟨k+1,B,c2,by omega,by go_num,rfl,M.o,C⟩
  simp[Aa];omega
 go_wp2_with fail;go_ret2;have e:k=ns.length:=by omega
 subst e;rw[AU]at i;exact⟨a,c1,rfl,i,y⟩
theorem Jm.own{L:Nat}(h:Jm t w B L Z V)(r:t.length<=200):w.ownsRow B 70 1 (.slice (some ⟨L,0,none⟩) t.length t.length) t.length (Ad Z (BV t.length)):=by
 obtain⟨e,n,d,i⟩:=h.row;refine⟨by simp[Ad],.inr ⟨L,t.length,e,rfl,h.base,n,AG _,by unfold maxLen;omega,by omega,?_⟩⟩;refine List.ext_getElem (by simp[Ad];omega) λj s a=> ?_;have o:j<t.length:=by rw[AM,D7]at a;exact a
 have q:=i j o;rw[A5 (by rw[D7];exact o),List.getElem_range,F_,Array.getElem_toList];rw[Array.getElem?_eq_getElem (by omega)]at q;exact Cw q
section
variable {P:Program} {ops:Array ER} {Q:Exit->Act->AB->Prop} {md:Region.Mode} {S:AB->Prop}
variable {f:Nat}
def EO(P:Program)(md:Region.Mode)(ops:Array ER)(Q:Exit->Act->AB->Prop)(S:AB->Prop)(f:Nat):Nat->Array Bool->Act->AB->Prop
 |0,e,a,w=>CP md ops e=[]/\Q .normal a w
 |fuel+1,e,a,w=>
  (CP md ops e=[]->Q .normal a w)/\
  ∀i∈CP md ops e,wpOp P ops Q i (λo t=>((e.setIfInBounds i true).getD f true=false->S t)/\EO P md ops Q S f fuel (e.setIfInBounds i true) o t) a w
theorem Mz:∀(fuel:Nat) (e:Array Bool) (a:Act) (w:AB),EO P md ops Q S f fuel e a w->wpAny P md ops Q fuel e a w
 |0,_,_,_,h=>h
 |fuel+1,_,_,_,h=>⟨h.1,λi o=>wpOp_mono (λs t n=>Mz fuel _ s t n.2) (h.2 i o)⟩
theorem Og{z:ER}(G:ops[i]? =some z)(m:∀(j:Nat) (o:ER) I b,ops[j]? =some o->o.op≠ .select I b)
 (hQ:∀c a w,Q (.panic c) (a.put z.dst v) w->Q (.panic c) a w)(Z:i≠f)(hf:∃Y,ops[f]? =some Y/\∃e∈Y.after,Ev md e=true/\e.on=i):
 ∀(s:Nat) (t:Array Bool) (a:Act) (w:AB),
  (∀j x,ops[j]? =some x->j≠i->t.getD j true=false->(∀e∈x.after,Ev md e=true->e.on≠i)->z.apart ops x=true)->
  i∈CP md ops t->YieldsIf P ops S z v a->S w->t.getD f true=false->
  EO P md ops Q S f s (t.setIfInBounds i true) (a.put z.dst v) w->EO P md ops Q S f (s+1) t a w:=by
 intro s;induction s with
 |zero=>
  intro t a w _ hr M A L H;refine⟨λh=>(by rw[h]at hr;cases hr),λj F=> ?_⟩;by_cases n:j=i
  .subst n;exact M.wpOp G A ⟨λ_=>A,H⟩
  have:=ready_mono F n;rw[H.1]at this;cases this
 |succ s ih=>
  intro t a w r hr M A L H;refine⟨λh=>(by rw[h]at hr;cases hr),λj F=> ?_⟩;by_cases n:j=i
  .subst n;exact M.wpOp G A ⟨λ_=>A,H⟩
  have E:=H.2 j (ready_mono F n);obtain⟨g,x,d,C⟩:=mem_ready.1 F;have y:∀e∈x.after,Ev md e=true->e.on≠i:=λe B V et=>by
   have E:=C e B V;have h0:=(mem_ready.1 hr).1;rw[et]at E;rcases Be i t.size with O|O
   .simp[O]at h0 E;rw[h0]at E;cases E
   simp[Array.getElem?_eq_none O]at E
  have T:j≠f:=by
   rintro rfl;obtain⟨Y,R,e,B,V,K⟩:=hf;rw[d]at R;cases R
   exact y e B V K
  have h2:=wpOp_putIf d (r j x d n g y) (λI b=>m i z I b G) (λI b=>m j x I b d) hQ M E;have u:∀k ok,ops[k]? =some ok->k≠i->(t.setIfInBounds j true).getD k true=false->
   (∀e∈ok.after,Ev md e=true->e.on≠i)->z.apart ops ok=true:=λk ok hk X N J=>by
   refine r k ok hk X ?_ J;by_cases D:j=k
   .subst D;exact g
   rw[getD_set_ne true D]at N;exact N
  have ee:∀l:Array Bool,(l.setIfInBounds i true).getD f true=l.getD f true:=λl=>getD_set_ne true Z;have U:∀q,(((t.setIfInBounds i true).setIfInBounds j true).getD f true=false->S q)->((t.setIfInBounds j true).getD f true=false->S q):=λq h O=>h (by
   rw[getD_set_ne true T,ee]
   rwa [getD_set_ne true T]at O)
  have p:(t.setIfInBounds j true).getD f true=false:=by rw[getD_set_ne true T];exact L
  refine wpOp_mono (λa' q W=>⟨U q W.2.1,ih (t.setIfInBounds j true) a' q u (ready_mono hr (Ne.symm n)) W.1 (U q W.2.1 p) p ?_⟩) h2;rw[Array.setIfInBounds_comm _ _ n];exact W.2.2
theorem P3{q:ER}(C:ops[i]? =some q)(y:∀(j:Nat) (o:ER) T b,ops[j]? =some o->o.op≠ .select T b)
 (hQ:∀c a w,Q (.panic c) (a.put q.dst v) w->Q (.panic c) a w)(Y:i≠f):
 ∀(s:Nat) (t:Array Bool) (a:Act) (w:AB),
  (∀j p,ops[j]? =some p->j≠i->t.getD j true=false->(∀e∈p.after,Ev md e=true->e.on≠i)->q.apart ops p=true)->
  i∈CP md ops t->YieldsIf P ops (λ_=>True) q v a->((t.setIfInBounds i true).getD f true=false->S w)->
  EO P md ops Q S f s (t.setIfInBounds i true) (a.put q.dst v) w->EO P md ops Q S f (s+1) t a w:=by
 intro s;induction s with
 |zero=>
  intro t a w _ hr D M H;refine⟨λh=>(by rw[h]at hr;cases hr),λj L=> ?_⟩;by_cases n:j=i
  .subst n;exact D.wpOp C trivial ⟨M,H⟩
  have:=ready_mono L n;rw[H.1]at this;cases this
 |succ s K=>
  intro t a w d hr D M H;refine⟨λh=>(by rw[h]at hr;cases hr),λj L=> ?_⟩;by_cases n:j=i
  .subst n;exact D.wpOp C trivial ⟨M,H⟩
  have x:=H.2 j (ready_mono L n);obtain⟨g,p,E,R⟩:=mem_ready.1 L;have N:∀e∈p.after,Ev md e=true->e.on≠i:=λe X Z G=>by
   have x:=R e X Z;have B:=(mem_ready.1 hr).1;rw[G]at x;rcases Be i t.size with z|z
   .simp[z]at B x;rw[B]at x;cases x
   simp[Array.getElem?_eq_none z]at x
  have h2:=wpOp_putIf E (d j p E n g N) (λT b=>y i q T b C) (λT b=>y j p T b E) hQ D x;have m:∀k ok,ops[k]? =some ok->k≠i->(t.setIfInBounds j true).getD k true=false->
   (∀e∈ok.after,Ev md e=true->e.on≠i)->q.apart ops ok=true:=λk ok J W A F=>by
   refine d k ok J W ?_ F;by_cases O:j=k
   .subst O;exact g
   rw[getD_set_ne true O]at A;exact A
  have I:∀l:Array Bool,(l.setIfInBounds i true).getD f true=l.getD f true:=λl=>getD_set_ne true Y;have r:(((t.setIfInBounds i true).setIfInBounds j true).getD f true)=(t.setIfInBounds j true).getD f true:=by
   rw[<-Array.setIfInBounds_comm _ _ n];exact I _
  have u:(((t.setIfInBounds j true).setIfInBounds i true).getD f true)=(t.setIfInBounds j true).getD f true:=I _;refine wpOp_mono (λa' V U=>⟨λz=>U.2.1 (r.trans z),K (t.setIfInBounds j true) a' V m (ready_mono hr (Ne.symm n)) U.1 (λz=>U.2.1 (r.trans (u.symm.trans z))) ?_⟩) h2;rw[Array.setIfInBounds_comm _ _ n];exact U.2.2
theorem P4{t:ER}{e:Nat}{a:Act}(r:ops[i]? =some t)
 (l:Region.noSelect ops=true)(s:Region.free md ops X i=true)(hr:(CP md ops X).contains i=true)
 (o:Region.waitsFor md ops f i=true)(n:(i==f)=false)(u:X.getD f true=false)
 (y:∀c a w,Q (.panic c) (a.put t.dst v) w->Q (.panic c) a w)(d:YieldsIf P ops S t v a)(m:S w)
 (h:EO P md ops Q S f e (X.setIfInBounds i true) (a.put t.dst v) w):EO P md ops Q S f (e+1) X a w:=
 Og r (Region.noSelect_spec l) y (CY.1 n) (Region.waitsFor_spec o) e X a w (Region.free_spec r s) (by simpa using hr) d m u h
theorem Oh{t:ER}{e:Nat}{a:Act}(s:ops[i]? =some t)
 (d:Region.noSelect ops=true)(n:Region.free md ops X i=true)(hr:(CP md ops X).contains i=true)
 (o:(i==f)=false)
 (u:∀c a w,Q (.panic c) (a.put t.dst v) w->Q (.panic c) a w)(r:YieldsIf P ops (λ_=>True) t v a)(l:(X.setIfInBounds i true).getD f true=false->S w)
 (h:EO P md ops Q S f e (X.setIfInBounds i true) (a.put t.dst v) w):EO P md ops Q S f (e+1) X a w:=
 P3 s (Region.noSelect_spec d) u (CY.1 o) e X a w (Region.free_spec s n) (by simpa using hr) r l h
theorem Cl{o:ER}{e:Nat}{a:Act}(hr:CP md ops X=[i])(r:ops[i]? =some o)
 (h:∀t:Act->AB->Prop,Shut (∀a w,((X.setIfInBounds i true).getD f true=false->S w)->EO P md ops Q S f e (X.setIfInBounds i true) a w->t a w)->if Du o (yielded ops a.tmps)=true then Oper.wp P o a w t Q else t (a.put o.dst undef) w):
 EO P md ops Q S f (e+1) X a w:=by
 refine⟨λs=>(by rw[hr]at s;cases s),λj n=> ?_⟩;rw[hr,AP]at n;subst n;exact wpOp_step r (λt u=>h t (λa w l d=>u a w ⟨l,d⟩))
theorem Le{a:Act}(hr:CP md ops X=[])(h:Q .normal a w):∀e,EO P md ops Q S f e X a w
 |0=>⟨hr,h⟩
 |_+1=>⟨λ_=>h,by rw[hr];simp⟩
theorem Lg{id:Nat}{a:Act}(e:P.follows .mixedOrders=true)
 (h:EO P .any ops Q S f ops.size (Array.replicate ops.size false) a w.drew):(Code.region id ops true).wp P Q a w:=
 wp_region_any e (Mz _ _ _ _ h)
end
theorem E9(i:Nat){P:Program}{o:Region.Mode}{S:AB->Prop}{f:Nat}{t:ER}{e:Nat}{a:Act}(u:(X.setIfInBounds i true).getD f true=false->S w)
 (h:EO P o T Q S f e (X.setIfInBounds i true) (a.put t.dst v) w)(l:T[i]? =some t:=by rfl)
 (d:Region.noSelect T=true:=by kernel_rfl)(s:Region.free o T X i=true:=by kernel_rfl)(hr:(CP o T X).contains i=true:=by kernel_rfl)(n:(i==f)=false:=by rfl)
 (m:∀c a w,Q (.panic c) (a.put t.dst v) w->Q (.panic c) a w:=by intro _ _ _ h;exact h)(r:YieldsIf P T (λ_=>True) t v a:=by refine Or.inl ⟨by rfl,?_⟩;intro y _;go_simp<;>with_reducible rfl):EO P o T Q S f (e+1) X a w:=
 Oh l d s hr n m r u h
theorem tD(i:Nat){P:Program}{t:Region.Mode}{S:AB->Prop}{f:Nat}{o:ER}{e:Nat}{a:Act}(n:S w)
 (h:EO P t T Q S f e (X.setIfInBounds i true) (a.put o.dst v) w)(y:T[i]? =some o:=by rfl)
 (u:Region.noSelect T=true:=by kernel_rfl)(d:Region.free t T X i=true:=by kernel_rfl)(hr:(CP t T X).contains i=true:=by kernel_rfl)(s:Region.waitsFor t T f i=true:=by kernel_rfl)(r:(i==f)=false:=by rfl)(m:X.getD f true=false:=by rfl)
 (g:∀c a w,Q (.panic c) (a.put o.dst v) w->Q (.panic c) a w:=by intro _ _ _ h;exact h)(l:YieldsIf P T S o v a:=by refine Or.inl ⟨by rfl,?_⟩;intro p n;(try dsimp only at n);go_simp<;>with_reducible rfl):EO P t T Q S f (e+1) X a w:=
 P4 y u d hr s r m g l n h
theorem MU:∀{i:Nat} (t:i<l.length),(CG l)[i*3]? =some (.string ⟨#[]⟩)/\(CG l)[i*3+1]? =some (.string l[i].key)/\(CG l)[i*3+2]? =some (.string l[i].val):=by
 induction l with
 |nil=>intro i t;simp at t
 |cons x l a=>
  intro i t;have e:CG (x::l)=[.string ⟨#[]⟩,.string x.key,.string x.val]++CG l:=rfl;rw[e]
  match i with
  |0=>exact⟨rfl,rfl,rfl⟩
  |i+1=>
   have:=a (i:=i) (by simpa using t);have o:(i+1)*3=i*3+3:=by omega
   rw[o];simpa using this
def Yj(o:Option At2):ByteArray:=match o with|some x=>x.val|none=>⟨#[]⟩
theorem J'(h:w.ownsRow B 49 2 (.slice a l.length c) l.length (CJ l))(r:l.length<=maxLen)(s:∀x∈l,x.key.size<=maxLen/\x.val.size<=maxLen):JZ w w.heap.size a l:=by
 refine⟨r,s,?_⟩;rcases h.2 with⟨_,d⟩|⟨g,cap,u,n,_⟩
 .exact .inl (Ag d)
 cases n
 refine .inr ⟨g,0,rfl,(h.lt g rfl).2,λi e=> ?_⟩;obtain⟨f0,f1⟩:=Hj e;have o:=h.cells (g:=g) rfl _ _ f0;have t:=h.cells (g:=g) rfl _ _ f1;rw[Ba]at o t;rw[Ae,AK e,BE];exact⟨o,t⟩
theorem Ks(l:List At2):(CG l).length=l.length*3:=by
 induction l with
 |nil=>rfl
 |cons x l e=>show([_,_,_]++CG l).length=_;rw[AN,e,Ak];simp;omega
theorem Fl(x:At2)(l:List At2):CG (x::l)= .string ⟨#[]⟩:: .string x.key:: .string x.val::CG l:=rfl
theorem SM(x:At2):∀(l:List At2) (i:Nat),CG (l.set i x)=(((CG l).set (i*3) (.string ⟨#[]⟩)).set (i*3+1) (.string x.key)).set (i*3+2) (.string x.val):=by
 intro l;induction l with
 |nil=>intro i;rfl
 |cons y l e=>
  intro i;cases i with
  |zero=>rfl
  |succ i=>
   rw[List.set_cons_succ,Fl,Fl,e,show(i+1)*3=i*3+3 by omega];rfl
theorem QY:∀(l:List At2) (m:Nat),CG (l.take m)=(CG l).take (m*3):=by
 intro l;induction l with
 |nil=>intro m;simp[CG]
 |cons y l e=>
  intro m;cases m with
  |zero=>rw[Nat.zero_mul];rfl
  |succ m=>
   rw[List.take_succ_cons,Fl,Fl,e,show(m+1)*3=m*3+3 by omega];rfl
theorem Rf{k:ByteArray}{m:Nat}(h:l.length=m+1)(a:B8 l k<l.length):F7 l k=(l.take m).set (B8 l k) (l[m]'(by omega)):=by
 obtain⟨i,t⟩:∃i,i=B8 l k:=⟨_,rfl⟩;unfold F7;rw[AJ a];rw[<-t]at a|-;by_cases e:i=m
 .subst e;rw[List.drop_of_length_le (by omega),Uo,Ey,List.set_eq_of_length_le (by rw[At];omega)]
 have o:l.drop (i+1)=(l.take m).drop (i+1)++[l[m]'(by omega)]:=by
  have:l=l.take m++[l[m]'(by omega)]:=by
   have n:l.take (m+1)=l:=BP (by omega);rw[<-AF (by omega),n]
  conv=>lhs;rw[this]
  rw[List.drop_append_of_le_length (by rw[At];omega)]
 rw[o,Nt,List.set_eq_take_append_cons_drop,AJ (by rw[At];omega),List.take_take,Nat.min_eq_left (by omega)]
theorem WN{e:List AS}{m:Nat}{z:At2}(n:l.length=m+1)(h:e.take (l.length*3)=CG l)(a b c:AS):
 ((((((e.set (i*3) (.string ⟨#[]⟩)).set (i*3+1) (.string z.key)).set (i*3+2) (.string z.val)).set (m*3) a).set (m*3+1) b).set (m*3+2) c).take (m*3)=CG ((l.take m).set i z):=by
 have o:e.take (m*3)=CG (l.take m):=by
  rw[QY,<-h,List.take_take,Nat.min_eq_left (by omega)]
 rw[List.take_set,List.take_set,List.take_set,List.take_set,List.take_set,List.take_set,o,SM];have t:(CG (l.take m)).length=m*3:=by rw[Ks,At];omega
 rw[List.set_eq_of_length_le (i:=m*3+2) (by simp[t]),List.set_eq_of_length_le (i:=m*3+1) (by simp[t]),List.set_eq_of_length_le (i:=m*3) (by simp[t])]
def VL(W:AB)(g ab i m cap:Nat)(z:At2):AB:=
 (((((((W.setCell ⟨ab,i*3,none⟩ (.string ⟨#[]⟩)).setCell ⟨ab,i*3+1,none⟩ (.string z.key)).setCell ⟨ab,i*3+2,none⟩ (.string z.val)).setCell ⟨ab,m*3,none⟩ (.string ⟨#[]⟩)).setCell ⟨ab,m*3+1,none⟩ (.string ⟨#[]⟩)).setCell ⟨ab,m*3+2,none⟩ (.string ⟨#[]⟩)).setCell ⟨g,9,none⟩ (.slice (some ⟨ab,0,none⟩) m cap)).drew
theorem DX(h:z.size=9):(z.push v)[9]? =some v:=by
 rw[<-h];simp
theorem WG(h:i<z.size):(z.push v)[i]? =z[i]? :=by
 rw[Array.getElem?_push,AI (by omega)]
theorem KW(h:z.size=9){u:AS}:(z.push u).setIfInBounds 9 v=z.push v:=by
 obtain⟨l⟩:=z;have e:l.length=9:=h;apply Array.ext';simp[e]
def J0(e:Array AS)(B:Nat)(l:List At2)(g:Nat)(w:AB):Prop:=
 e.size=9/\∃(aa:Option Ai) (ac:Nat),w.heap[g]? =some (.cells (e.push (.slice aa l.length ac)) 101 (0,0))/\w.ownsRow B 133 3 (.slice aa l.length ac) l.length (CG l)
structure NT(g:Nat)(w w':AB):Prop where
 os:w'.os=w.os
 tape:w'.tape=w.tape
 output:w'.output=w.output
 size:w.heap.size<=w'.heap.size
 block:∀b,b<w.heap.size->b≠g->rowAt w g≠some b->w'.heap[b]? =w.heap[b]?
 rw:∀b,rowAt w' g=some b->rowAt w g=some b\/w.heap.size<=b
theorem NT.Yq(h:AL w.heap.size w N)(t:g<w.heap.size):NT g w N:=⟨h.os,h.tape,h.output,h.size,λb a _ _=>h.block b a,λb e=> .inl (by rw[<-Ce (h.block g t)];exact e)⟩
theorem NT.up{a:AB}(h:NT g w a)(t:AL a.heap.size a M)(i:g<w.heap.size):NT g w M:=
 ⟨t.os.trans h.os,t.tape.trans h.tape,t.output.trans h.output,AH h.size t.size,λb o s n=>(t.block b (AR o h.size)).trans (h.block b o s n),λb e=>h.rw b (by rw[<-Ce (t.block g (AR i h.size))];exact e)⟩
theorem NT.drew{e:AB}(h:NT g w e):NT g w e.drew:=⟨h.os,h.tape,h.output,h.size,h.block,h.rw⟩
theorem NT.setRow{a:AB}(h:NT g w a){ab:Nat}(t:rowAt w g=some ab\/w.heap.size<=ab)(o:ab≠g)(j:Nat)(u:AS):NT g w (a.setCell ⟨ab,j,none⟩ u):=
 ⟨h.os,h.tape,h.output,by simpa [Cb]using h.size,λb s n i=>by
  rw[A8 _ _ _ _ (by
   show b≠ab;intro e;subst e;rcases t with t|t
   .exact i t
   omega)]
  exact h.block b s n i,λb e=>h.rw b (by rw[<-JR a g ab j u (.inl o)];exact e)⟩
theorem NT.Zu{t:AB}(h:NT g w t)(o:z.size=9){v0:AS}(n:t.heap[g]? =some (.cells (z.push v0) 101 (0,0)))(s:∀b,v.ownBlock=some b->rowAt w g=some b\/w.heap.size<=b):NT g w (t.setCell ⟨g,9,none⟩ v):=
 ⟨h.os,h.tape,h.output,by simpa [Cb]using h.size,λb a i r=>by
  rw[A8 _ _ _ _ (by exact i)];exact h.block b a i r,λb e=>by
  refine s b ?_;have a:=Ao t g 9 _ _ v n;unfold rowAt at e;rw[AZ _ g 9 _ _ _ a,KW o,DX o]at e;exact e⟩
theorem NT.grown{a:AB}(h:NT g w a)(d:g<w.heap.size){row:Option Nat}(t:a.grownBy M row)(hr:∀q,row=some q->(rowAt w g=some q\/w.heap.size<=q)/\q≠g):NT g w M:=by
 have r:=h.size;have s:rowAt M g=rowAt a g:=Ce (t.block g (by omega) (λe=>(hr g e.symm).2 rfl));exact⟨t.os.trans h.os,t.tape.trans h.tape,t.output.trans h.output,AH h.size t.size,λb n i o=>by
  rw[t.block b (by omega) (λe=>by
   rcases(hr b e.symm).1 with q|q
   .exact o q
   omega)]
  exact h.block b n i o,λb e=>h.rw b (by rw[<-s];exact e)⟩
structure Je(hd:Array AS)(B:Nat)(l:List At2)(g ab cap:Nat)(cur:Array AS)(w:AB):Prop where
 blk:w.heap[g]? =some (.cells (hd.push (.slice (some ⟨ab,0,none⟩) l.length cap)) 101 (0,0))
 row:w.heap[ab]? =some (.cells cur 133 (0,0))
 base:B<=ab
 hds:hd.size=9
 le:l.length<=cap
 max:cap<=maxLen
 size:cur.size=cap*3
 take:cur.toList.take (l.length*3)=CG l
theorem Je.el{ab cap:Nat}(h:Je z B l g ab cap E w):J0 z B l g w:=
 ⟨h.hds,some ⟨ab,0,none⟩,cap,h.blk,Ks l,.inr ⟨ab,cap,E,rfl,h.base,h.row,h.le,h.max,h.size,h.take⟩⟩
theorem J0.blocks(h:J0 z B l g w)(m:0<l.length):∃ab cap e,Je z B l g ab cap e w:=by
 obtain⟨d,aa,ac,c,f,u⟩:=h;rcases u with⟨_,y⟩|⟨ab,cap,e,r,s,n,i,o,a,t⟩
 .omega
 cases r
 exact⟨ab,ac,e,c,n,s,d,i,o,a,t⟩
theorem Je.cell{ab cap:Nat}(h:Je z B l g ab cap E w)(o:i<l.length):
 w.cell? ⟨ab,i*3,none⟩=some (.string ⟨#[]⟩)/\w.cell? ⟨ab,i*3+1,none⟩=some (.string l[i].key)/\w.cell? ⟨ab,i*3+2,none⟩=some (.string l[i].val):=by
 obtain⟨f0,f1,f2⟩:=MU o;have e:∀j v,j<l.length*3->(CG l)[j]? =some v->w.cell? ⟨ab,j,none⟩=some v:=by
  intro j v a t;rw[AZ w ab j _ _ _ h.row];rw[<-h.take,List.getElem?_take_of_lt a]at t;simpa using t
 exact⟨e _ _ (by omega) f0,e _ _ (by omega) f1,e _ _ (by omega) f2⟩
theorem Je.ne{ab cap:Nat}(h:Je z B l g ab cap E w):g≠ab:=CC h.blk h.row (by decide)
theorem Je.c9{ab cap:Nat}(h:Je z B l g ab cap E w):w.cell? ⟨g,9,none⟩=some (.slice (some ⟨ab,0,none⟩) l.length cap):=by
 rw[AZ w g 9 _ _ _ h.blk,DX h.hds]
theorem Je.rowAt{ab cap:Nat}(h:Je z B l g ab cap E w):Go.Proofs.YtgajepeipddacaaGreat.rowAt w g=some ab:=by
 unfold Go.Proofs.YtgajepeipddacaaGreat.rowAt;rw[h.c9];rfl
theorem Je.alloc{ab cap:Nat}(h:Je z B l g ab cap E w)(o:Obj):Je z B l g ab cap E (w.alloc o):=
 ⟨by rw[B5 _ _ _ (AE.1 h.blk).1];exact h.blk,by rw[B5 _ _ _ (AE.1 h.row).1];exact h.row,h.base,h.hds,h.le,h.max,h.size,h.take⟩
theorem Je.below{ab cap:Nat}(h:Je z B l g ab cap E w)(e:AL w.heap.size w N):Je z B l g ab cap E N:=
 ⟨(e.block _ (AE.1 h.blk).1).trans h.blk,(e.block _ (AE.1 h.row).1).trans h.row,h.base,h.hds,h.le,h.max,h.size,h.take⟩
def J8(t:Array AS)(B:Nat)(l:List At2)(g:Nat)(w:AB)(e:Bx)(w':AB):Prop:=e= .returned (.tuple #[])/\J0 t B l g w'/\NT g w w'
theorem Ns{r:Array AS}{ab cap:Nat}{W:AB}(h:Je r B l g ab cap E W){m:Nat}(d:l.length=m+1)(z:At2):
 J0 r B ((l.take m).set i z) g (VL W g ab i m cap z):=by
 have a:((l.take m).set i z).length=m:=by rw[List.length_set,At];omega
 have n:g≠ab:=h.ne;have b:=Ao W ab (i*3) _ _ (.string ⟨#[]⟩) h.row;have p:=Ao _ ab (i*3+1) _ _ (.string z.key) b;have y:=Ao _ ab (i*3+2) _ _ (.string z.val) p;have w:=Ao _ ab (m*3) _ _ (.string ⟨#[]⟩) y;have f:=Ao _ ab (m*3+1) _ _ (.string ⟨#[]⟩) w;have c:=Ao _ ab (m*3+2) _ _ (.string ⟨#[]⟩) f;have o:∀(V:AB) (j:Nat) (u:AS),(V.setCell ⟨ab,j,none⟩ u).heap[g]? =V.heap[g]? :=λV j u=>heap_setCell_other _ _ _ _ n;have k:((((((W.setCell ⟨ab,i*3,none⟩ (.string ⟨#[]⟩)).setCell ⟨ab,i*3+1,none⟩ (.string z.key)).setCell ⟨ab,i*3+2,none⟩ (.string z.val)).setCell ⟨ab,m*3,none⟩ (.string ⟨#[]⟩)).setCell ⟨ab,m*3+1,none⟩ (.string ⟨#[]⟩)).setCell ⟨ab,m*3+2,none⟩ (.string ⟨#[]⟩)).heap[g]? =W.heap[g]? :=by
  rw[o,o,o,o,o,o]
 have v:=Ao _ g 9 _ _ (.slice (some ⟨ab,0,none⟩) m cap) (k.trans h.blk);have r7:=(heap_setCell_other _ ⟨g,9,none⟩ ab (.slice (some ⟨ab,0,none⟩) m cap) (λe=>n e.symm)).trans c;have q:(VL W g ab i m cap z).heap[g]? =some (.cells (r.push (.slice (some ⟨ab,0,none⟩) m cap)) 101 (0,0)):=by
  unfold VL;rw[heap_drew,v];rw[KW h.hds]
 obtain⟨s,t⟩:∃x:Array AS,x=(((((E.setIfInBounds (i*3) (.string ⟨#[]⟩)).setIfInBounds (i*3+1) (.string z.key)).setIfInBounds (i*3+2) (.string z.val)).setIfInBounds (m*3) (.string ⟨#[]⟩)).setIfInBounds (m*3+1) (.string ⟨#[]⟩)).setIfInBounds (m*3+2) (.string ⟨#[]⟩):=⟨_,rfl⟩;have r8:(VL W g ab i m cap z).heap[ab]? =some (.cells s 133 (0,0)):=by
  unfold VL;rw[heap_drew,r7,t];try rfl
 refine Je.el (ab:=ab) (cap:=cap) ⟨by rw[a];exact q,r8,h.base,h.hds,by have:=h.le;omega,h.max,?_,?_⟩
 .rw[t];simp[h.size]
 rw[a,t];have:=WN (i:=i) (z:=z) d h.take (.string ⟨#[]⟩) (.string ⟨#[]⟩) (.string ⟨#[]⟩);simpa using this
theorem NT.aj{r:Array AS}{ab cap:Nat}{n:AB}(s:Je r B l g ab cap E n)(h:NT g w n)(a:rowAt w g=some ab\/w.heap.size<=ab)(i m:Nat)(z:At2):NT g w (VL n g ab i m cap z):=by
 have t:ab≠g:=λe=>s.ne e.symm;have o:∀(V:AB) (j:Nat) (u:AS),(V.setCell ⟨ab,j,none⟩ u).heap[g]? =V.heap[g]? :=λV j u=>heap_setCell_other _ _ _ _ (λe=>t e.symm);unfold VL;refine(NT.Zu ((((((h.setRow a t _ _).setRow a t _ _).setRow a t _ _).setRow a t _ _).setRow a t _ _).setRow a t _ _) s.hds (v0:= .slice (some ⟨ab,0,none⟩) l.length cap) ?_ (λb e=> ?_)).drew
 .rw[o,o,o,o,o,o];exact s.blk
 have:b=ab:=by simpa [A6]using e.symm
 rw[this];exact a
theorem K8(l:List At2)(hl:l.length<=1000)(k:ByteArray)(hx:B8 l k+1=l.length)(g:Nat)(w:AB){I:Array AS}(h:J0 I B l g w):
 AX AC 101 #[.pointer (some ⟨g,0,none⟩),.string k] w (J8 I B (F7 l k) g w):=by
 have p:0<l.length:=by omega
 obtain⟨n,cap,F,N⟩:=h.blocks p;have hg:g<w.heap.size:=(AE.1 N.blk).1;have c9:w.cell? ⟨g,9,none⟩=some (.slice (some ⟨n,0,none⟩) l.length cap):=N.c9;have Q:=AA N;have K:=AA hx;clear h N hx;go_enter func101,ntmps101;go_wp2;go_loopw [11] (λx wr=>∃i:Nat,i<=l.length/\x= .int .i64 i/\Hid (∀j (h:j<l.length),j<i->(l[j].key.toList==k.toList)=false)/\AL w.heap.size w wr) (λx _=>l.length-(Aa x).toNat)
 .exact⟨0,by omega,rfl,(λj _ O=>by omega),AW _ _⟩
 obtain⟨i,hi,rfl,u,U⟩:=hrel;have H:=AA U;have T:=AA (Q.o.below U);clear U;by_cases c:i<l.length
 .obtain⟨g0,P,G⟩:=T.o.cell c;obtain⟨y,D⟩:∃y,y=l[i]:=⟨_,rfl⟩;rw[<-D]at P G;have V:=AA D;clear D;cases L:(y.key.toList==k.toList)
  .have HN:Hid (∀j (h:j<l.length),j<i+1->(l[j].key.toList==k.toList)=false):=by
    intro j O hji;by_cases e:j=i
    .subst e;rw[<-V.o];exact L
    exact u.o j O (by omega)
   clear u;go_wp2;go_roundw
   .exact⟨i+1,by omega,by go_num,HN,H.o.alloc H.o.size _⟩
   simp[Aa];omega
  have v:Hid (B8 l k=i):=KH c u.o (by rw[<-V.o];exact L);clear u;go_wp2_with fail;generalize b:wr.alloc _=o;have d:Hid (Je I B l g n cap F o):=by rw[<-b];exact T.o.alloc _
  have W:Hid (AL w.heap.size w o):=by rw[<-b];exact H.o.alloc H.o.size _
  obtain⟨m,E⟩:∃m,l.length=m+1:=⟨l.length-1,by omega⟩;obtain⟨z,R⟩:∃z,z=l[m]:=⟨_,rfl⟩;have q:o.cell? ⟨g,9,none⟩=some (.slice (some ⟨n,0,none⟩) (m+1) cap):=by rw[<-E];exact d.o.c9
  have z9:o.frozen? ⟨g,9,none⟩=false:=A7 o g 9 _ _ d.o.blk;obtain⟨p0,p1,p2⟩:=d.o.cell (i:=m) (by omega);rw[<-R]at p1 p2;obtain⟨r0,r1,r2⟩:=d.o.cell c;have s0:o.frozen? ⟨n,i*3,none⟩=false:=A7 o n _ _ _ d.o.row;have s1:o.frozen? ⟨n,i*3+1,none⟩=false:=A7 o n _ _ _ d.o.row;have s2:o.frozen? ⟨n,i*3+2,none⟩=false:=A7 o n _ _ _ d.o.row;have t0:o.frozen? ⟨n,m*3,none⟩=false:=A7 o n _ _ _ d.o.row;have t1:o.frozen? ⟨n,m*3+1,none⟩=false:=A7 o n _ _ _ d.o.row;have t2:o.frozen? ⟨n,m*3+2,none⟩=false:=A7 o n _ _ _ d.o.row;have hmc:m+1<=cap:=by have:=d.o.le;omega
  have HZ:Hid (∀h:m<l.length,z=l[m]):=λ_=>R;have Z:=AA E;have M:i=m:=by have C:=K.o;have h2:=v.o;omega
  have A:Hid (J0 I B (F7 l k) g (VL o g n i m cap z)):=by
   have C:B8 l k<l.length:=by have:=v.o;omega
   rw[Rf E C,v.o,<-HZ.o (by omega)];exact Ns d.o E z
  have Y:Hid (NT g w (VL o g n i m cap z)):=NT.aj d.o (NT.Yq W.o hg) (.inl Q.o.rowAt) i m z;rw[E]at hl c hi p;clear R E g0 P G L b c9;subst M;clear r0 r1 r2 s0 s1 s2;have t:o.drew.cell? ⟨g,9,none⟩=some (.slice (some ⟨n,0,none⟩) (i+1) cap):=q;have hwr:IntKind.i64.wrap (i:Int)=i:=IntWalk.i64_in _ ⟨by omega,by omega⟩;have X:(i:Int)<i+1:=by omega
  have s:n≠g:=λe=>d.o.ne e.symm;have J:i<=cap:=by omega
  refine Lg (S:=(λw'=>w'.cell? ⟨g,9,none⟩=some (.slice (some ⟨n,0,none⟩) (i+1) cap))) (f:=46) (by kernel_rfl) ?_;refine E9 0 (λ_=>t) ?_;simp only[AQ,Cx];refine E9 1 (λ_=>t) ?_;simp only[AQ];refine E9 2 (λ_=>t) ?_;simp only[AQ];refine tD 3 t ?_;simp only[AQ];refine E9 4 (λ_=>t) ?_;simp only[AQ];refine E9 5 (λ_=>t) ?_;simp only[AQ];refine E9 6 (λ_=>t) ?_;simp only[AQ];refine E9 7 (λ_=>t) ?_;simp only[AQ];refine tD 8 t ?_;simp only[AQ];refine E9 9 (λ_=>t) ?_;simp only[AQ];refine E9 10 (λ_=>t) ?_;simp only[AQ];refine E9 11 (λ_=>t) ?_;simp only[AQ];refine tD 12 t ?_;simp only[AQ];refine E9 13 (λ_=>t) ?_;simp only[AQ];refine E9 14 (λ_=>t) ?_;simp only[AQ];refine E9 15 (λ_=>t) ?_;simp only[AQ];refine E9 16 (λ_=>t) ?_;simp only[AQ];refine E9 17 (λ_=>t) ?_;simp only[AQ];refine E9 18 (λ_=>t) ?_;simp only[AQ];refine tD 19 t ?_;simp only[AQ];refine E9 20 (λ_=>t) ?_;simp only[AQ];refine E9 21 (λ_=>t) ?_;simp only[AQ];refine E9 22 (λ_=>t) ?_;simp only[AQ];refine tD 23 t ?_;simp only[AQ];refine E9 24 (λ_=>t) ?_;simp only[AQ];refine E9 25 (λ_=>t) ?_;simp only[AQ];refine E9 26 (λ_=>t) ?_;simp only[AQ];refine E9 28 (λ_=>t) ?_;simp only[AQ];refine E9 29 (λ_=>t) ?_;simp only[AQ];refine E9 30 (λ_=>t) ?_;simp only[AQ];refine E9 31 (λ_=>t) ?_;simp only[AQ];refine tD 32 t ?_;simp only[AQ];refine E9 33 (λ_=>t) ?_;simp only[AQ];refine E9 34 (λ_=>t) ?_;simp only[AQ];refine E9 35 (λ_=>t) ?_;simp only[AQ];refine tD 36 t ?_;simp only[AQ];refine E9 37 (λ_=>t) ?_;simp only[AQ];refine E9 38 (λ_=>t) ?_;simp only[AQ];refine E9 39 (λ_=>t) ?_;simp only[AQ];refine Cl (i:=27) (by kernel_rfl) rfl (λr a=> ?_);go_simp;refine a.o _ _ (λ_=>t) ?_;clear a r;refine Cl (i:=40) (by kernel_rfl) rfl (λr a=> ?_);go_simp;refine a.o _ _ (λ_=>t) ?_;clear a r;refine Cl (i:=41) (by kernel_rfl) rfl (λr a=> ?_);go_simp;refine a.o _ _ (λ_=>by simp[BN,s,q]) ?_;clear a r;refine Cl (i:=42) (by kernel_rfl) rfl (λr a=> ?_);go_simp;refine a.o _ _ (λ_=>by simp[BN,s,q]) ?_;clear a r;refine Cl (i:=43) (by kernel_rfl) rfl (λr a=> ?_);go_simp;refine a.o _ _ (λ_=>by simp[BN,s,q]) ?_;clear a r;refine Cl (i:=44) (by kernel_rfl) rfl (λr a=> ?_);go_simp;refine a.o _ _ (λ_=>by simp[BN,s,q]) ?_;clear a r;refine Cl (i:=45) (by kernel_rfl) rfl (λr a=> ?_);go_simp;refine a.o _ _ (λ_=>by simp[BN,s,q]) ?_;clear a r;refine Cl (i:=46) (by kernel_rfl) rfl (λr a=> ?_);go_simp;refine a.o _ _ (λh=>absurd h (by decide)) ?_;clear a r;refine Le (by kernel_rfl) ?_ _;go_wp2_with fail
  (try simp only[Exit.inBlock,Exit.then]);refine bodyPost_ret (results_none rfl _ _ _) rfl ?_;exact⟨rfl,A.o,Y.o⟩
 exfalso;have e:i=l.length:=by omega
 have C:=JF (l:=l) (k:=k) (λj O=>u.o j O (by omega));have h2:=K.o;omega
theorem Lt(l:List At2)(hl:l.length<=1000)(k:ByteArray)(hx:B8 l k+1<l.length)(g:Nat)(w:AB){I:Array AS}(h:J0 I B l g w):
 AX AC 101 #[.pointer (some ⟨g,0,none⟩),.string k] w (J8 I B (F7 l k) g w):=by
 have p:0<l.length:=by omega
 obtain⟨n,cap,M,N⟩:=h.blocks p;have hg:g<w.heap.size:=(AE.1 N.blk).1;have c9:w.cell? ⟨g,9,none⟩=some (.slice (some ⟨n,0,none⟩) l.length cap):=N.c9;have K:=AA N;have V:=AA hx;clear h N hx;go_enter func101,ntmps101;go_wp2;go_loopw [11] (λx wr=>∃i:Nat,i<=l.length/\x= .int .i64 i/\Hid (∀j (h:j<l.length),j<i->(l[j].key.toList==k.toList)=false)/\AL w.heap.size w wr) (λx _=>l.length-(Aa x).toNat)
 .exact⟨0,by omega,rfl,(λj _ O=>by omega),AW _ _⟩
 obtain⟨i,hi,rfl,u,U⟩:=hrel;have H:=AA U;have T:=AA (K.o.below U);clear U;by_cases c:i<l.length
 .obtain⟨g0,G,Y⟩:=T.o.cell c;obtain⟨y,D⟩:∃y,y=l[i]:=⟨_,rfl⟩;rw[<-D]at G Y;have P:=AA D;clear D;cases L:(y.key.toList==k.toList)
  .have HN:Hid (∀j (h:j<l.length),j<i+1->(l[j].key.toList==k.toList)=false):=by
    intro j O hji;by_cases e:j=i
    .subst e;rw[<-P.o];exact L
    exact u.o j O (by omega)
   clear u;go_wp2;go_roundw
   .exact⟨i+1,by omega,by go_num,HN,H.o.alloc H.o.size _⟩
   simp[Aa];omega
  have v:Hid (B8 l k=i):=KH c u.o (by rw[<-P.o];exact L);clear u;go_wp2_with fail;generalize b:wr.alloc _=o;have d:Hid (Je I B l g n cap M o):=by rw[<-b];exact T.o.alloc _
  have F:Hid (AL w.heap.size w o):=by rw[<-b];exact H.o.alloc H.o.size _
  obtain⟨m,E⟩:∃m,l.length=m+1:=⟨l.length-1,by omega⟩;obtain⟨z,R⟩:∃z,z=l[m]:=⟨_,rfl⟩;have q:o.cell? ⟨g,9,none⟩=some (.slice (some ⟨n,0,none⟩) (m+1) cap):=by rw[<-E];exact d.o.c9
  have z9:o.frozen? ⟨g,9,none⟩=false:=A7 o g 9 _ _ d.o.blk;obtain⟨p0,p1,p2⟩:=d.o.cell (i:=m) (by omega);rw[<-R]at p1 p2;obtain⟨r0,r1,r2⟩:=d.o.cell c;have s0:o.frozen? ⟨n,i*3,none⟩=false:=A7 o n _ _ _ d.o.row;have s1:o.frozen? ⟨n,i*3+1,none⟩=false:=A7 o n _ _ _ d.o.row;have s2:o.frozen? ⟨n,i*3+2,none⟩=false:=A7 o n _ _ _ d.o.row;have t0:o.frozen? ⟨n,m*3,none⟩=false:=A7 o n _ _ _ d.o.row;have t1:o.frozen? ⟨n,m*3+1,none⟩=false:=A7 o n _ _ _ d.o.row;have t2:o.frozen? ⟨n,m*3+2,none⟩=false:=A7 o n _ _ _ d.o.row;have hmc:m+1<=cap:=by have:=d.o.le;omega
  have HZ:Hid (∀h:m<l.length,z=l[m]):=λ_=>R;have Z:=AA E;have him:i<m:=by have C:=V.o;have h2:=v.o;omega
  have A:Hid (J0 I B (F7 l k) g (VL o g n i m cap z)):=by
   have C:B8 l k<l.length:=by have:=v.o;omega
   rw[Rf E C,v.o,<-HZ.o (by omega)];exact Ns d.o E z
  have W:Hid (NT g w (VL o g n i m cap z)):=NT.aj d.o (NT.Yq F.o hg) (.inl K.o.rowAt) i m z;rw[E]at hl c hi p;clear R E g0 G Y L b c9;have t:o.drew.cell? ⟨g,9,none⟩=some (.slice (some ⟨n,0,none⟩) (m+1) cap):=q;have hwr:IntKind.i64.wrap (m:Int)=m:=IntWalk.i64_in _ ⟨by omega,by omega⟩;have X:(m:Int)<m+1:=by omega
  have s:n≠g:=λe=>d.o.ne e.symm;have J:(i:Int)<m+1:=by omega
  have Q:m<=cap:=by omega
  refine Lg (S:=(λw'=>w'.cell? ⟨g,9,none⟩=some (.slice (some ⟨n,0,none⟩) (m+1) cap))) (f:=46) (by kernel_rfl) ?_;refine E9 0 (λ_=>t) ?_;simp only[AQ,Cx];refine E9 1 (λ_=>t) ?_;simp only[AQ];refine E9 2 (λ_=>t) ?_;simp only[AQ];refine tD 3 t ?_;simp only[AQ];refine E9 4 (λ_=>t) ?_;simp only[AQ];refine E9 5 (λ_=>t) ?_;simp only[AQ];refine E9 6 (λ_=>t) ?_;simp only[AQ];refine E9 7 (λ_=>t) ?_;simp only[AQ];refine tD 8 t ?_;simp only[AQ];refine E9 9 (λ_=>t) ?_;simp only[AQ];refine E9 10 (λ_=>t) ?_;simp only[AQ];refine E9 11 (λ_=>t) ?_;simp only[AQ];refine tD 12 t ?_;simp only[AQ];refine E9 13 (λ_=>t) ?_;simp only[AQ];refine E9 14 (λ_=>t) ?_;simp only[AQ];refine E9 15 (λ_=>t) ?_;simp only[AQ];refine E9 16 (λ_=>t) ?_;simp only[AQ];refine E9 17 (λ_=>t) ?_;simp only[AQ];refine E9 18 (λ_=>t) ?_;simp only[AQ];refine tD 19 t ?_;simp only[AQ];refine E9 20 (λ_=>t) ?_;simp only[AQ];refine E9 21 (λ_=>t) ?_;simp only[AQ];refine E9 22 (λ_=>t) ?_;simp only[AQ];refine tD 23 t ?_;simp only[AQ];refine E9 24 (λ_=>t) ?_;simp only[AQ];refine E9 25 (λ_=>t) ?_;simp only[AQ];refine E9 26 (λ_=>t) ?_;simp only[AQ];refine E9 28 (λ_=>t) ?_;simp only[AQ];refine E9 29 (λ_=>t) ?_;simp only[AQ];refine E9 30 (λ_=>t) ?_;simp only[AQ];refine E9 31 (λ_=>t) ?_;simp only[AQ];refine tD 32 t ?_;simp only[AQ];refine E9 33 (λ_=>t) ?_;simp only[AQ];refine E9 34 (λ_=>t) ?_;simp only[AQ];refine E9 35 (λ_=>t) ?_;simp only[AQ];refine tD 36 t ?_;simp only[AQ];refine E9 37 (λ_=>t) ?_;simp only[AQ];refine E9 38 (λ_=>t) ?_;simp only[AQ];refine E9 39 (λ_=>t) ?_;simp only[AQ];refine Cl (i:=27) (by kernel_rfl) rfl (λr a=> ?_);go_simp;refine a.o _ _ (λ_=>t) ?_;clear a r;refine Cl (i:=40) (by kernel_rfl) rfl (λr a=> ?_);go_simp;refine a.o _ _ (λ_=>t) ?_;clear a r;refine Cl (i:=41) (by kernel_rfl) rfl (λr a=> ?_);go_simp;refine a.o _ _ (λ_=>by simp[BN,s,q]) ?_;clear a r;refine Cl (i:=42) (by kernel_rfl) rfl (λr a=> ?_);go_simp;refine a.o _ _ (λ_=>by simp[BN,s,q]) ?_;clear a r;refine Cl (i:=43) (by kernel_rfl) rfl (λr a=> ?_);go_simp;refine a.o _ _ (λ_=>by simp[BN,s,q]) ?_;clear a r;refine Cl (i:=44) (by kernel_rfl) rfl (λr a=> ?_);go_simp;refine a.o _ _ (λ_=>by simp[BN,s,q]) ?_;clear a r;refine Cl (i:=45) (by kernel_rfl) rfl (λr a=> ?_);go_simp;refine a.o _ _ (λ_=>by simp[BN,s,q]) ?_;clear a r;refine Cl (i:=46) (by kernel_rfl) rfl (λr a=> ?_);go_simp;refine a.o _ _ (λh=>absurd h (by decide)) ?_;clear a r;refine Le (by kernel_rfl) ?_ _;go_wp2_with fail
  (try simp only[Exit.inBlock,Exit.then]);refine bodyPost_ret (results_none rfl _ _ _) rfl ?_;exact⟨rfl,A.o,W.o⟩
 exfalso;have e:i=l.length:=by omega
 have C:=JF (l:=l) (k:=k) (λj O=>u.o j O (by omega));have h2:=V.o;omega
theorem K9(l:List At2)(M:l.length<=1000)(k:ByteArray)(hx:¬B8 l k<l.length)(g:Nat)(w:AB)(h:J0 z B l g w):
 AX AC 101 #[.pointer (some ⟨g,0,none⟩),.string k] w (J8 z B (F7 l k) g w):=by
 have L:Hid (F7 l k=l):=by rw[Hid,F7,AI hx]
 rw[L.o];have r:=AA h;have R:=AA hx;obtain⟨hds,aa,ac,t,d⟩:=h;have v:g<w.heap.size:=(AE.1 t).1;have c9:w.cell? ⟨g,9,none⟩=some (.slice aa l.length ac):=by rw[AZ w _ 9 _ _ _ t,DX hds]
 clear t d hx;go_enter func101,ntmps101;go_wp2;go_loopw [11] (λx wr=>∃i:Nat,i<=l.length/\x= .int .i64 i/\Hid (∀j (h:j<l.length),j<i->(l[j].key.toList==k.toList)=false)/\AL w.heap.size w wr) (λx _=>l.length-(Aa x).toNat)
 .exact⟨0,by omega,rfl,(λj _ p=>by omega),AW _ _⟩
 obtain⟨i,F,rfl,a,o⟩:=hrel;have n:=AA o;by_cases s:i<l.length
 .obtain⟨S,cap,C,m⟩:=r.o.blocks (by omega);obtain⟨W,N,I⟩:=(m.below o).cell s;have A:aa=some ⟨S,0,none⟩:=by
   have:=m.c9;rw[c9]at this;simp at this;exact this.1
  subst A;obtain⟨y,c⟩:∃y,y=l[i]:=⟨_,rfl⟩;rw[<-c]at N I;have T:=AA c;clear c o m;cases f:(y.key.toList==k.toList)
  .have D:Hid (∀j (h:j<l.length),j<i+1->(l[j].key.toList==k.toList)=false):=by
    intro j p U;by_cases e:j=i
    .subst e;rw[<-T.o];exact f
    exact a.o j p (by omega)
   clear a;go_wp2;go_roundw
   .exact⟨i+1,by omega,by go_num,D,n.o.alloc n.o.size _⟩
   simp[Aa];omega
  exfalso;have E:B8 l k=i:=KH s a.o (by rw[<-T.o];exact f);have q:=R.o;omega
 clear o;have u:Hid (J0 z B l g wr):=by
  obtain⟨O,H,c1,E,q⟩:=r.o;exact⟨O,H,c1,(n.o.block _ v).trans E,BB q (λb _ o=>n.o.block b o)⟩
 go_wp2_with fail
 go_end0;exact⟨rfl,u.o,NT.Yq n.o v⟩
theorem Ia(l:List At2)(e:l.length<=1000)(k:ByteArray)(g:Nat)(w:AB)(h:J0 z B l g w):
 AX AC 101 #[.pointer (some ⟨g,0,none⟩),.string k] w (J8 z B (F7 l k) g w):=by
 by_cases a:B8 l k<l.length
 .by_cases t:B8 l k+1=l.length
  .exact K8 l e k t g w h
  exact Lt l e k (by omega) g w h
 exact K9 l e k a g w h
def P8(bl:Nat->Nat)(d:Dn):Array AS:= #[Au bl d.par,Au bl d.fst,Au bl d.lst,Au bl d.prv,Au bl d.nxt,.int .u32 d.typ,.int .u32 0,.string d.dat,.string ⟨#[]⟩]
theorem Br.aY(a:Br F (λi=>i<n) H B Z V w)(hx:x<n)(o:(H x).kind=3):J0 (P8 Z (V x)) B (H x).attrs (Z x) w:=by
 obtain⟨_,aa,ac,s,e⟩:=a.dom.node x hx;have t:(V x).ats=(H x).attrs:=by
  rw[(a.self x hx).ats];unfold CU;rw[AI (by rw[o];decide)]
 rw[t]at e;refine⟨rfl,aa,ac,?_,e⟩;rw[s];unfold El P8;rw[t];rfl
theorem Br.bU{C:Nat}(d:Br s.F (λi=>i<s.N) s.nd B Z V w)(X:C<=w.heap.size)(hx:x<s.N)(Y:(s.nd x).kind=3)(P:J0 (P8 Z (V x)) B l (Z x) N)(p:NT (Z x) w N):PA s.N B C Z w (s.setAt x l) Z (FL V x {V x with ats:=l}) N:=by
 obtain⟨_,aa,ac,G,O⟩:=P;have v:∀i,i<s.N->∃a c,w.heap[Z i]? =some (.cells (El Z (V i) a c) 101 (0,0))/\w.ownsRow B 133 3 (.slice a (V i).ats.length c) (V i).ats.length (CG (V i).ats)/\B<=Z i:=λi t=>by
  obtain⟨m,a,c,u,z⟩:=d.dom.node i t;exact⟨a,c,u,z,m⟩
 have n:∀i,i<s.N->∀b,rowAt w (Z i)=some b->∃k,w.heap[b]? =some (.cells k 133 (0,0)):=λi t b e=>by
  obtain⟨a,c,u,z,_⟩:=v i t;rw[E4 u]at e;rcases z.2 with⟨S,_⟩|⟨Q,W,I,S,_,H,_⟩
  .rw[S]at e;simp[A6]at e
  have J:Q=b:=by rw[S]at e;simpa [A6]using e
  subst J;exact⟨I,H⟩
 have f:∀i,i<s.N->i≠x->N.heap[Z i]? =w.heap[Z i]? :=λi t o=>by
  obtain⟨a,c,u,z,_⟩:=v i t;refine p.block _ (AE.1 u).1 (λe=>o (d.dom.inj i x t hx e)) (λe=> ?_);obtain⟨k,T⟩:=n x hx _ e;exact CC u T (by decide) rfl
 have r:∀i,i<s.N->i≠x->rowAt N (Z i)=rowAt w (Z i):=λi t o=>Ce (f i t o);refine⟨⟨⟨λi t=> ?_,d.dom.inj,λi j t q o g e1 e2=> ?_⟩,λi t=> ?_,λi t=> ?_⟩,λ_ _=>rfl,λy m u=> ?_,⟨p.os,p.tape,p.output,p.size,λb U L=>p.block b (by omega) (L x hx).1 (L x hx).2⟩,λy E b e=> ?_⟩
 .obtain⟨a,c,u,z,K⟩:=v i t;refine⟨K,?_⟩;by_cases e:i=x
  .subst e;rw[Dq];exact⟨aa,ac,G,O⟩
  rw[Ch _ _ _ _ e];refine⟨a,c,(f i t e).trans u,Cv z λb U R=> ?_⟩;have hr:rowAt w (Z i)=some b:=by rw[E4 u];exact U
  obtain⟨k,T⟩:=n i t b hr;obtain⟨a2,c2,D,_,_⟩:=v x hx;exact p.block b R (λe2=>CC D T (by decide) e2.symm) (λe2=>d.dom.sep i x t hx e b hr e2)
 .have A:∀i,i<s.N->∀b,rowAt w (Z i)=some b->b<w.heap.size:=λi t b e=>by
   obtain⟨k,T⟩:=n i t b e;exact(AE.1 T).1
  by_cases F:i=x
  .subst F;rw[r j q (λe=>o e.symm)]at e2;rcases p.rw g e1 with m|m
   .exact d.dom.sep i j t q o g m e2
   have:=A j q g e2;omega
  rw[r i t F]at e1;by_cases M:j=x
  .subst M;rcases p.rw g e2 with m|m
   .exact d.dom.sep i j t q o g e1 m
   have:=A i t g e1;omega
  rw[r j q M]at e2;exact d.dom.sep i j t q o g e1 e2
 .by_cases e:i=x
  .subst e;rw[Dq];have h:=d.fit i t;exact⟨h.par,h.fst,h.lst,h.root,h.sib⟩
  rw[Ch _ _ _ _ e];exact d.fit i t
 .show Ex (OT s.nd x l i) _;unfold OT;by_cases e:i=x
  .subst e;rw[Dq,AJ rfl];have h:=d.self i t;refine⟨h.typ,?_,?_⟩
   .show(V i).dat=PE {s.nd i with attrs:=l};rw[h.dat];rfl
   show l=CU {s.nd i with attrs:=l};unfold CU;rw[AI (by show ¬((s.nd i).kind=1\/(s.nd i).kind=2\/(s.nd i).kind=4\/(s.nd i).kind=5);rw[Y];decide)]
  rw[Ch _ _ _ _ e,AI e];exact d.self i t
 .have:y<s.N:=u;omega
 have E:y<s.N:=E;by_cases e2:y=x
 .subst e2;rcases p.rw b e with m|m
  .exact .inl ⟨E,m⟩
  exact .inr (by omega)
 rw[r y E e2]at e;exact .inl ⟨E,e⟩
section
variable {f:List At2->List At2}
theorem SC(s:bY)(xs:List Nat)(x:Nat):DV f s (xs++[x])=(DV f s xs).setAt x (f ((DV f s xs).nd x).attrs):=by
 unfold DV;rw[List.foldl_append];rfl
theorem Ej:∀(xs:List Nat) (s:bY),(DV f s xs).F=s.F/\(DV f s xs).N=s.N/\(DV f s xs).op=s.op
 |[],s=>⟨rfl,rfl,rfl⟩
 |x::xs,s=>Ej xs (s.setAt x (f (s.nd x).attrs))
theorem Gb{y:Nat}:∀(xs:List Nat) (s:bY),y∉xs->(DV f s xs).nd y=s.nd y
 |[],s,_=>rfl
 |x::xs,s,h=>by
  have a:y≠x:=λe=>h (by rw[e];exact Af);have:=Gb xs (s.setAt x (f (s.nd x).attrs)) (λt=>h (Ab _ t));exact this.trans (AI a)
theorem Hf(t:Y.Nodup)(h:i<Y.length):DV f s (Y.take (i+1))=(DV f s (Y.take i)).setAt Y[i] (f (s.nd Y[i]).attrs)/\(DV f s (Y.take i)).nd Y[i]=s.nd Y[i]:=by
 have n:Y[i]∉Y.take i:=λa=>by
  obtain⟨j,r,e⟩:=C7.1 a;have:=(C0 t).1 e;omega
 have o:=Gb (f:=f) (Y.take i) s n;rw[AF h,SC,o];exact⟨rfl,rfl⟩
end
structure LJ(s:bY)(B C:Nat)(bl:Nat->Nat)(w:AB)(t:bY)(xs:List Nat)(D g:Nat)(a1 doc prev:Option Ai)(c1:Nat)(st':Nat->Dn)(W:AB):Prop where
 pa:PA s.N B C bl w t bl st' W
 sel:DP W g a1 xs.length c1 doc prev
 own:W.ownsRow D 70 1 (.slice a1 xs.length c1) xs.length (Ad bl xs)
theorem LJ.aS{C:Nat}{t:bY}{D:Nat}{a1 e:Option Ai}{c1:Nat}{a:Nat->Dn}{W:AB}(h:LJ s B C Z w t Y D g a1 L e c1 a W):B6 W W.heap.size a1 (Ad Z Y):=by
 obtain⟨_,_,i,_,o⟩:=B6.own h.own;cases i
 exact o
theorem LJ.up{C:Nat}{t:bY}{D:Nat}{a1 e:Option Ai}{c1:Nat}{a:Nat->Dn}{W i:AB}(h:LJ s B C Z w t Y D g a1 L e c1 a W)(o:AL W.heap.size W i)(n:C<=w.heap.size):LJ s B C Z w t Y D g a1 L e c1 a i:=
 ⟨h.pa.up o (AH n h.pa.turn.size),h.sel.below o h.sel.lt,BB h.own λb _ r=>o.block b r⟩
theorem LJ.next{C:Nat}{t:bY}{D:Nat}{a1 e:Option Ai}{c1:Nat}{a:Nat->Dn}{W o:AB}(h:LJ s B C Z w t Y D g a1 L e c1 a W)(y:C<=w.heap.size)(n:t.N=s.N)(hx:x<s.N)(d:(t.nd x).kind=3)(m:J0 (P8 Z (a x)) B l (Z x) o)(c:NT (Z x) W o):∃i,LJ s B C Z w (t.setAt x l) Y D g a1 L e c1 i o:=by
 have k:=h.pa.prog.bU (C:=W.heap.size) (AG _) (by rw[n];exact hx) d m c;exact⟨_,h.pa.trans (k.low (AH y h.pa.turn.size)) (by rw[n];exact AG _),k.other (s0:=t) h.pa.prog h.sel (by decide) (by decide) h.sel.lt,k.own (s0:=t) h.pa.prog h.own (by decide) (by decide) (λp u=>(h.own.lt p u).2)⟩
theorem XS(k:ByteArray)(q:Y.Nodup)(hxl:Y.length<=100000)(hx:∀x∈Y,x<s.N/\(s.nd x).kind=3/\(s.nd x).attrs.length<=1000){C:Nat}(G:Br s.F (λi=>i<s.N) s.nd B Z V w)(hC:C<=w.heap.size)(D g:Nat)(r:Option Ai)(E:GJ Z Y D g r w):
 AX AC 79 #[.pointer (some ⟨g,0,none⟩),.string k] w (Bk g (Ew s.N B C Z w (DV (λl=>F7 l k) s Y))):=by
 obtain⟨P,c1,a,c,hD,d⟩:=E;have c0:=c.cells.1;have L:Hid (LJ s B C Z w s Y D g P r a c1 V w):=⟨PA.refl (n:=s.N) rfl G,c,d⟩;have HX:=AA hx;have HN:=AA q;clear hx q G c d;go_enter func79,ntmps79;go_wp2;go_loopw [6,12] (λv x wr=>∃(i:Nat) (h:Nat->Dn),i<=Y.length/\x= .int .i64 i/\Hid (LJ s B C Z w (DV (λl=>F7 l k) s (Y.take i)) Y D g P r a c1 h wr)) (λ_ x _=>Y.length-(Aa x).toNat)
 .exact⟨0,V,AY _,rfl,L.o⟩
 obtain⟨i,h,hi,rfl,y⟩:=hrel;clear c0;by_cases t:i<Y.length
 .obtain⟨b,o,rfl,hbB,W⟩:=y.o.aS.at_ (by rw[AM];omega);have S:=W i (by rw[AM];exact t);rw[A5 t]at S;obtain⟨M,U,Q⟩:=HX.o Y[i] (AD t);obtain⟨e1,e2⟩:=Hf (f:=λl=>F7 l k) (s:=s) HN.o t;obtain⟨X,I,J⟩:=Ej (f:=λl=>F7 l k) (Y.take i) s;have N:=y.o.pa.prog.aY (x:=Y[i]) (by rw[I];exact M) (by rw[e2];exact U);rw[e2]at N;have H:=AA (Ia (s.nd Y[i]).attrs Q k (Z Y[i]) wr N);have m:Hid (∀O,J0 (P8 Z (h Y[i])) B (F7 (s.nd Y[i]).attrs k) (Z Y[i]) O->NT (Z Y[i]) wr O->∃u,LJ s B C Z w (DV (λl=>F7 l k) s (Y.take (i+1))) Y D g (some ⟨b,o,none⟩) r a c1 u O):=λO A T=>by
   rw[e1];exact y.o.next hC I M (by rw[e2];exact U) A T
  obtain⟨x,p⟩:∃x,x=Y[i]:=⟨_,rfl⟩;rw[<-p]at S H m;obtain⟨F,j⟩:∃F,F=Z x:=⟨_,rfl⟩;rw[<-j]at S H m;clear W e1 e2 X I J N p j y;go_wp2_with fail;refine H.o.mono ?_;rintro e K ⟨rfl,A,T⟩;obtain⟨u,z⟩:=m.o K A T;have R:=AA z;clear A T z;go_wp2;go_roundw
  .exact⟨i+1,u,t,by go_num,R⟩
  simp[Aa];omega
 have e:i=Y.length:=by omega
 subst e;have HF:Hid (Ew s.N B C Z w (DV (λl=>F7 l k) s Y) wr):=by
  have:=y.o.pa;rw[AU]at this;exact⟨Z,h,this⟩
 clear y;go_wp2;go_ret;exact⟨rfl,HF.o⟩
theorem Pj{k:ByteArray}(h:Bp l):CF (F7 l k) k=none:=by
 rw[EZ];intro x hx;exact((JQ h x).1 hx).2
theorem Um{k:ByteArray}(h:Bp l){x:At2}(hx:x∈l)(e:x.key.toList≠k.toList):CF (F7 l k) x.key=some x:=
 (Co (Gk h)).2 ⟨(JQ h x).2 ⟨hx,e⟩,rfl⟩
theorem WL{k:ByteArray}(h:Bp l){x:At2}(hx:x∈F7 l k):CF l x.key=some x:=
 (Co h).2 ⟨((JQ h x).1 hx).1,rfl⟩
theorem PK{k v:ByteArray}(h:Bp l)(x:At2):x∈F7 (Cu l k v) k↔x∈l/\x.key.toList≠k.toList:=by
 rw[JQ (DY h),Hs h];constructor
 .rintro⟨e|e,t⟩
  .exact e
  exact absurd e.1 t
 rintro⟨e,t⟩;exact⟨.inl ⟨e,t⟩,t⟩
theorem SP{k v:ByteArray}(h:Bp l):CF (F7 (Cu l k v) k) k=none:=Pj (DY h)
theorem QZ{k v:ByteArray}(h:Bp l){x:At2}(hx:x∈l)(e:x.key.toList≠k.toList):CF (F7 (Cu l k v) k) x.key=some x:=
 (Co (Gk (DY h))).2 ⟨(PK h x).2 ⟨hx,e⟩,rfl⟩
theorem SO{k v:ByteArray}(h:Bp l){x:At2}(hx:x∈F7 (Cu l k v) k):CF l x.key=some x:=
 (Co h).2 ⟨((PK h x).1 hx).1,rfl⟩
theorem WP{k v:ByteArray}:(Cu l k v).length<=l.length+1:=by rw[Ms];split<;>omega
theorem Ul{k:ByteArray}:(F7 l k).length<=l.length:=by rw[WI];split<;>omega
theorem Mt{k v:ByteArray}(h:¬B8 l k<l.length):Cu l k v=l++[⟨k,v⟩]:=by unfold Cu;rw[dif_neg h]
theorem KY{k v:ByteArray}(h:B8 l k<l.length):Cu l k v=l.set (B8 l k) ⟨l[B8 l k].key,v⟩:=by unfold Cu;rw[dif_pos h]
end Go.Proofs.YtgajepeipddacaaGreat
