/- Part 6 of the proof of FnCloneApart: what the law and the program compute, walked. -/
import Derived.Test.YtgajepeipddacaaGreatJ5
open Go.RowKit Go.Proofs.Tryz
open Array renaming getElem?_eq_some_iff->AE
open Go renaming Addr->Ai,Calls->AX,Value->AS,World->AB,below_drewN->BC,cell_of_row->AZ,frozen_of_row->A7,heap_alloc_new->Ah
open Go.ByteArray renaming toList_eq->BU
open Go.Lib renaming hid->AA,trimSpace->Bi
open Go.Proofs.Tryz renaming prog->AC
open Go.RowKit renaming Below->AL,intOf->Aa
open Go.RowKit.Below renaming refl->AW
open Go.World renaming cell?_of_block->Am
open List renaming flatMap_append->C9,flatMap_cons->A_,getElem_inj->C0,getElem_map->BD,getElem_mem->AD,length_append->AN,length_drop->DN,length_map->Aq,map_congr_left->Ay,map_cons->Bz,map_map->DI,mem_append->AV,mem_cons->BQ,mem_cons_of_mem->Ab,mem_cons_self->Af,mem_filter->Cd,mem_map->BL,mem_map_of_mem->BK,mem_singleton->AP,mem_take_iff_getElem->C7,nodup_append->BA,nodup_cons->B4,range'->EP,take_length->AU,take_succ_eq_append_getElem->AF
open Nat renaming add_assoc->Cc,add_sub_cancel_left->Fu,add_zero->Dj,le_refl->AG,le_trans->AH,lt_of_lt_of_le->AR,zero_le->AY
open Go.Proofs.YtgajepeipddacaaGreat
namespace Go.Proofs.YtgajepeipddacaaGreat
set_option linter.unusedVariables false
set_option maxRecDepth 100000
set_option maxHeartbeats 40000000
variable{g i k n r x:Nat}{h O:Nat->Nat}{l:List At2}{G J Y:List Nat}{U:Int}{s:bY}{t:List Nd}{w:AB}
theorem M9(hs:Df r s)(hnb:∀i,i<s.N->Kk (s.nd i)/\(s.nd i).attrs.length<=2000/\∀a∈(s.nd i).attrs,a.val.size<=50000000){fc f:Nat}(hK:KS r g fc f s O w)(H:f<=w.heap.size)
 (xs:List Nat)(hnd:xs.Nodup)(hxr:∀x∈xs,x<s.N)(a1:Option Ai)(c1:Nat)(ho1:w.ownsRow f 57 1 (.slice a1 xs.length c1) xs.length (Ad O xs))
 (v1 v2:AS)(key val:ByteArray)(hkey:key.size<=100000000)(hval:val.size<=100000000)(la:Option Ai)(lc:Nat)(list:List (List UInt8))(hll:list.length<=100000000)(z:∀x∈list,x.length<=100000000)(hls:B6 w f la (strs list))(hsp:(Dv list).length<=500000000):
 AX AC 43 #[.agg #[.int .i64 15,v1,v2,.string key,.string val,.slice la list.length lc],.slice a1 xs.length c1] w (L9 r g fc f O 15 key val list s xs w):=by
 have hxl:xs.length<=600:=AH (BH hnd hxr) hs.few;obtain⟨q,R⟩:∃q,q=w.alloc (.cells #[.int .i64 15,v1,v2,.string key,.string val,.slice la list.length lc] 45):=⟨_,rfl⟩;have hb0:AL w.heap.size w q:=by rw[R];exact Ac
 have hs0:q.heap.size=w.heap.size+1:=by rw[R];simp
 have HQ:Hid (∀W,AL q.heap.size q W->W.cell? ⟨w.heap.size,0,none⟩=some (.int .i64 15)/\W.cell? ⟨w.heap.size,3,none⟩=some (.string key)/\W.cell? ⟨w.heap.size,4,none⟩=some (.string val)/\W.cell? ⟨w.heap.size,5,none⟩=some (.slice la list.length lc)):=by
  intro W d;have:W.heap[w.heap.size]? =some (.cells #[.int .i64 15,v1,v2,.string key,.string val,.slice la list.length lc] 45 (0,0)):=by
   rw[d.block _ (by omega),R];exact Ah w _
  exact⟨Aj this,Aj this,Aj this,Aj this⟩
 have HNm:Hid (∀W,AX AC 34 #[.string key] W (Ou W)):=λW=>FV key W (by omega);have HBf:Hid (∀W,AL w.heap.size w W->AL f w W):=λW d=>d.mono H;have er:=AA hb0;have HKS:=AA hK;have HS:=AA hs;have HO1:=AA ho1;have HLs:=AA (hls.more H);have HLf:Hid (∀W,AL f w W->B6 W W.heap.size la (strs list)):=λW d=>(hls.below d).more (AH H d.size);have HLx:=AA z;have HNb:=AA hnb;clear hb0 hK hs ho1 hls z hnb;obtain⟨J,Q,K,B⟩:=HQ.o q (AW _ _);go_enter func43,ntmps43;go_wp2_with fail;rw[<-R];clear R J Q K B;go_loopw [5,6] (λv _ wr=>∃k:Nat,k<=list.length/\v= .int .i64 k/\Hid (∀x∈list.take k,IA x)/\Hid ((list.take k).Nodup)/\AL q.heap.size q wr) (λv _ _=>list.length-(Aa v).toNat)
 .exact⟨0,AY _,rfl,(λx h=>by simp at h),by simp[Hid],AW _ _⟩
 obtain⟨k,hk,rfl,ea,et,d⟩:=hrel;obtain⟨W,rfl⟩:∃W:AB,W=wr:=⟨_,rfl⟩;obtain⟨J,Q,K,B⟩:=HQ.o W d;by_cases u:k<list.length
 .have HRw:=AA (λW (hW:AL q.heap.size q W)=>(HLs.o.up (BT er.o hW)).at_ (by simp[strs];omega));have HHb:=AA d;obtain⟨b,o,rfl,-,X⟩:=HRw.o W d;have Z:=X k (by simpa [strs]using u);simp only[strs,BD]at Z;obtain⟨y,hy⟩:∃y:ByteArray,y=⟨list[k].toArray⟩:=⟨_,rfl⟩;have hyd:y.data.toList=list[k]:=by rw[hy]
  have HYd:=AA hyd;have hys:y.size<=100000000:=by rw[Jk hyd];exact HLx.o _ (AD u)
  rw[<-hy]at Z;have HPr:=AA (D0 y (by omega) W);clear X hy hyd d;go_wp2_with fail;refine HPr.o.mono ?_;rintro e w4 ⟨rfl,rfl⟩;cases hp:Pe y with
  |false=>
   go_wp2;go_ret;exact⟨false,rfl,by simp,HBf.o _ (BT er.o HHb.o)⟩
  |true=>
   have HNy:Hid (IA list[k]):=by have:=K6 hp;rw[HYd.o]at this;exact this
   clear hp HPr J Q K B;have HTk:Hid (list.take (k+1)=list.take k++[list[k]]):=AF u;go_wp2;go_loopw [6] (λv wr=>∃j:Nat,j<=k/\v= .int .i64 j/\Hid (list[k]∉list.take j)/\AL q.heap.size q wr) (λv _=>k-(Aa v).toNat)
   .exact⟨0,by omega,rfl,by simp[Hid],HHb.o⟩
   obtain⟨j,hj,rfl,S,d⟩:=hrel;obtain⟨t,rfl⟩:∃W:AB,W=wr:=⟨_,rfl⟩;obtain⟨J,Q,K,B⟩:=HQ.o t d;by_cases hlj:j<k
   .obtain⟨_,_,hbo,-,X⟩:=HRw.o t d;cases hbo
    have hlj2:j<list.length:=(by omega);have Z:=X k (by simpa [strs]using u);have g2:=X j (by simpa [strs]using hlj2);simp only[strs,BD]at Z g2;obtain⟨y1,hy1⟩:∃y:ByteArray,y=⟨list[k].toArray⟩:=⟨_,rfl⟩;obtain⟨y2,hy2⟩:∃y:ByteArray,y=⟨list[j].toArray⟩:=⟨_,rfl⟩;have e1:y1.toList=list[k]:=(by rw[BU,hy1]);have e2:y2.toList=list[j]:=(by rw[BU,hy2]);have HE:Hid ((y2.toList==y1.toList)=true↔list[j]=list[k]):=(by rw[Hid,e1,e2];exact beq_iff_eq);rw[<-hy1]at Z;rw[<-hy2]at g2;have eh:=AA d;clear X hy1 hy2 e1 e2 d;cases he:(y2.toList==y1.toList)with
    |false=>
     have HN:Hid (list[k]∉list.take (j+1)):=by
      rw[Hid,AF hlj2,AV,AP];rintro(h|h)
      .exact S.o h
      have:=HE.o.2 h.symm;rw[he]at this;cases this
     clear S HE;go_wp2_with fail;go_quiet(fail);go_wp2;go_roundw
     .exact⟨j+1,hlj,by go_num,HN,BC eh.o _⟩
     simp[Aa];omega
    |true=>
     clear S HE;go_wp2_with fail;go_quiet(fail);go_wp2;go_ret;exact⟨false,rfl,by simp,HBf.o _ (BT er.o (BC eh.o _))⟩
   have ej:j=k:=by omega
   subst ej;have HNm2:Hid (∀x∈list.take (j+1),IA x):=λx hx=>by
    rw[HTk.o,AV,AP]at hx;rcases hx with h|h
    .exact ea.o x h
    rw[h];exact HNy.o
   have HNo2:Hid ((list.take (j+1)).Nodup):=by
    rw[Hid,HTk.o,BA];refine⟨et.o,by simp,λa ha b hb2 e=> ?_⟩;rw[AP]at hb2;subst hb2;subst e;exact S.o ha
   have eh:=AA d;clear S ea et d;go_wp2;go_roundw
   .exact⟨j+1,u,by go_num,HNm2,HNo2,eh.o⟩
   simp[Aa];omega
 have ek:k=list.length:=by omega
 subst ek;rw[AU]at ea et;have C:=AA (BT er.o d);have HKw:Hid (KS r g fc f s O W):=HKS.o.up C.o;have HQ2:Hid (∀wr,Al (λi=>i<s.N) O W wr->wr.cell? ⟨w.heap.size,0,none⟩=some (.int .i64 15)/\wr.cell? ⟨w.heap.size,3,none⟩=some (.string key)/\wr.cell? ⟨w.heap.size,4,none⟩=some (.string val)/\wr.cell? ⟨w.heap.size,5,none⟩=some (.slice la list.length lc)):=λwr hT=>by
  have m:wr.heap[w.heap.size]? =W.heap[w.heap.size]? :=hT.block _ (by have:=d.size;omega) (λi hi e=>by have:=HKS.o.kno.lt hi;omega);exact⟨(Am (a:=⟨w.heap.size,0,none⟩) m).trans J,(Am (a:=⟨w.heap.size,3,none⟩) m).trans Q,(Am (a:=⟨w.heap.size,4,none⟩) m).trans K,(Am (a:=⟨w.heap.size,5,none⟩) m).trans B⟩
 have HRx:Hid (∀wr,Al (λi=>i<s.N) O W wr->B6 wr wr.heap.size a1 (Ad O xs)):=λwr hT=>by
  have h1:W.ownsRow f 57 1 (.slice a1 xs.length c1) xs.length (Ad O xs):=BB HO1.o λb _ h2=>C.o.block b h2;exact Bh (hT.own h1 λi hi=>by obtain⟨_,_,_,_,_,h2,_⟩:=HKw.o.kno.node i hi;exact Ax h1 h2 (by decide))
 have HBw:Hid (∀wr,Al (λi=>i<s.N) O W wr->AL f w wr):=λwr hT=>(HBf.o _ C.o).trans (HKw.o.Zr (AH H C.o.size) hT);have HXr:Hid (∀x∈xs,x<s.N):=hxr;have HNd:Hid xs.Nodup:=hnd;clear d J Q K hxr hnd;go_wp2_with fail;clear B;go_loopw [7,8,9,10] (λv _ _ _ wr=>∃i:Nat,i<=xs.length/\v= .int .i64 i/\Hid (KS r g fc f (Jf 15 key val list s (xs.take i)) O wr)/\Hid (Al (λi=>i<s.N) O W wr)/\Hid (IZ 15 list s (xs.take i))) (λv _ _ _ _=>xs.length-(Aa v).toNat)
 .exact⟨0,AY _,rfl,HKw.o,Al.refl _ _ _,λ_ x hx=>(by cases hx)⟩
 obtain⟨i,hi,rfl,A,l,D⟩:=hrel;obtain⟨t,rfl⟩:∃W:AB,W=wr:=⟨_,rfl⟩;by_cases z:i<xs.length
 .have hxm:xs[i]∈xs:=AD z;have hnt:xs[i]∉xs.take i:=λh=>by
   obtain⟨j,hj,e⟩:=C7.1 h;have:=(C0 HNd.o).1 e;omega
  obtain⟨x,hx⟩:∃x,x=xs[i]:=⟨_,rfl⟩;have ee:x<s.N:=by rw[hx];exact HXr.o _ hxm
  have hsn:xs.take (i+1)=xs.take i++[x]:=by rw[hx];exact AF z
  have hsx:(Jf 15 key val list s (xs.take i)).nd x=s.nd x:=by rw[hx];exact FC _ _ hnt
  have hN:(Jf 15 key val list s (xs.take i)).N=s.N:=(Fx _ s).2.1;obtain⟨hkB,aa,ac,ka,kc,n,p,hown2⟩:=A.o.kno.node x (by rw[hN];exact ee);rw[hsx]at n p;obtain⟨L,hL⟩:∃L,L=(s.nd x).attrs:=⟨_,rfl⟩;obtain⟨N1,N2,N3⟩:=HNb.o x ee;rw[<-hL]at p N2 N3;have HA:Hid (JZ t t.heap.size aa L):=J' p (by unfold maxLen;omega) (by rw[hL];exact N1.ats);have c4:t.cell? ⟨O x,4,none⟩=some (.slice aa L.length ac):=by rw[AZ t _ _ _ _ _ n];simp[Eo,hL]
  have hfr:∀(I:AB),AL t.heap.size t I->(∀j,I.frozen? ⟨O x,j,none⟩=false)/\I.cell? ⟨O x,4,none⟩=some (.slice aa L.length ac):=λI d=>by
   have u:=(AE.1 n).1;have m:I.heap[O x]? =t.heap[O x]? :=d.block _ u;exact⟨λj=>A7 I _ j _ _ (m.trans n),(Am (a:=⟨O x,4,none⟩) m).trans c4⟩
  have U:=AA hfr;have Y:Hid (∀(v:List At2) (I:AB) (a:Option Ai) (c:Nat),v=He 15 key val list L->I.ownsRow t.heap.size 49 2 (.slice a v.length c) v.length (CJ v)->AL t.heap.size t I->
   Hid (KS r g fc f (Jf 15 key val list s (xs.take (i+1))) O (I.setCell ⟨O x,4,none⟩ (.slice a v.length c)))/\Hid (Al (λi=>i<s.N) O W (I.setCell ⟨O x,4,none⟩ (.slice a v.length c)))):=λv I a c hv ho d=>by
   rw[hsn,Im,hsx,<-hL,<-hv];have hs5:f<=t.heap.size:=AH (AH H C.o.size) l.o.size;exact⟨(A.o.up d).setAt (by rw[hN];exact ee) (Bf ho hs5),(l.o.trans (Al.Yq d)).set ee 4 _⟩
  obtain⟨J,Q,K,B⟩:=HQ2.o t l.o;obtain⟨b,o,rfl,-,X⟩:=(HRx.o t l.o).at_ (by simp[Ad];omega);have Z:=X i (by simp[Ad];omega);simp only[Ad,BD]at Z;rw[<-hx]at Z;obtain⟨kx,E⟩:∃kx,kx=O x:=⟨_,rfl⟩;rw[<-E]at Z c4 U Y;have HLn:Hid (L.length<=3000):=by rw[Hid];omega
  have HVs:=AA N3;have es:=AA l.o;have HCl:Hid ((list≠[]/\IC (Cq L))->IZ 15 list s (xs.take (i+1))):=λh ho y hy=>by
   rw[hsn,AV,AP]at hy;rcases hy with hy|rfl
   .exact D.o ho y hy
   rw[<-hL];exact h
  clear D;have k1:t.cell? ⟨kx,1,none⟩=some (.int .i64 (s.nd x).kind):=by rw[E,AZ t _ _ _ _ _ n];rfl
  have k2:t.cell? ⟨kx,2,none⟩=some (.string (s.nd x).tag):=by rw[E,AZ t _ _ _ _ _ n];rfl
  have k3:t.cell? ⟨kx,3,none⟩=some (.string (s.nd x).text):=by rw[E,AZ t _ _ _ _ _ n];rfl
  have k5:t.cell? ⟨kx,5,none⟩=some (.int .i64 (s.nd x).size):=by rw[E,AZ t _ _ _ _ _ n];rfl
  obtain⟨nk,nt,nx,ns,hn1,hn2,hn3,hn4⟩:∃(nk:Int) (nt nx:ByteArray) (ns:Int),nk=(s.nd x).kind/\nt=(s.nd x).tag/\nx=(s.nd x).text/\ns=(s.nd x).size:=⟨_,_,_,_,rfl,rfl,rfl,rfl⟩;rw[<-hn1]at k1;rw[<-hn2]at k2;rw[<-hn3]at k3;rw[<-hn4]at k5;have HAt:=AA (λW (hW:AL t.heap.size t W)=>KB ⟨nk,nt,nx,aa,ac,L,ns⟩ C4 W ((HA.o.below hW).more hW.size) (by show L.length<=_;have:=HLn.o;omega));have hhs:(Cq L).size<=50000000:=OM HVs.o;obtain⟨V,hV⟩:∃V,V=Cq L:=⟨_,rfl⟩;have HV:=AA hV;rw[<-hV]at hhs;clear X hn1 hn2 hn3 hn4 hV n p hown2 hL hsx hsn hfr hx hkB hN N1 N2 N3 A l E hxm hnt;go_wp2_with fail;refine(HAt.o _ (by first|exact AW _ _|exact(AW _ _).drew)).mono ?_;rintro e w6 ⟨N,hb6⟩;obtain⟨bb,rfl⟩:∃bb,e= .returned (.tuple #[.string V,.bool bb]):=by
   rw[HV.o];unfold Cq;cases hf:CF L C4 with
   |none=>rw[hf]at N;exact⟨_,N⟩
   |some y=>rw[hf]at N;exact⟨_,N⟩
  have en:AL t.heap.size t w6:=by first|exact hb6|exact(AW _ _).drew.trans hb6
  have HB7:=AA en;obtain⟨J,Q,K,B⟩:=HQ2.o w6 (es.o.trans (Al.Yq en));have HSi:=AA (λW=>Jy V (by omega) W);have HF6:=AA (HBw.o w6 (es.o.trans (Al.Yq en)));clear N hb6 en HAt;by_cases hl0:list.length=0
  .have ez:((list.length:Int)==0)=true:=beq_iff_eq.2 (by omega);go_wp2;go_ret;exact⟨false,rfl,by simp,HF6.o⟩
  have ez:((list.length:Int)==0)=false:=CY.2 (by omega);go_wp2_with fail;refine(HSi.o _).mono ?_;rintro e w7 ⟨b1,rfl,M,eo⟩;have T:AL t.heap.size t w7:=by first|exact BT HB7.o eo|exact BT HB7.o.drew eo
  have HF7:=AA (HBw.o w7 (es.o.trans (Al.Yq T)));cases b1
  .clear eo T M;go_wp2;go_ret;exact⟨false,rfl,by simp,HF7.o⟩
  have HSm:=AA (M rfl);obtain⟨J,Q,K,B⟩:=HQ2.o w7 (es.o.trans (Al.Yq T));obtain⟨f7,c47⟩:=U.o w7 T;have HB9:=AA T;have HLs7:=AA (HLf.o w7 HF7.o);have hcw:=FI V.data.toList;have hvs:V.data.toList.length=V.size:=rfl;have hsw:=JS _ V.data.toList (AG _);have HCs:=AA (Ip (op:=15) (by decide) V (by omega) list (by omega) (by omega) (by omega) (by omega) la lc w7.drew HLs7.o);have hcv:=OB 15 V.data.toList list;have HWi:=AA (λW (hW:AL t.heap.size t W)=>Kg L C4 (Gr 15 V.data.toList list) aa ac W ((HA.o.below hW).more hW.size) (by have:=HLn.o;omega) ⟨by show 5<=maxLen;decide,by unfold maxLen;omega⟩);clear eo T M f7 hcw hsw hvs hcv;go_wp2_with fail;go_region_with (first|(go_at_call 71;refine HCs.o.mono ?_;rintro e w8 ⟨rfl,hb10⟩;have F:=BT HB9.o.drew hb10;obtain⟨f8,c48⟩:=U.o w8 F;have G:=AA F;clear hb10 F f8)|(go_at_call 68;refine(HWi.o _ G.o).mono ?_;rintro e w9 ⟨a6,c6,rfl,P,hb12⟩;have hb13:=BT G.o hb12;obtain⟨f9,c49⟩:=U.o w9 hb13;have f94:=f9 4));all_goals
   clear U f9;go_wp2_with fail;obtain⟨HK2,HT2⟩:=Y.o _ w9 a6 c6 (by simp[He,HV.o]) (Bf P G.o.size) hb13;clear Y P hb12;go_roundw
   .exact⟨i+1,z,by go_num,HK2,HT2,HCl.o ⟨by intro h;subst h;exact hl0 rfl,by rw[<-HV.o];exact HSm.o⟩⟩
   simp[Aa];omega
 have ei:i=xs.length:=by omega
 subst ei;rw[AU]at A D;have HD:Hid (L9 r g fc f O 15 key val list s xs w (.returned (.bool true)) t):=⟨true,rfl,λ_=>⟨ea.o,et.o,A.o,D.o⟩,HBw.o _ l.o⟩;clear A l D;go_wp2;go_ret;exact HD.o
theorem M_(hs:Df r s)(hnb:∀i,i<s.N->Kk (s.nd i)/\(s.nd i).attrs.length<=2000/\∀a∈(s.nd i).attrs,a.val.size<=50000000){fc f:Nat}(hK:KS r g fc f s O w)(H:f<=w.heap.size)
 (xs:List Nat)(hnd:xs.Nodup)(hxr:∀x∈xs,x<s.N)(a1:Option Ai)(c1:Nat)(ho1:w.ownsRow f 57 1 (.slice a1 xs.length c1) xs.length (Ad O xs))
 (v1 v2:AS)(key val:ByteArray)(hkey:key.size<=100000000)(hval:val.size<=100000000)(la:Option Ai)(lc:Nat)(list:List (List UInt8))(hll:list.length<=100000000)(z:∀x∈list,x.length<=100000000)(hls:B6 w f la (strs list))(hsp:(Dv list).length<=500000000):
 AX AC 43 #[.agg #[.int .i64 16,v1,v2,.string key,.string val,.slice la list.length lc],.slice a1 xs.length c1] w (L9 r g fc f O 16 key val list s xs w):=by
 have hxl:xs.length<=600:=AH (BH hnd hxr) hs.few;obtain⟨q,R⟩:∃q,q=w.alloc (.cells #[.int .i64 16,v1,v2,.string key,.string val,.slice la list.length lc] 45):=⟨_,rfl⟩;have hb0:AL w.heap.size w q:=by rw[R];exact Ac
 have hs0:q.heap.size=w.heap.size+1:=by rw[R];simp
 have HQ:Hid (∀W,AL q.heap.size q W->W.cell? ⟨w.heap.size,0,none⟩=some (.int .i64 16)/\W.cell? ⟨w.heap.size,3,none⟩=some (.string key)/\W.cell? ⟨w.heap.size,4,none⟩=some (.string val)/\W.cell? ⟨w.heap.size,5,none⟩=some (.slice la list.length lc)):=by
  intro W d;have:W.heap[w.heap.size]? =some (.cells #[.int .i64 16,v1,v2,.string key,.string val,.slice la list.length lc] 45 (0,0)):=by
   rw[d.block _ (by omega),R];exact Ah w _
  exact⟨Aj this,Aj this,Aj this,Aj this⟩
 have HNm:Hid (∀W,AX AC 34 #[.string key] W (Ou W)):=λW=>FV key W (by omega);have HBf:Hid (∀W,AL w.heap.size w W->AL f w W):=λW d=>d.mono H;have er:=AA hb0;have HKS:=AA hK;have HS:=AA hs;have HO1:=AA ho1;have HLs:=AA (hls.more H);have HLf:Hid (∀W,AL f w W->B6 W W.heap.size la (strs list)):=λW d=>(hls.below d).more (AH H d.size);have HLx:=AA z;have HNb:=AA hnb;clear hb0 hK hs ho1 hls z hnb;obtain⟨J,Q,K,B⟩:=HQ.o q (AW _ _);go_enter func43,ntmps43;go_wp2_with fail;rw[<-R];clear R J Q K B;go_loopw [5,6] (λv _ wr=>∃k:Nat,k<=list.length/\v= .int .i64 k/\Hid (∀x∈list.take k,IA x)/\Hid ((list.take k).Nodup)/\AL q.heap.size q wr) (λv _ _=>list.length-(Aa v).toNat)
 .exact⟨0,AY _,rfl,(λx h=>by simp at h),by simp[Hid],AW _ _⟩
 obtain⟨k,hk,rfl,ea,et,d⟩:=hrel;obtain⟨W,rfl⟩:∃W:AB,W=wr:=⟨_,rfl⟩;obtain⟨J,Q,K,B⟩:=HQ.o W d;by_cases u:k<list.length
 .have HRw:=AA (λW (hW:AL q.heap.size q W)=>(HLs.o.up (BT er.o hW)).at_ (by simp[strs];omega));have HHb:=AA d;obtain⟨b,o,rfl,-,X⟩:=HRw.o W d;have Z:=X k (by simpa [strs]using u);simp only[strs,BD]at Z;obtain⟨y,hy⟩:∃y:ByteArray,y=⟨list[k].toArray⟩:=⟨_,rfl⟩;have hyd:y.data.toList=list[k]:=by rw[hy]
  have HYd:=AA hyd;have hys:y.size<=100000000:=by rw[Jk hyd];exact HLx.o _ (AD u)
  rw[<-hy]at Z;have HPr:=AA (D0 y (by omega) W);clear X hy hyd d;go_wp2_with fail;refine HPr.o.mono ?_;rintro e w4 ⟨rfl,rfl⟩;cases hp:Pe y with
  |false=>
   go_wp2;go_ret;exact⟨false,rfl,by simp,HBf.o _ (BT er.o HHb.o)⟩
  |true=>
   have HNy:Hid (IA list[k]):=by have:=K6 hp;rw[HYd.o]at this;exact this
   clear hp HPr J Q K B;have HTk:Hid (list.take (k+1)=list.take k++[list[k]]):=AF u;go_wp2;go_loopw [6] (λv wr=>∃j:Nat,j<=k/\v= .int .i64 j/\Hid (list[k]∉list.take j)/\AL q.heap.size q wr) (λv _=>k-(Aa v).toNat)
   .exact⟨0,by omega,rfl,by simp[Hid],HHb.o⟩
   obtain⟨j,hj,rfl,S,d⟩:=hrel;obtain⟨t,rfl⟩:∃W:AB,W=wr:=⟨_,rfl⟩;obtain⟨J,Q,K,B⟩:=HQ.o t d;by_cases hlj:j<k
   .obtain⟨_,_,hbo,-,X⟩:=HRw.o t d;cases hbo
    have hlj2:j<list.length:=(by omega);have Z:=X k (by simpa [strs]using u);have g2:=X j (by simpa [strs]using hlj2);simp only[strs,BD]at Z g2;obtain⟨y1,hy1⟩:∃y:ByteArray,y=⟨list[k].toArray⟩:=⟨_,rfl⟩;obtain⟨y2,hy2⟩:∃y:ByteArray,y=⟨list[j].toArray⟩:=⟨_,rfl⟩;have e1:y1.toList=list[k]:=(by rw[BU,hy1]);have e2:y2.toList=list[j]:=(by rw[BU,hy2]);have HE:Hid ((y2.toList==y1.toList)=true↔list[j]=list[k]):=(by rw[Hid,e1,e2];exact beq_iff_eq);rw[<-hy1]at Z;rw[<-hy2]at g2;have eh:=AA d;clear X hy1 hy2 e1 e2 d;cases he:(y2.toList==y1.toList)with
    |false=>
     have HN:Hid (list[k]∉list.take (j+1)):=by
      rw[Hid,AF hlj2,AV,AP];rintro(h|h)
      .exact S.o h
      have:=HE.o.2 h.symm;rw[he]at this;cases this
     clear S HE;go_wp2_with fail;go_quiet(fail);go_wp2;go_roundw
     .exact⟨j+1,hlj,by go_num,HN,BC eh.o _⟩
     simp[Aa];omega
    |true=>
     clear S HE;go_wp2_with fail;go_quiet(fail);go_wp2;go_ret;exact⟨false,rfl,by simp,HBf.o _ (BT er.o (BC eh.o _))⟩
   have ej:j=k:=by omega
   subst ej;have HNm2:Hid (∀x∈list.take (j+1),IA x):=λx hx=>by
    rw[HTk.o,AV,AP]at hx;rcases hx with h|h
    .exact ea.o x h
    rw[h];exact HNy.o
   have HNo2:Hid ((list.take (j+1)).Nodup):=by
    rw[Hid,HTk.o,BA];refine⟨et.o,by simp,λa ha b hb2 e=> ?_⟩;rw[AP]at hb2;subst hb2;subst e;exact S.o ha
   have eh:=AA d;clear S ea et d;go_wp2;go_roundw
   .exact⟨j+1,u,by go_num,HNm2,HNo2,eh.o⟩
   simp[Aa];omega
 have ek:k=list.length:=by omega
 subst ek;rw[AU]at ea et;have C:=AA (BT er.o d);have HKw:Hid (KS r g fc f s O W):=HKS.o.up C.o;have HQ2:Hid (∀wr,Al (λi=>i<s.N) O W wr->wr.cell? ⟨w.heap.size,0,none⟩=some (.int .i64 16)/\wr.cell? ⟨w.heap.size,3,none⟩=some (.string key)/\wr.cell? ⟨w.heap.size,4,none⟩=some (.string val)/\wr.cell? ⟨w.heap.size,5,none⟩=some (.slice la list.length lc)):=λwr hT=>by
  have m:wr.heap[w.heap.size]? =W.heap[w.heap.size]? :=hT.block _ (by have:=d.size;omega) (λi hi e=>by have:=HKS.o.kno.lt hi;omega);exact⟨(Am (a:=⟨w.heap.size,0,none⟩) m).trans J,(Am (a:=⟨w.heap.size,3,none⟩) m).trans Q,(Am (a:=⟨w.heap.size,4,none⟩) m).trans K,(Am (a:=⟨w.heap.size,5,none⟩) m).trans B⟩
 have HRx:Hid (∀wr,Al (λi=>i<s.N) O W wr->B6 wr wr.heap.size a1 (Ad O xs)):=λwr hT=>by
  have h1:W.ownsRow f 57 1 (.slice a1 xs.length c1) xs.length (Ad O xs):=BB HO1.o λb _ h2=>C.o.block b h2;exact Bh (hT.own h1 λi hi=>by obtain⟨_,_,_,_,_,h2,_⟩:=HKw.o.kno.node i hi;exact Ax h1 h2 (by decide))
 have HBw:Hid (∀wr,Al (λi=>i<s.N) O W wr->AL f w wr):=λwr hT=>(HBf.o _ C.o).trans (HKw.o.Zr (AH H C.o.size) hT);have HXr:Hid (∀x∈xs,x<s.N):=hxr;have HNd:Hid xs.Nodup:=hnd;clear d J Q K hxr hnd;go_wp2_with fail;clear B;go_loopw [7,8,9,10] (λv _ _ _ wr=>∃i:Nat,i<=xs.length/\v= .int .i64 i/\Hid (KS r g fc f (Jf 16 key val list s (xs.take i)) O wr)/\Hid (Al (λi=>i<s.N) O W wr)/\Hid (IZ 16 list s (xs.take i))) (λv _ _ _ _=>xs.length-(Aa v).toNat)
 .exact⟨0,AY _,rfl,HKw.o,Al.refl _ _ _,λ_ x hx=>(by cases hx)⟩
 obtain⟨i,hi,rfl,A,l,D⟩:=hrel;obtain⟨t,rfl⟩:∃W:AB,W=wr:=⟨_,rfl⟩;by_cases z:i<xs.length
 .have hxm:xs[i]∈xs:=AD z;have hnt:xs[i]∉xs.take i:=λh=>by
   obtain⟨j,hj,e⟩:=C7.1 h;have:=(C0 HNd.o).1 e;omega
  obtain⟨x,hx⟩:∃x,x=xs[i]:=⟨_,rfl⟩;have ee:x<s.N:=by rw[hx];exact HXr.o _ hxm
  have hsn:xs.take (i+1)=xs.take i++[x]:=by rw[hx];exact AF z
  have hsx:(Jf 16 key val list s (xs.take i)).nd x=s.nd x:=by rw[hx];exact FC _ _ hnt
  have hN:(Jf 16 key val list s (xs.take i)).N=s.N:=(Fx _ s).2.1;obtain⟨hkB,aa,ac,ka,kc,n,p,hown2⟩:=A.o.kno.node x (by rw[hN];exact ee);rw[hsx]at n p;obtain⟨L,hL⟩:∃L,L=(s.nd x).attrs:=⟨_,rfl⟩;obtain⟨N1,N2,N3⟩:=HNb.o x ee;rw[<-hL]at p N2 N3;have HA:Hid (JZ t t.heap.size aa L):=J' p (by unfold maxLen;omega) (by rw[hL];exact N1.ats);have c4:t.cell? ⟨O x,4,none⟩=some (.slice aa L.length ac):=by rw[AZ t _ _ _ _ _ n];simp[Eo,hL]
  have hfr:∀(I:AB),AL t.heap.size t I->(∀j,I.frozen? ⟨O x,j,none⟩=false)/\I.cell? ⟨O x,4,none⟩=some (.slice aa L.length ac):=λI d=>by
   have u:=(AE.1 n).1;have m:I.heap[O x]? =t.heap[O x]? :=d.block _ u;exact⟨λj=>A7 I _ j _ _ (m.trans n),(Am (a:=⟨O x,4,none⟩) m).trans c4⟩
  have U:=AA hfr;have Y:Hid (∀(v:List At2) (I:AB) (a:Option Ai) (c:Nat),v=He 16 key val list L->I.ownsRow t.heap.size 49 2 (.slice a v.length c) v.length (CJ v)->AL t.heap.size t I->
   Hid (KS r g fc f (Jf 16 key val list s (xs.take (i+1))) O (I.setCell ⟨O x,4,none⟩ (.slice a v.length c)))/\Hid (Al (λi=>i<s.N) O W (I.setCell ⟨O x,4,none⟩ (.slice a v.length c)))):=λv I a c hv ho d=>by
   rw[hsn,Im,hsx,<-hL,<-hv];have hs5:f<=t.heap.size:=AH (AH H C.o.size) l.o.size;exact⟨(A.o.up d).setAt (by rw[hN];exact ee) (Bf ho hs5),(l.o.trans (Al.Yq d)).set ee 4 _⟩
  obtain⟨J,Q,K,B⟩:=HQ2.o t l.o;obtain⟨b,o,rfl,-,X⟩:=(HRx.o t l.o).at_ (by simp[Ad];omega);have Z:=X i (by simp[Ad];omega);simp only[Ad,BD]at Z;rw[<-hx]at Z;obtain⟨kx,E⟩:∃kx,kx=O x:=⟨_,rfl⟩;rw[<-E]at Z c4 U Y;have HLn:Hid (L.length<=3000):=by rw[Hid];omega
  have HVs:=AA N3;have es:=AA l.o;have HCl:Hid ((list≠[]/\IC (Cq L))->IZ 16 list s (xs.take (i+1))):=λh ho y hy=>by
   rw[hsn,AV,AP]at hy;rcases hy with hy|rfl
   .exact D.o ho y hy
   rw[<-hL];exact h
  clear D;have k1:t.cell? ⟨kx,1,none⟩=some (.int .i64 (s.nd x).kind):=by rw[E,AZ t _ _ _ _ _ n];rfl
  have k2:t.cell? ⟨kx,2,none⟩=some (.string (s.nd x).tag):=by rw[E,AZ t _ _ _ _ _ n];rfl
  have k3:t.cell? ⟨kx,3,none⟩=some (.string (s.nd x).text):=by rw[E,AZ t _ _ _ _ _ n];rfl
  have k5:t.cell? ⟨kx,5,none⟩=some (.int .i64 (s.nd x).size):=by rw[E,AZ t _ _ _ _ _ n];rfl
  obtain⟨nk,nt,nx,ns,hn1,hn2,hn3,hn4⟩:∃(nk:Int) (nt nx:ByteArray) (ns:Int),nk=(s.nd x).kind/\nt=(s.nd x).tag/\nx=(s.nd x).text/\ns=(s.nd x).size:=⟨_,_,_,_,rfl,rfl,rfl,rfl⟩;rw[<-hn1]at k1;rw[<-hn2]at k2;rw[<-hn3]at k3;rw[<-hn4]at k5;have HAt:=AA (λW (hW:AL t.heap.size t W)=>KB ⟨nk,nt,nx,aa,ac,L,ns⟩ C4 W ((HA.o.below hW).more hW.size) (by show L.length<=_;have:=HLn.o;omega));have hhs:(Cq L).size<=50000000:=OM HVs.o;obtain⟨V,hV⟩:∃V,V=Cq L:=⟨_,rfl⟩;have HV:=AA hV;rw[<-hV]at hhs;clear X hn1 hn2 hn3 hn4 hV n p hown2 hL hsx hsn hfr hx hkB hN N1 N2 N3 A l E hxm hnt;go_wp2_with fail;refine(HAt.o _ (by first|exact AW _ _|exact(AW _ _).drew)).mono ?_;rintro e w6 ⟨N,hb6⟩;obtain⟨bb,rfl⟩:∃bb,e= .returned (.tuple #[.string V,.bool bb]):=by
   rw[HV.o];unfold Cq;cases hf:CF L C4 with
   |none=>rw[hf]at N;exact⟨_,N⟩
   |some y=>rw[hf]at N;exact⟨_,N⟩
  have en:AL t.heap.size t w6:=by first|exact hb6|exact(AW _ _).drew.trans hb6
  have HB7:=AA en;obtain⟨J,Q,K,B⟩:=HQ2.o w6 (es.o.trans (Al.Yq en));have HSi:=AA (λW=>Jy V (by omega) W);have HF6:=AA (HBw.o w6 (es.o.trans (Al.Yq en)));clear N hb6 en HAt;by_cases hl0:list.length=0
  .have ez:((list.length:Int)==0)=true:=beq_iff_eq.2 (by omega);go_wp2;go_ret;exact⟨false,rfl,by simp,HF6.o⟩
  have ez:((list.length:Int)==0)=false:=CY.2 (by omega);go_wp2_with fail;refine(HSi.o _).mono ?_;rintro e w7 ⟨b1,rfl,M,eo⟩;have T:AL t.heap.size t w7:=by first|exact BT HB7.o eo|exact BT HB7.o.drew eo
  have HF7:=AA (HBw.o w7 (es.o.trans (Al.Yq T)));cases b1
  .clear eo T M;go_wp2;go_ret;exact⟨false,rfl,by simp,HF7.o⟩
  have HSm:=AA (M rfl);obtain⟨J,Q,K,B⟩:=HQ2.o w7 (es.o.trans (Al.Yq T));obtain⟨f7,c47⟩:=U.o w7 T;have HB9:=AA T;have HLs7:=AA (HLf.o w7 HF7.o);have hcw:=FI V.data.toList;have hvs:V.data.toList.length=V.size:=rfl;have hsw:=JS _ V.data.toList (AG _);have HCs:=AA (Ip (op:=16) (by decide) V (by omega) list (by omega) (by omega) (by omega) (by omega) la lc w7.drew HLs7.o);have hcv:=OB 16 V.data.toList list;have HWi:=AA (λW (hW:AL t.heap.size t W)=>Kg L C4 (Gr 16 V.data.toList list) aa ac W ((HA.o.below hW).more hW.size) (by have:=HLn.o;omega) ⟨by show 5<=maxLen;decide,by unfold maxLen;omega⟩);clear eo T M f7 hcw hsw hvs hcv;go_wp2_with fail;go_region_with (first|(go_at_call 71;refine HCs.o.mono ?_;rintro e w8 ⟨rfl,hb10⟩;have F:=BT HB9.o.drew hb10;obtain⟨f8,c48⟩:=U.o w8 F;have G:=AA F;clear hb10 F f8)|(go_at_call 68;refine(HWi.o _ G.o).mono ?_;rintro e w9 ⟨a6,c6,rfl,P,hb12⟩;have hb13:=BT G.o hb12;obtain⟨f9,c49⟩:=U.o w9 hb13;have f94:=f9 4));all_goals
   clear U f9;go_wp2_with fail;obtain⟨HK2,HT2⟩:=Y.o _ w9 a6 c6 (by simp[He,HV.o]) (Bf P G.o.size) hb13;clear Y P hb12;go_roundw
   .exact⟨i+1,z,by go_num,HK2,HT2,HCl.o ⟨by intro h;subst h;exact hl0 rfl,by rw[<-HV.o];exact HSm.o⟩⟩
   simp[Aa];omega
 have ei:i=xs.length:=by omega
 subst ei;rw[AU]at A D;have HD:Hid (L9 r g fc f O 16 key val list s xs w (.returned (.bool true)) t):=⟨true,rfl,λ_=>⟨ea.o,et.o,A.o,D.o⟩,HBw.o _ l.o⟩;clear A l D;go_wp2;go_ret;exact HD.o
theorem Ln(hs:Df r s)(K:∀i,i<s.N->Kk (s.nd i)/\(s.nd i).attrs.length<=2000/\∀a∈(s.nd i).attrs,a.val.size<=50000000){fc d:Nat}(hK:KS r g fc d s O w)(f:d<=w.heap.size)
 (xs:List Nat)(F:xs.Nodup)(U:∀x∈xs,x<s.N)(a1:Option Ai)(c1:Nat)(V:w.ownsRow d 57 1 (.slice a1 xs.length c1) xs.length (Ad O xs))
 (op:Int)(hop:op≠12/\op≠13/\op≠14/\op≠15/\op≠16)(hxs:xs≠[])
 (v1 v2:AS)(key val:ByteArray)(hkey:key.size<=100000000)(hval:val.size<=100000000)(la:Option Ai)(lc:Nat)(list:List (List UInt8))(hll:list.length<=100000000)(Q:∀x∈list,x.length<=100000000)(Y:B6 w d la (strs list))(hsp:(Dv list).length<=500000000):
 AX AC 43 #[.agg #[.int .i64 op,v1,v2,.string key,.string val,.slice la list.length lc],.slice a1 xs.length c1] w (λe w'=>∃b,e= .returned (.bool b)/\b=false/\AL d w w'):=by
 obtain⟨n1,n2,n3,n4,n5⟩:=hop;have hxl:xs.length<=600:=AH (BH F U) hs.few;obtain⟨n,c⟩:∃n,n=w.alloc (.cells #[.int .i64 op,v1,v2,.string key,.string val,.slice la list.length lc] 45):=⟨_,rfl⟩;have X:AL w.heap.size w n:=by rw[c];exact Ac
 have hs0:n.heap.size=w.heap.size+1:=by rw[c];simp
 have HQ:Hid (∀W,AL n.heap.size n W->W.cell? ⟨w.heap.size,0,none⟩=some (.int .i64 op)/\W.cell? ⟨w.heap.size,3,none⟩=some (.string key)/\W.cell? ⟨w.heap.size,4,none⟩=some (.string val)/\W.cell? ⟨w.heap.size,5,none⟩=some (.slice la list.length lc)):=by
  intro W t;have:W.heap[w.heap.size]? =some (.cells #[.int .i64 op,v1,v2,.string key,.string val,.slice la list.length lc] 45 (0,0)):=by
   rw[t.block _ (by omega),c];exact Ah w _
  exact⟨Aj this,Aj this,Aj this,Aj this⟩
 have HNm:Hid (∀W,AX AC 34 #[.string key] W (Ou W)):=λW=>FV key W (by omega);have G:Hid (∀W,AL w.heap.size w W->AL d w W):=λW t=>t.mono f;have E:=AA X;have eo:=AA hK;have HS:=AA hs;have HO1:=AA V;have HLs:=AA (Y.more f);have HLf:Hid (∀W,AL d w W->B6 W W.heap.size la (strs list)):=λW t=>(Y.below t).more (AH f t.size);have HLx:=AA Q;have HNb:=AA K;clear X hK hs V Y Q K;obtain⟨S,N,I,A⟩:=HQ.o n (AW _ _);go_enter func43,ntmps43;go_wp2_with fail;rw[<-c];clear c S N I A;go_loopw [5,6] (λv _ wr=>∃k:Nat,k<=list.length/\v= .int .i64 k/\Hid (∀x∈list.take k,IA x)/\Hid ((list.take k).Nodup)/\AL n.heap.size n wr) (λv _ _=>list.length-(Aa v).toNat)
 .exact⟨0,AY _,rfl,(λx h=>by simp at h),by simp[Hid],AW _ _⟩
 obtain⟨k,hk,rfl,M,C,t⟩:=hrel;obtain⟨W,rfl⟩:∃W:AB,W=wr:=⟨_,rfl⟩;obtain⟨S,N,I,A⟩:=HQ.o W t;by_cases u:k<list.length
 .have ee:=AA (λW (hW:AL n.heap.size n W)=>(HLs.o.up (BT E.o hW)).at_ (by simp[strs];omega));have ei:=AA t;obtain⟨b,o,rfl,-,m⟩:=ee.o W t;have H:=m k (by simpa [strs]using u);simp only[strs,BD]at H;obtain⟨y,hy⟩:∃y:ByteArray,y=⟨list[k].toArray⟩:=⟨_,rfl⟩;have R:y.data.toList=list[k]:=by rw[hy]
  have HYd:=AA R;have hys:y.size<=100000000:=by rw[Jk R];exact HLx.o _ (AD u)
  rw[<-hy]at H;have et:=AA (D0 y (by omega) W);clear m hy R t;go_wp2_with fail;refine et.o.mono ?_;rintro e w4 ⟨rfl,rfl⟩;cases hp:Pe y with
  |false=>
   go_wp2;go_ret;exact⟨false,rfl,rfl,G.o _ (BT E.o ei.o)⟩
  |true=>
   have HNy:Hid (IA list[k]):=by have:=K6 hp;rw[HYd.o]at this;exact this
   clear hp et S N I A;have Z:Hid (list.take (k+1)=list.take k++[list[k]]):=AF u;go_wp2;go_loopw [6] (λv wr=>∃j:Nat,j<=k/\v= .int .i64 j/\Hid (list[k]∉list.take j)/\AL n.heap.size n wr) (λv _=>k-(Aa v).toNat)
   .exact⟨0,by omega,rfl,by simp[Hid],ei.o⟩
   obtain⟨j,hj,rfl,l,t⟩:=hrel;obtain⟨P,rfl⟩:∃W:AB,W=wr:=⟨_,rfl⟩;obtain⟨S,N,I,A⟩:=HQ.o P t;by_cases hlj:j<k
   .obtain⟨_,_,hbo,-,m⟩:=ee.o P t;cases hbo
    have T:j<list.length:=(by omega);have H:=m k (by simpa [strs]using u);have g2:=m j (by simpa [strs]using T);simp only[strs,BD]at H g2;obtain⟨y1,L⟩:∃y:ByteArray,y=⟨list[k].toArray⟩:=⟨_,rfl⟩;obtain⟨y2,D⟩:∃y:ByteArray,y=⟨list[j].toArray⟩:=⟨_,rfl⟩;have e1:y1.toList=list[k]:=(by rw[BU,L]);have e2:y2.toList=list[j]:=(by rw[BU,D]);have HE:Hid ((y2.toList==y1.toList)=true↔list[j]=list[k]):=(by rw[Hid,e1,e2];exact beq_iff_eq);rw[<-L]at H;rw[<-D]at g2;have q:=AA t;clear m L D e1 e2 t;cases he:(y2.toList==y1.toList)with
    |false=>
     have HN:Hid (list[k]∉list.take (j+1)):=by
      rw[Hid,AF T,AV,AP];rintro(h|h)
      .exact l.o h
      have:=HE.o.2 h.symm;rw[he]at this;cases this
     clear l HE;go_wp2_with fail;go_quiet(fail);go_wp2;go_roundw
     .exact⟨j+1,hlj,by go_num,HN,BC q.o _⟩
     simp[Aa];omega
    |true=>
     clear l HE;go_wp2_with fail;go_quiet(fail);go_wp2;go_ret;exact⟨false,rfl,rfl,G.o _ (BT E.o (BC q.o _))⟩
   have ej:j=k:=by omega
   subst ej;have es:Hid (∀x∈list.take (j+1),IA x):=λx hx=>by
    rw[Z.o,AV,AP]at hx;rcases hx with h|h
    .exact M.o x h
    rw[h];exact HNy.o
   have en:Hid ((list.take (j+1)).Nodup):=by
    rw[Hid,Z.o,BA];refine⟨C.o,by simp,λa ha b J e=> ?_⟩;rw[AP]at J;subst J;subst e;exact l.o ha
   have q:=AA t;clear l M C t;go_wp2;go_roundw
   .exact⟨j+1,u,by go_num,es,en,q.o⟩
   simp[Aa];omega
 have ek:k=list.length:=by omega
 subst ek;rw[AU]at M C;have z:=AA (BT E.o t);have ea:Hid (KS r g fc d s O W):=eo.o.up z.o;have HQ2:Hid (∀wr,Al (λi=>i<s.N) O W wr->wr.cell? ⟨w.heap.size,0,none⟩=some (.int .i64 op)/\wr.cell? ⟨w.heap.size,3,none⟩=some (.string key)/\wr.cell? ⟨w.heap.size,4,none⟩=some (.string val)/\wr.cell? ⟨w.heap.size,5,none⟩=some (.slice la list.length lc)):=λwr B=>by
  have p:wr.heap[w.heap.size]? =W.heap[w.heap.size]? :=B.block _ (by have:=t.size;omega) (λi hi e=>by have:=eo.o.kno.lt hi;omega);exact⟨(Am (a:=⟨w.heap.size,0,none⟩) p).trans S,(Am (a:=⟨w.heap.size,3,none⟩) p).trans N,(Am (a:=⟨w.heap.size,4,none⟩) p).trans I,(Am (a:=⟨w.heap.size,5,none⟩) p).trans A⟩
 have HRx:Hid (∀wr,Al (λi=>i<s.N) O W wr->B6 wr wr.heap.size a1 (Ad O xs)):=λwr B=>by
  have h1:W.ownsRow d 57 1 (.slice a1 xs.length c1) xs.length (Ad O xs):=BB HO1.o λb _ h2=>z.o.block b h2;exact Bh (B.own h1 λi hi=>by obtain⟨_,_,_,_,_,h2,_⟩:=ea.o.kno.node i hi;exact Ax h1 h2 (by decide))
 have HBw:Hid (∀wr,Al (λi=>i<s.N) O W wr->AL d w wr):=λwr B=>(G.o _ z.o).trans (ea.o.Zr (AH f z.o.size) B);have HXr:Hid (∀x∈xs,x<s.N):=U;have HNd:Hid xs.Nodup:=F;clear t S N I U F;go_wp2_with fail;clear A;have h0x:0<xs.length:=List.length_pos_iff.2 hxs;go_loopw [7,8,9,10] (λv _ _ _ wr=>v= .int .i64 0/\wr=W) (λ_ _ _ _ _=>0)
 .exact⟨rfl,rfl⟩
 obtain⟨rfl,rfl⟩:=hrel;obtain⟨P,rfl⟩:∃W:AB,W=wr:=⟨_,rfl⟩;obtain⟨S,N,I,A⟩:=HQ2.o P (Al.refl _ _ _);obtain⟨b,o,rfl,-,m⟩:=(HRx.o P (Al.refl _ _ _)).at_ (by simp[Ad];omega);have H:=m 0 (by simp[Ad];omega);simp only[Ad,BD,Dj]at H;have eh:Hid (AL d w P):=HBw.o _ (Al.refl _ _ _);clear m;go_wp2;go_ret;exact⟨false,rfl,rfl,eh.o⟩
def YM(op:Int)(key val:ByteArray)(list:List (List UInt8))(s:bY)(xs:List Nat)(s2:bY):Prop:=
 (∀x∈xs,(s.nd x).kind=3)/\(∀x∈list,IA x)/\list.Nodup/\IZ op list s xs/\s2=Jf op key val list s xs
inductive EW(s:bY)(xs ws:List Nat)(ky vl:ByteArray)(list:List (List UInt8)):Int->bY->Prop
 |r1:Dl 1 s xs ws->EW s xs ws ky vl list 1 (Bl 1 s xs ws xs.length)
 |r2:Dl 2 s xs ws->EW s xs ws ky vl list 2 (Bl 2 s xs ws xs.length)
 |r3:Dl 3 s xs ws->EW s xs ws ky vl list 3 (Bl 3 s xs ws xs.length)
 |r4:Dl 4 s xs ws->EW s xs ws ky vl list 4 (Bl 4 s xs ws xs.length)
 |r5:Dl 3 s xs ws->GB s.F xs []->EW s xs ws ky vl list 5 (Sv s xs ws)
 |r6:EW s xs ws ky vl list 6 {s with F:=CB s.F xs}
 |r7:(∀x∈xs,(s.nd x).kind=3)->EW s xs ws ky vl list 7 {s with F:=B_ s.F xs}
 |r8:(∀x∈xs,Fe s x)->EW s xs ws ky vl list 8 (E5 s (Cm s.F xs))
 |wrap (op:Int) (s2:bY):op=9\/op=10\/op=11->Xs op s xs ws s2->EW s xs ws ky vl list op s2
 |att (op:Int) (s2:bY):op=12\/op=13\/op=14\/op=15\/op=16->YM op ky vl list s xs s2->EW s xs ws ky vl list op s2
section
variable {r:Nat} {s:bY} {g fc fb:Nat} {kb:Nat->Nat} {w w2:AB} {l l2:List Int} {ky vl:ByteArray} {list:List (List UInt8)} {op:Int} {xs ws:List Nat}
theorem PQ(t:Df r s)(u:∀i,i<s.N->Kk (s.nd i)/\(s.nd i).attrs.length<=2000)(F:KS r g fc fb s kb w)(p:fb<=w.heap.size)(y:op=1\/op=2\/op=4\/op=3\/op=5)(H:AL w.heap.size w w2)(hx:Ik r l xs)(m:Ik r l2 ws)(n:xs≠[])(a1:Option Ai)(c1:Nat)(a2:Option Ai)(a:Nat)(I:w2.ownsRow fb 57 1 (.slice a1 xs.length c1) xs.length (Ad kb xs))(O:w2.ownsRow fb 57 1 (.slice a2 ws.length a) ws.length (Ad kb ws)):
 AX AC 38 #[.pointer (some ⟨fb,0,none⟩),.int .i64 op,.slice a1 xs.length c1,.slice a2 ws.length a] w2 (O0 r g fc fb l l2 (λxs ws s2=>EW s xs ws ky vl list op s2) w):=by
 obtain⟨d,o,S⟩:=t.ZP;have L:=F.up H;have E:=L.rs;rw[<-bY.Za t.op]at E;have A:=λx h=>(hx.rng x h).2;have T:=λx h=>(m.rng x h).2;have c:=AH p H.size;by_cases W:op=5
 .subst W;have N:=UA t.r2 t.le o t.few u S E c xs ws A T hx.nodup m.nodup n a1 c1 I a2 a O;rw[bY.Za t.op]at N;refine N.mono ?_;rintro e C ⟨b,rfl,R,v⟩;refine⟨b,rfl,λe=> ?_,(H.mono p).trans v⟩;obtain⟨z,j,q,k,U,f,D⟩:=R e;exact⟨xs,ws,_,f,hx,n,m,.r5 ⟨z,j,q,k⟩ U,L.next t.le D⟩
 have y:op=1\/op=2\/op=4\/op=3:=by omega
 have N:AX AC 38 #[.pointer (some ⟨fb,0,none⟩),.int .i64 op,.slice a1 xs.length c1,.slice a2 ws.length a] w2 (GV r s.N g fc fb kb op s.F s.nd xs ws ⟨s.F,s.N,s.nd,false⟩ w2):=by
  rcases y with rfl|rfl|rfl|rfl
  .exact T8 t.r2 t.le o t.few u S E c xs ws A T hx.nodup m.nodup n a1 c1 I a2 a O
  .exact T9 t.r2 t.le o t.few u S E c xs ws A T hx.nodup m.nodup n a1 c1 I a2 a O
  .exact T' t.r2 t.le o t.few u S E c xs ws A T hx.nodup m.nodup n a1 c1 I a2 a O
  exact T_ t.r2 t.le o t.few u S E c xs ws A T hx.nodup m.nodup n a1 c1 I a2 a O
 rw[bY.Za t.op]at N;refine N.mono ?_;rintro e C ⟨b,rfl,R,v⟩;refine⟨b,rfl,λe=> ?_,(H.mono p).trans v⟩;obtain⟨z,j,q,k,f,D⟩:=R e;have M:EW s xs ws ky vl list op (Bl op s xs ws xs.length):=by
  rcases y with rfl|rfl|rfl|rfl
  .exact .r1 ⟨z,j,q,k⟩
  .exact .r2 ⟨z,j,q,k⟩
  .exact .r4 ⟨z,j,q,k⟩
  exact .r3 ⟨z,j,q,k⟩
 exact⟨xs,ws,_,f,hx,n,m,M,L.next t.le D⟩
theorem U7(a:Df r s)(j:KS r g fc fb s kb w)(t:fb<=w.heap.size)(i:AL w.heap.size w w2)(hx:Ik r l xs)(q:Ik r l2 ws)(c:xs≠[])(a1:Option Ai)(c1:Nat)(v:w2.ownsRow fb 57 1 (.slice a1 xs.length c1) xs.length (Ad kb xs)):
 AX AC 41 #[.slice a1 xs.length c1] w2 (O0 r g fc fb l l2 (λxs ws s2=>EW s xs ws ky vl list 8 s2) w):=by
 obtain⟨d,o,T⟩:=a.ZP;have n:=j.up i;have u:xs.length<=200:=by have:=BH hx.nodup (λx h=>(hx.rng x h).2);have:=a.r2;omega
 have z:=a.le;refine(NJ o a.few n.kno (AH t i.size) xs (λx h=>by have:=(hx.rng x h).2;omega) u a1 c1 v).mono ?_;rintro e E ⟨b,rfl,k,f⟩;refine⟨b,rfl,λe=> ?_,(i.mono t).trans (n.az (AH t i.size) f)⟩;obtain⟨m,p⟩:=k e;have y:=n.turn p f;rw[(N4 a m).1]at y;exact⟨xs,ws,_,kb,hx,c,q,.r8 m,y⟩
theorem TF(f:Df r s)(u:∀i,i<s.N->Kk (s.nd i)/\(s.nd i).attrs.length<=2000)(I:KS r g fc fb s kb w)(a:fb<=w.heap.size)(d:op=9\/op=10\/op=11)(o:AL w.heap.size w w2){wi:Nat}(hx:Ik r l xs)(m:Ik r l2 [wi])(t:xs≠[])(a1:Option Ai)(c1:Nat)(A:w2.ownsRow fb 57 1 (.slice a1 xs.length c1) xs.length (Ad kb xs)):
 AX AC 42 #[.pointer (some ⟨fb,0,none⟩),.int .i64 op,.slice a1 xs.length c1,.pointer (some ⟨kb wi,0,none⟩)] w2 (O0 r g fc fb l l2 (λxs ws s2=>EW s xs ws ky vl list op s2) w):=by
 have y:=I.up o;refine(TE f u y (AH a o.size) (op:=op) (by omega) xs hx.nodup (λx h=>(hx.rng x h).2) t wi (m.rng wi (AP.2 rfl)).2 a1 c1 A).mono ?_;rintro e N ⟨b,rfl,O,c⟩;refine⟨b,rfl,λe=> ?_,(o.mono a).trans c⟩;obtain⟨T,E,z,j,G,s2,n,W,q,k,v,p⟩:=O e;exact⟨xs,[wi],s2,n,hx,t,m,.wrap _ _ d ⟨wi,G,rfl,T,E,z,j,q,k⟩,(y.up v).next f.le p⟩
end
theorem Tg{r:Nat}{s:bY}(p:Df r s)(u:∀i,i<s.N->Kk (s.nd i)/\(s.nd i).attrs.length<=2000/\∀a∈(s.nd i).attrs,a.val.size<=50000000){g fc fb:Nat}{kb:Nat->Nat}{w:AB}(b:KS r g fc fb s kb w)(y:fb<=w.heap.size){op:Int}(v:op=12\/op=13\/op=14\/op=15\/op=16)
 (xs:List Nat)(d:xs.Nodup)(o:∀x∈xs,x<s.N)(a1:Option Ai)(c1:Nat)(h:w.ownsRow fb 57 1 (.slice a1 xs.length c1) xs.length (Ad kb xs))
 (v1 v2:AS)(key val:ByteArray)(t:key.size<=100000000)(e:val.size<=100000000)(la:Option Ai)(lc:Nat)(list:List (List UInt8))(f:list.length<=100000000)(c:∀x∈list,x.length<=100000000)(m:B6 w fb la (strs list))(n:(Dv list).length<=500000000):
 AX AC 43 #[.agg #[.int .i64 op,v1,v2,.string key,.string val,.slice la list.length lc],.slice a1 xs.length c1] w (L9 r g fc fb kb op key val list s xs w):=by
 rcases v with rfl|rfl|rfl|rfl|rfl
 .exact M6 p u b y xs d o a1 c1 h v1 v2 key val t e la lc list f c m n
 .exact M7 p u b y xs d o a1 c1 h v1 v2 key val t e la lc list f c m n
 .exact M8 p u b y xs d o a1 c1 h v1 v2 key val t e la lc list f c m n
 .exact M9 p u b y xs d o a1 c1 h v1 v2 key val t e la lc list f c m n
 exact M_ p u b y xs d o a1 c1 h v1 v2 key val t e la lc list f c m n
theorem Uy{r:Nat}{s:bY}(hs:Df r s)(hnb:∀i,i<s.N->Kk (s.nd i)/\(s.nd i).attrs.length<=2000/\∀a∈(s.nd i).attrs,a.val.size<=50000000){g fc fb:Nat}{kb:Nat->Nat}{w:AB}(K:KS r g fc fb s kb w)(hfw:fb<=w.heap.size)(op:Int)
 (ad:Option Ai)(c:Nat)(l:List Int)(hl:l.length<=2147483647)(f:Kj w w.heap.size ad l)(J:Option Ai)(c2:Nat)(l2:List Int)(hl2:l2.length<=2147483647)(hi2:Kj w w.heap.size J l2)(ky vl:ByteArray)(hky:ky.size<=100000000)(hvl:vl.size<=100000000)(la:Option Ai)(lc:Nat)(list:List (List UInt8))(hll:list.length<=100000000)(hlx:∀x∈list,x.length<=100000000)(hls:B6 w fb la (strs list))(hsp:(Dv list).length<=500000000):
 AX AC 21 #[.pointer (some ⟨fb,0,none⟩),.agg #[.int .i64 op,.slice ad l.length c,.slice J l2.length c2,.string ky,.string vl,.slice la list.length lc]] w
  (O0 r g fc fb l l2 (λxs ws s2=>EW s xs ws ky vl list op s2) w):=by
 have hf:=K.f0;have hel:∀j,j<r->w.cell? ⟨g,j,none⟩=some (.pointer (some ⟨kb j,0,none⟩)):=λj hj=>K.cell hj;have hrr:=hs.r2;obtain⟨W0,eo⟩:∃W0,W0=w.alloc (.cells #[.int .i64 op,.slice ad l.length c,.slice J l2.length c2,.string ky,.string vl,.slice la list.length lc] 45):=⟨_,rfl⟩;have ea:AL w.heap.size w W0:=by rw[eo];exact Ac
 have hx:∀{p:Ai} {v:AS},w.cell? p=some v->∀{W:AB},AL w.heap.size w W->W.cell? p=some v:=λhp W V=>(V.cell (World.block_lt_of_cell? w _ hp)).trans hp;have HC:=AA (LR r fb g fc kb hrr W0 (hx hf ea) (λj hj=>hx (hel j hj) ea) ad c l hl (f.up ea));have HC2:=AA (λW (V:AL w.heap.size w W)=>LR r fb g fc kb hrr W (hx hf V) (λj hj=>hx (hel j hj) V) J c2 l2 hl2 (hi2.up V));have er:=AA ea;have hs0:W0.heap.size=w.heap.size+1:=by rw[eo];simp
 have HQ:Hid (∀W,AL W0.heap.size W0 W->W.cell? ⟨w.heap.size,0,none⟩=some (.int .i64 op)/\W.cell? ⟨w.heap.size,1,none⟩=some (.slice ad l.length c)/\W.cell? ⟨w.heap.size,2,none⟩=some (.slice J l2.length c2)/\W.cell? ⟨w.heap.size,3,none⟩=some (.string ky)/\W.cell? ⟨w.heap.size,4,none⟩=some (.string vl)/\W.cell? ⟨w.heap.size,5,none⟩=some (.slice la list.length lc)):=by
  intro W V;have:W.heap[w.heap.size]? =some (.cells #[.int .i64 op,.slice ad l.length c,.slice J l2.length c2,.string ky,.string vl,.slice la list.length lc] 45 (0,0)):=by
   rw[V.block _ (by omega),eo];exact Ah w _
  exact⟨Aj this,Aj this,Aj this,Aj this,Aj this,Aj this⟩
 have HLs:=AA hls;have HLx:=AA hlx;clear hls hlx;have el:∀i,i<s.N->Kk (s.nd i)/\(s.nd i).attrs.length<=2000:=λi h=>⟨(hnb i h).1,(hnb i h).2.1⟩;have eu:=AA (λhop (w2:AB) (V:AL w.heap.size w w2) xs ws hx hw Z I c1 a2 c2' q1 q2=>PQ (op:=op) (l:=l) (l2:=l2) (xs:=xs) (ws:=ws) (ky:=ky) (vl:=vl) (list:=list) hs el K hfw hop V hx hw Z I c1 a2 c2' q1 q2);have Y:=AA (λ(w2:AB) (V:AL w.heap.size w w2) xs ws hx hw Z I c1 q1=>U7 (l:=l) (l2:=l2) (xs:=xs) (ws:=ws) (ky:=ky) (vl:=vl) (list:=list) hs K hfw V hx hw Z I c1 q1);have q:=AA (λhop (w2:AB) (V:AL w.heap.size w w2) xs wi hx hw Z I c1 q1=>TF (op:=op) (l:=l) (l2:=l2) (xs:=xs) (wi:=wi) (ky:=ky) (vl:=vl) (list:=list) hs el K hfw hop V hx hw Z I c1 q1);clear el;have L:Hid (fb<=w.heap.size):=hfw;have HKS:=AA K;have HS:=AA hs;have HNb:=AA hnb;clear ea hx hf hel f hi2 K hs hnb;go_enter func21,ntmps21;go_wp2_with fail;rw[<-eo];clear eo;refine HC.o.mono ?_;rintro e w1 ⟨I,c1,m1,b1,rfl,ew,hb1⟩;obtain⟨z0,z1,z2,z3,z4,z5⟩:=HQ.o w1 hb1;have HB1:=AA hb1;have ec:=AA (BT er.o hb1);have HY1:=AA ew;clear hb1 ew;go_wp2_with fail;refine(HC2.o w1 ec.o).mono ?_;rintro e w2 ⟨a2,c2',m2,b2,rfl,ef,hb2⟩;have HB2:=AA (BT HB1.o hb2);have HB12:=AA hb2;have z:=AA (BT ec.o hb2);have n:Hid (AL fb w w2):=z.o.mono L.o;have HY2:=AA ef;clear hb2 ef z0 z1 z2 z3 z4 z5;obtain⟨z0,z1,z2,z3,z4,z5⟩:=HQ.o w2 HB2.o;cases b1
 .go_wp2;go_ret;exact⟨false,rfl,by simp,n.o⟩
 obtain⟨xs,hX,rfl,T⟩:=HY1.o rfl;cases b2
 .clear hX T;go_wp2;go_ret;exact⟨false,rfl,by simp,n.o⟩
 obtain⟨ws,hW,rfl,C⟩:=HY2.o rfl;have A:w2.ownsRow W0.heap.size 57 1 (.slice I xs.length c1) xs.length (Ad kb xs):=BB T (λb _ h2=>HB12.o.block b h2);rcases Nat.eq_zero_or_pos xs.length with h0|h0
 .have ez:((xs.length:Int)==0)=true:=beq_iff_eq.2 (by omega);clear h0 hX hW T A C;go_wp2;go_ret;exact⟨false,rfl,by simp,n.o⟩
 have ez:((xs.length:Int)==0)=false:=CY.2 (by omega);have D:Hid (xs≠[]):=λe=>by rw[e]at h0;simp at h0
 have HX:=AA hX;have HW:=AA hW;have R:=AA A;have HO2:=AA C;have k:=AA (HKS.o.up z.o);have hxl:xs.length<=200:=by have:=BH hX.nodup (λx hx=>(hX.rng x hx).2);omega
 clear h0 hX hW T A C;by_cases f:op=1\/op=2\/op=4\/op=3\/op=5
 .have u:=AA (eu.o f w2 z.o xs ws HX.o HW.o D.o I c1 a2 c2' (Bf R.o (by have:=L.o;have:=er.o.size;omega)) (Bf HO2.o (by have:=L.o;have:=ec.o.size;omega)));clear eu Y q;rcases f with rfl|rfl|rfl|rfl|rfl;all_goals
   go_wp2_with fail;refine u.o.mono ?_;rintro e w3 ⟨b,rfl,O,t⟩;have HY:=AA O;have U:=AA t;clear O t;go_wp2;go_ret;exact⟨b,rfl,HY.o,U.o⟩
 clear eu;by_cases h8:op=8
 .have u:=AA (Y.o w2 z.o xs ws HX.o HW.o D.o I c1 (Bf R.o (by have:=L.o;have:=er.o.size;omega)));clear Y q f;subst h8;go_wp2_with fail;refine u.o.mono ?_;rintro e w3 ⟨b,rfl,O,t⟩;have HY:=AA O;have U:=AA t;clear O t;go_wp2;go_ret;exact⟨b,rfl,HY.o,U.o⟩
 clear Y;by_cases H:op=9\/op=10\/op=11
 .clear f h8;by_cases h1:ws.length=1
  case neg=>
   have ez2:((ws.length:Int)==1)=false:=CY.2 (by omega);clear h1 q;rcases H with rfl|rfl|rfl;all_goals
    go_wp2_with fail;go_quiet(fail);go_wp2;go_ret;exact⟨false,rfl,by simp,BC n.o _⟩
  have ez2:((ws.length:Int)==1)=true:=beq_iff_eq.2 (by omega);obtain⟨wi,rfl⟩:∃wi,ws=[wi]:=by
   cases ws with
   |nil=>simp at h1
   |cons a l=>cases l with
    |nil=>exact⟨a,rfl⟩
    |cons b l=>simp at h1
  obtain⟨b,o,rfl,hbB,hc⟩:=(Bh HO2.o).at_ (by simp[Ad]);have g1:=hc 0 (by simp[Ad]);simp only[Ad,Bz,List.map_nil,List.getElem_cons_zero,Dj]at g1;have u:=AA (q.o H w2.drew (BT z.o (AW _ _).drew) xs wi HX.o HW.o D.o I c1 (Bf R.o (by have:=L.o;have:=er.o.size;omega)));clear q hc h1;rcases H with rfl|rfl|rfl;all_goals
   go_wp2_with fail;refine wp_region_still_tail 11 (by kernel_rfl) (by kernel_rfl) ?_;simp only[List.take_succ_cons,List.take_zero,List.drop_succ_cons,List.drop_zero];iterate 11 still_step
   refine wpStill_nil ?_;change wpList _ _ _ _ _ w2.drew;go_wp2_with fail;refine u.o.mono ?_;rintro e w3 ⟨b,rfl,O,t⟩;have HY:=AA O;have U:=AA t;clear O t;go_wp2;go_ret;exact⟨b,rfl,HY.o,U.o⟩
 clear q;have S:∀x∈xs,x<s.N:=λx h=>by have:=(HX.o.rng x h).2;have:=HS.o.le;omega
 have HX2:=AA S;have G:Hid (∀W,Al (λi=>i<s.N) kb w2 W->B6 W W.heap.size I (Ad kb xs)):=λW hT=>by
  have:=hT.own R.o (λi f=>by obtain⟨_,_,_,_,_,h1,_⟩:=k.o.kno.node i f;exact Ax R.o h1 (by decide));exact Bh this
 have X:Hid (fb<=w2.heap.size):=AH L.o z.o.size;obtain⟨d0,o0⟩:=HS.o.ok;have HOk:=AA o0;have hfew:=HS.o.few;clear o0;by_cases h6:op=6
 .subst h6;clear f h8 H S;go_wp2;go_loopw [9] (λx wr=>∃i:Nat,i<=xs.length/\x= .int .i64 i/\Ct (CB s.F (xs.take i)) (λi=>i<s.N) s.nd (M1 r) fb kb wr/\Al (λi=>i<s.N) kb w2 wr) (λx _=>xs.length-(Aa x).toNat)
  .exact⟨0,AY _,rfl,k.o.kno,Al.refl _ _ _⟩
  obtain⟨i,f,rfl,K,hT⟩:=hrel;by_cases E:i<xs.length
  .obtain⟨b,o,rfl,hbB,hc⟩:=(G.o wr hT).at_ (by rw[AM];omega);have g1:=hc i (by rw[AM];exact E);rw[A5 E]at g1;have hxm:=HX2.o _ (AD E);have oc:=Hh HOk.o (xs.take i);have P:=AA (L3 oc K (AH X.o hT.size) xs[i] hxm (λp=>by have:=oc.Yu (N:=s.N) (λi f=>f) p;omega));have HTk:Hid (CB s.F (xs.take (i+1))=(CB s.F (xs.take i)).cut xs[i]):=by rw[Hid,AF E,Is]
   have HT:=AA hT;obtain⟨y,O⟩:∃y,y=xs[i]:=⟨_,rfl⟩;rw[<-O]at g1 P HTk;clear hc O K hT oc hxm;go_wp2_with fail;refine P.o.mono ?_;rintro e w3 ⟨rfl,es,ei⟩;have HK3:Hid (Ct (CB s.F (xs.take (i+1))) (λi=>i<s.N) s.nd (M1 r) fb kb w3):=by rw[Hid,HTk.o];exact es
   have HT3:=AA (HT.o.trans ei);clear es ei g1;go_wp2;go_roundw
   .exact⟨i+1,by omega,by go_num,HK3.o,HT3.o⟩
   simp[Aa];omega
  have e:i=xs.length:=by omega
  subst e;rw[AU]at K;have HE:Hid (KS r g fc fb {s with F:=CB s.F xs} kb wr):=k.o.turn K hT;have HBe:Hid (AL fb w wr):=n.o.trans (k.o.az X.o hT);clear K hT;go_wp2;go_ret;exact⟨true,rfl,λ_=>⟨xs,ws,_,kb,HX.o,D.o,HW.o,.r6,HE.o⟩,HBe.o⟩
 by_cases h7:op=7
 .subst h7;clear f h8 H h6 S;go_wp2;go_loopw [10] (λx wr=>∃i:Nat,i<=xs.length/\x= .int .i64 i/\Ct (B_ s.F (xs.take i)) (λi=>i<s.N) s.nd (M1 r) fb kb wr/\Al (λi=>i<s.N) kb w2 wr) (λx _=>xs.length-(Aa x).toNat)
  .exact⟨0,AY _,rfl,k.o.kno,Al.refl _ _ _⟩
  obtain⟨i,f,rfl,hKi,hTi⟩:=hrel;obtain⟨wo,rfl⟩:∃wo:AB,wo=wr:=⟨_,rfl⟩;have HKi:=AA hKi;have eh:=AA hTi;clear hKi hTi;by_cases E:i<xs.length
  .obtain⟨m,hm⟩:∃m,m=xs[i]:=⟨_,rfl⟩;have hmn:m<s.N:=by rw[hm];exact HX2.o _ (AD E)
   have HTake:Hid (B_ s.F (xs.take (i+1))=(B_ s.F (xs.take i)).clear m):=by rw[Hid,AF E,Jg,hm]
   have HPtr:Hid (∀W,Al (λi=>i<s.N) kb w2 W->∃b o,I=some ⟨b,o,none⟩/\W.cell? ⟨b,o+i,none⟩=some (.pointer (some ⟨kb m,0,none⟩))):=λW hW=>by
    obtain⟨b,o,rfl,_,hc⟩:=(G.o W hW).at_ (by rw[AM];omega);have g1:=hc i (by rw[AM];exact E);rw[A5 E,<-hm]at g1;exact⟨b,o,rfl,g1⟩
   obtain⟨b,o,rfl,-⟩:=HPtr.o wo eh.o;clear hm;go_wp2;go_loopw [79] (λ_ wr=>∃M,M.Ok (λi=>i<s.N) d0/\Ct M (λi=>i<s.N) s.nd (M1 r) fb kb wr/\M.clear m=B_ s.F (xs.take (i+1))/\Al (λi=>i<s.N) kb w2 wr) (λ_ wr=>Qg kb m wr)
   .exact⟨_,Ir HOk.o _,HKi.o,HTake.o.symm,eh.o⟩
   obtain⟨M,d,Q,ee,en⟩:=hrel;obtain⟨b',o',hbo,g1⟩:=HPtr.o wr en;cases hbo
   obtain⟨-,-,-,ka,kc,c7,hkc,hkr⟩:=Q.cells hmn;have HO':=AA d;have HK':=AA Q;have HCl:=AA ee;have HT':=AA en;have hk100:(M.kids m).length<=100000:=by have:=d.Yu (N:=s.N) (λi f=>f) m;omega
   cases hk:M.kids m with
   |nil=>
    rw[hk]at c7;have HD:Hid (M=B_ s.F (xs.take (i+1))):=(by rw[Hid,<-ee,Fo.ZK d hk]);clear d Q ee en hkr hkc hk100 hk;go_wp2;go_roundw
    .exact⟨i+1,by omega,by go_num,by rw[<-HD.o];exact HK'.o,HT'.o⟩
    simp[Aa];omega
   |cons x l'=>
    have hpx:M.par x=some m:=(d.mem m x).1 (by rw[hk];exact Af);have hxn:x<s.N:=(d.dom m x hpx).2;have ed:0<(M.kids m).length:=(by rw[hk];simp);obtain⟨_,_,hv,_,hr⟩:=B6.own hkr;cases hv
    obtain⟨bk,ok,rfl,_,hck⟩:=hr.at_ (by rw[AM];exact ed);have gk:=hck 0 (by rw[AM];exact ed);rw[A5 ed]at gk;simp only[hk,List.getElem_cons_zero,Dj]at gk;have P:=AA (L3 d Q (by have:=en.size;have:=X.o;omega) x hxn (λp=>by have:=d.Yu (N:=s.N) (λi f=>f) p;omega));have HKid:Hid (Qg kb m wr=(M.kids m).length):=Q.Zf hmn;have HFst:Hid ((M.cut x).kids m=l'):=Fo.ZQ d hk;have HCl2:Hid ((M.cut x).clear m=B_ s.F (xs.take (i+1))):=(by rw[Hid,<-ee];exact Fo.ZR d hpx);have HLen:Hid ((M.kids m).length=l'.length+1):=(by rw[Hid,hk];rfl);clear d Q ee en hkr hk hpx hr hck;go_wp2_with fail;refine P.o.mono ?_;rintro e w3 ⟨rfl,es,ei⟩;have HK3:=AA es;have HT3:=AA ei;clear es ei;go_wp2;go_roundw
    .exact⟨M.cut x,HO'.o.cut x,HK3.o,HCl2.o,HT'.o.trans HT3.o⟩
    rw[HK3.o.Zf hmn,HKid.o,HFst.o,HLen.o];omega
  have e:i=xs.length:=by omega
  subst e;have hKe:=HKi.o;rw[AU]at hKe;have B:=AA (J_ xs HX2.o (by omega) I c1 wo hKe (G.o wo eh.o));have HE:Hid (KS r g fc fb {s with F:=B_ s.F xs} kb wo):=k.o.turn hKe eh.o;have HBe:Hid (AL fb w wo):=n.o.trans (k.o.az X.o eh.o);clear hKe HKi;go_wp2_with fail;refine B.o.mono ?_;rintro e w3 ⟨b3,rfl,t,rfl⟩;have U:=AA t;clear t;go_wp2;go_ret;exact⟨b3,rfl,λh=>⟨xs,ws,_,kb,HX.o,D.o,HW.o,.r7 (U.o h),HE.o⟩,HBe.o⟩
 clear G HOk hfew;have B:=AA (J_ xs S (by omega) I c1 w2 k.o.kno (Bh R.o));have HOb:Hid (w2.ownsRow fb 57 1 (.slice I xs.length c1) xs.length (Ad kb xs)):=Bf R.o (by have:=L.o;have:=er.o.size;omega);by_cases ha:op=12\/op=13\/op=14\/op=15\/op=16
 .have HAt:=AA (λv1 v2=>Tg HS.o HNb.o k.o X.o ha xs HX.o.nodup S I c1 HOb.o v1 v2 ky vl hky hvl la lc list hll HLx.o (HLs.o.below n.o) hsp);clear S f h8 H h6 h7;rcases ha with rfl|rfl|rfl|rfl|rfl;all_goals
   go_wp2_with fail;refine B.o.mono ?_;rintro e w3 ⟨b3,rfl,t,rfl⟩;have HAr:=AA t;clear t;cases b3
   .go_wp2;go_ret;exact⟨false,rfl,by simp,n.o⟩
   go_wp2_with fail;refine(HAt.o _ _).mono ?_;rintro e w4 ⟨b,rfl,O,et⟩;have HY:=AA O;have HB4:=AA et;clear O et;go_wp2;go_ret;exact⟨b,rfl,λe=>by obtain⟨y1,y2,y3,y4⟩:=HY.o e;exact⟨xs,ws,_,kb,HX.o,D.o,HW.o,.att _ _ (by decide) ⟨HAr.o (by first|trivial|rfl),y1,y2,y4,rfl⟩,y3⟩,n.o.trans HB4.o⟩
 have HAt:=AA (λv1 v2=>Ln HS.o HNb.o k.o X.o xs HX.o.nodup S I c1 HOb.o op (by omega) D.o v1 v2 ky vl hky hvl la lc list hll HLx.o (HLs.o.below n.o) hsp);obtain⟨n1,n2,n3,n4,n5,n6,n7,n8,n9,n10,n11⟩:op≠1/\op≠2/\op≠3/\op≠4/\op≠5/\op≠6/\op≠7/\op≠8/\op≠9/\op≠10/\op≠11:=by omega
 clear S f h8 H h6 h7 ha;go_wp2_with fail;refine B.o.mono ?_;rintro e w3 ⟨b3,rfl,t,rfl⟩;have HAr:=AA t;clear t;cases b3
 .go_wp2;go_ret;exact⟨false,rfl,by simp,n.o⟩
 go_wp2_with fail;refine(HAt.o _ _).mono ?_;rintro e w4 ⟨b,rfl,O,et⟩;have HY:=AA O;have HB4:=AA et;clear O et;go_wp2;go_ret;have hbf:=HY.o;subst hbf;exact⟨false,rfl,by simp,n.o.trans HB4.o⟩
theorem U0(nm:List ByteArray):strs (nm.map BZ)=nm.map Value.string:=by
 unfold strs;rw[DI];exact Ay λx _=>by show Value.string ⟨x.data.toList.toArray⟩=_;rw[Array.toArray_toList]
structure Dh.Zz(x:Dh):Prop where
 ky:x.ky.size<=2000000
 vl:x.vl.size<=2000000
 nml:x.nm.length<=2000000
 nm:∀n∈x.nm,n.size<=2000000
 sp:(Dv (x.nm.map BZ)).length<=4000000
theorem Uz(v:Df r s)(u:∀i,i<s.N->Kk (s.nd i)/\(s.nd i).attrs.length<=2000/\∀a∈(s.nd i).attrs,a.val.size<=50000000){y o:Nat}(j:KS r g y o s O w)(t:o<=w.heap.size)
 (x:Dh)(hx:x.Ok w o)(q:x.Zz):
 AX AC 21 #[.pointer (some ⟨o,0,none⟩),.agg x.vv] w
  (O0 r g y o x.on x.wi (λxs ws s2=>EW s xs ws x.ky x.vl (x.nm.map BZ) x.op s2) w):=by
 obtain⟨op,oa,on,oc,wa,wi,wc,ky,vl,la,nm,lc⟩:=x;obtain⟨l,d,T,N,E,z⟩:=hx;obtain⟨I,A,b,p,k5⟩:=q;have l:=l.more t;have d:=d.more t;have h:(nm.map BZ).length=nm.length:=Aq ..;have m:B6 w o la (strs (nm.map BZ)):=by rw[U0];exact T
 have c:∀x∈nm.map BZ,x.length<=100000000:=by
  intro x hx;obtain⟨n,k,rfl⟩:=BL.1 hx;have:=p n k;show n.data.toList.length<=_;have e:n.data.toList.length=n.size:=by rw[Array.length_toList];rfl
  omega
 have f:(nm.map BZ).length<=100000000:=by rw[h];simp only at b;omega
 simp only[Dh.vv,BW]at*;rw[<-h];exact Uy v u j t op oa oc on E l wa wc wi z d ky vl (by omega) (by omega) la lc _ f c m (by omega)
theorem EW.fst{s2:bY}(l:Df r s)(hx:∀x∈Y,x<r)(E:∀x∈J,x<r)(f:Y.Nodup)(g:J.Nodup)(w:Y≠[]){ky vl:ByteArray}{list:List (List UInt8)}(h:EW s Y J ky vl list U s2)(u:s2.op=false):
 Df r s2/\s.N<=s2.N/\∀y,y<s2.N->∃z,z<s.N/\(s2.nd y=s.nd z\/(s.nd z).kind=3/\(U=12\/U=13\/U=14\/U=15\/U=16)/\(U=14\/U=15\/U=16->list≠[]/\IC (Cq (s.nd z).attrs))/\s2.nd y={s.nd z with attrs:=He U ky vl list (s.nd z).attrs}):=by
 have c:∀(F:Fo) (y:Nat),y<s.N->∃z,z<s.N/\(({s with F:=F}:bY).nd y=s.nd z\/(s.nd z).kind=3/\(U=12\/U=13\/U=14\/U=15\/U=16)/\(U=14\/U=15\/U=16->list≠[]/\IC (Cq (s.nd z).attrs))/\({s with F:=F}:bY).nd y={s.nd z with attrs:=He U ky vl list (s.nd z).attrs}):=λF y e=>⟨y,e,.inl rfl⟩;have d:∀o:Int,(o=1\/o=2\/o=4\/o=3)->Dl o s Y J->(Bl o s Y J Y.length).op=false->Df r (Bl o s Y J Y.length)/\s.N<=(Bl o s Y J Y.length).N/\∀y,y<(Bl o s Y J Y.length).N->∃z,z<s.N/\(Bl o s Y J Y.length).nd y=s.nd z:=by
  intro o I O A;obtain⟨t,n,i⟩:=l.ins I hx E g w O A;exact⟨t,i,n⟩
 cases h with
 |r1 k=>obtain⟨t,n,i⟩:=d 1 (by omega) k u;exact⟨t,n,λy e=>by obtain⟨z,a,b⟩:=i y e;exact⟨z,a,.inl b⟩⟩
 |r2 k=>obtain⟨t,n,i⟩:=d 2 (by omega) k u;exact⟨t,n,λy e=>by obtain⟨z,a,b⟩:=i y e;exact⟨z,a,.inl b⟩⟩
 |r3 k=>obtain⟨t,n,i⟩:=d 3 (by omega) k u;exact⟨t,n,λy e=>by obtain⟨z,a,b⟩:=i y e;exact⟨z,a,.inl b⟩⟩
 |r4 k=>obtain⟨t,n,i⟩:=d 4 (by omega) k u;exact⟨t,n,λy e=>by obtain⟨z,a,b⟩:=i y e;exact⟨z,a,.inl b⟩⟩
 |r5 k N=>obtain⟨t,n,i⟩:=d 3 (by omega) k u;exact⟨t.cut Y,n,λy e=>by obtain⟨z,a,b⟩:=i y e;exact⟨z,a,.inl b⟩⟩
 |r6=>exact⟨l.cut Y,AG _,λy e=>c _ y e⟩
 |r7 k=>exact⟨l.bS Y,AG _,λy e=>c _ y e⟩
 |r8 k=>
  obtain⟨t,n⟩:=N4 l k;refine⟨n,Nat.le_of_eq (by rw[<-t]),λy e=>⟨y,?_,.inl ?_⟩⟩
  .rw[<-t]at e;exact e
  rw[<-t]
 |wrap _ _ _ k=>
  obtain⟨wi,G,-,-,-,-,-,-,T⟩:=k;obtain⟨t,-,i,v⟩:=T.fst l u;exact⟨t,v,λy e=>by obtain⟨z,a,b⟩:=i y e;exact⟨z,a,.inl b⟩⟩
 |att _ _ p k=>
  obtain⟨j,-,-,q,rfl⟩:=k;obtain⟨e1,e2,S⟩:=Fx (op:=U) (key:=ky) (val:=vl) (list:=list) Y s;refine⟨l.at Y,Nat.le_of_eq e2.symm,λy e=> ?_⟩;rw[e2]at e;by_cases m:y∈Y
  .exact⟨y,e,.inr ⟨j y m,p,λh=>q h y m,Tf Y s f m⟩⟩
  exact⟨y,e,.inl (FC Y s m)⟩
structure Bd(k:Nat)(x:Nd):Prop where
 ndb:Kk x
 ndg:G' x
 len:x.attrs.length<=20+k
 val:∀a∈x.attrs,a.val.size<=5000000+4000010*k
 once:Bp x.attrs
theorem Bd.more{e:Nat}{x:Nd}(h:Bd k x)(o:k<=e):Bd e x:=
 ⟨h.ndb,h.ndg,by have:=h.len;omega,λa t=>by have:=h.val a t;omega,h.once⟩
theorem WO{k v:ByteArray}{a:At2}(h:a∈Cu l k v):a∈l\/(a.val=v/\(a.key=k\/∃b∈l,b.key=a.key)):=by
 unfold Cu at h;split at h
 .rename_i e;rcases List.mem_or_eq_of_mem_set h with h|h
  .exact .inl h
  subst h;exact .inr ⟨rfl,.inr ⟨_,AD e,rfl⟩⟩
 rcases AV.1 h with h|h
 .exact .inl h
 rw[AP]at h;subst h;exact .inr ⟨rfl,.inl rfl⟩
theorem VD{k:ByteArray}(h:Bp l):Bp (Ij l k):=by
 unfold Bp Ij at*;exact List.Nodup.sublist (List.filter_sublist.map _) h
theorem Te{key val:ByteArray}{list:List (List UInt8)}(h:Bp l):Bp (He U key val list l):=by
 unfold He;split
 .exact DY h
 split
 .exact VD h
 exact DY h
theorem SE(op:Int)(val:List UInt8)(list:List (List UInt8)):(Gr op val list).size<=val.length+1+(Dv list).length:=by
 have e:(Gr op val list).size=((Dv (IE op val list)).drop 1).length:=by
  show((Dv (IE op val list)).drop 1).toArray.size=_;rw[List.size_toArray]
 rw[e,DN];unfold IE;rw[E',AN];have o:=FA (OA op list) (BG val);have a:=FA (PB op (BG val)) list;have t:=JS val.length val (AG _);omega
theorem Kt{m:Nat}(h:∀a∈l,a.val.size<=m):(Cq l).data.toList.length<=m:=by
 have e:(Cq l).data.toList.length=(Cq l).size:=by rw[Array.length_toList];rfl
 rw[e];unfold Cq;split
 .rename_i x hx;exact h x (by unfold CF at hx;exact List.mem_of_find?_eq_some hx)
 exact AY _
theorem Bd.at{x:Nd}(h:Bd k x)(v:x.kind=3){op:Int}{key val:ByteArray}{list:List (List UInt8)}(T:key.size<=2000000)(w:val.size<=2000000)(z:(Dv list).length<=4000000)(j:k<=10):Bd (k+1) {x with attrs:=He op key val list x.attrs}:=by
 have d:val.size<=5000000+4000010*(k+1):=AH w (by omega);have u:(He op key val list x.attrs).length<=x.attrs.length+1:=by
  unfold He;split
  .rw[Ms];split<;>omega
  split
  .unfold Ij;have:=List.length_filter_le (λy:At2=>y.key.toList !=key.toList) x.attrs;omega
  rw[Ms];split<;>omega
 have p:(Gr op (Cq x.attrs).data.toList list).size<=5000000+4000010*(k+1):=by
  have O:=SE op (Cq x.attrs).data.toList list;have A:=Kt h.val;omega
 have n:∀a∈He op key val list x.attrs,a∈x.attrs\/(a.val.size<=5000000+4000010*(k+1)/\a.key.size<=maxLen):=by
  intro a e;have o:∀r v2:ByteArray,r.size<=maxLen->v2.size<=5000000+4000010*(k+1)->a∈Cu x.attrs r v2->a∈x.attrs\/(a.val.size<=5000000+4000010*(k+1)/\a.key.size<=maxLen):=by
   intro r v2 s i f;rcases WO f with q|⟨q,m|⟨b,g,c⟩⟩
   .exact .inl q
   .exact .inr ⟨by rw[q];exact i,by rw[m];exact s⟩
   exact .inr ⟨by rw[q];exact i,by rw[<-c];exact(h.ndb.ats b g).1⟩
  unfold He at e;split at e
  .exact o key val (by simp only[maxLen];omega) d e
  split at e
  .exact .inl (Cd.1 e).1
  exact o C4 _ (by show(5:Nat)<=maxLen;simp only[maxLen];omega) p e
 have t:∀a∈He op key val list x.attrs,a.val.size<=5000000+4000010*(k+1):=by
  intro a e;rcases n a e with q|⟨s,i⟩
  .have:=h.val a q;omega
  exact s
 have E:=h.len;refine⟨⟨h.ndb.kind,h.ndb.tag,h.ndb.text,by show _<=maxLen;simp only[maxLen];omega,λa e=> ?_⟩,⟨h.ndg.kind,h.ndg.text,λl=>absurd v l,by show(He op key val list x.attrs).length<=2000;omega⟩,by show(He op key val list x.attrs).length<=_;omega,t,Te h.once⟩;have q:=t a e;refine⟨?_,by simp only[maxLen];omega⟩;rcases n a e with q|⟨s,i⟩
 .exact(h.ndb.ats a q).1
 exact i
inductive GZ(r:Nat):bY->List Dh->bY->Prop
 |nil (s:bY):GZ r s [] s
 |cons {s s1 s2:bY} {x:Dh} {l:List Dh} (xs ws:List Nat):Df r s->Ik r x.on xs->xs≠[]->Ik r x.wi ws->EW s xs ws x.ky x.vl (x.nm.map BZ) x.op s1->s1.op=false->GZ r s1 l s2->GZ r s (x::l) s2
theorem GZ.snoc{s1 s2:bY}{x:Dh}{l:List Dh}(h:GZ r s l s1)(xs ws:List Nat)(t:Df r s1)(g:Ik r x.on xs)(y:xs≠[])(w:Ik r x.wi ws)(e:EW s1 xs ws x.ky x.vl (x.nm.map BZ) x.op s2)(f:s2.op=false):GZ r s (l++[x]) s2:=by
 induction h with
 |nil s=>exact .cons xs ws t g y w e f (.nil _)
 |cons a b c u d n i o _ m=>exact .cons a b c u d n i o (m t e)
theorem EW.bd{s2:bY}(c:Df r s)(hx:∀x∈Y,x<r)(u:∀x∈J,x<r)(a:Y.Nodup)(n:J.Nodup)(o:Y≠[]){x:Dh}(t:x.Zz)(h:EW s Y J x.ky x.vl (x.nm.map BZ) x.op s2)(m:s2.op=false)(l:∀i,i<s.N->Bd k (s.nd i))(f:k<=10):∀i,i<s2.N->Bd (k+1) (s2.nd i):=by
 intro i w;obtain⟨-,-,y⟩:=h.fst c hx u a n o m;obtain⟨z,d,e|⟨e1,-,-,e⟩⟩:=y i w
 .rw[e];exact(l z d).more (by omega)
 rw[e];exact(l z d).at e1 t.ky t.vl t.sp f
theorem JC(l:List At2):Yj (CF l FD)=KD l:=by
 unfold KD;by_cases h:B8 l FD<l.length
 .rw[dif_pos h];have:CF l FD=some l[B8 l FD]:=by
   unfold CF B8;rw[List.find?_eq_getElem?_findIdx];exact List.getElem?_eq_getElem h
  rw[this];rfl
 rw[dif_neg h,EZ.2 (λx hx e=>h (IH hx e))];rfl
structure Yo(l R:List At2)(X:List UInt8):Prop where
 once:Bp R
 wd:BG (BZ (KD R))=BG X
 sub:∀c∈BZ (KD R),c∈X
 sz:(KD R).size<=X.length
 o1:∀x∈l,x.key.toList≠FD.toList->CF R x.key=some x
 o2:∀x∈R,x.key.toList≠FD.toList->CF l x.key=some x
 len:R.length<=l.length+1
theorem Ny(h:Bp l){X:List UInt8}(f:Dc X):Yo l (G9 l X) X:=by
 unfold G9;by_cases d:Bi X=[]
 .rw[AJ d];have p:BG X=[]:=(IW f).1 d;obtain⟨L,A⟩:∃L,L=GP l:=⟨_,rfl⟩;have g:∃T E z j:Prop,True:=⟨True,True,True,True,trivial⟩;have t:(GP l=l)\/(GP l=Cu l FD ⟨#[]⟩):=by
   by_cases r:B8 l FD<l.length
   .exact .inl (AJ r)
   refine .inr ?_;rw[Mt r];exact AI r
  have n:KD (F7 (GP l) FD)=⟨#[]⟩:=by
   rw[<-JC];have:CF (F7 (GP l) FD) FD=none:=by
    rcases t with e|e<;>rw[e]
    .exact Pj h
    exact SP h
   rw[this];rfl
  refine⟨?_,?_,?_,?_,?_,?_,?_⟩
  .rcases t with e|e<;>rw[e]
   .exact Gk h
   exact Gk (DY h)
  .rw[n,p];rfl
  .rw[n];intro c b;exact absurd b (by simp[BZ])
  .rw[n];exact AY _
  .intro x hx a;rcases t with e|e<;>rw[e]
   .exact Um h hx a
   exact QZ h hx a
  .intro x hx a;rcases t with e|e<;>rw[e]at hx
   .exact WL h hx
   exact SO h hx
  have s:=Ul (l:=GP l) (k:=FD);have y:=(L0 l).2.1;omega
 rw[AI d];obtain⟨V,w⟩:∃V:ByteArray,V=⟨(Bi X).toArray⟩:=⟨_,rfl⟩;rw[<-w];have i:BZ V=Bi X:=by rw[w];simp[BZ]
 obtain⟨q,m,u⟩:=Nv (k:=FD) (v:=V) h;have o:KD (Cu l FD V)=V:=by rw[<-JC,m];exact u
 refine⟨DY h,by rw[o,i,I6 f],by rw[o,i];exact I7 X,?_,?_,?_,WP⟩
 .rw[o];have y:V.size=(BZ V).length:=rfl;rw[y,i];exact Ke X
 .intro x hx a;exact(Co (DY h)).2 ⟨(Hs h x).2 (.inl ⟨hx,a⟩),rfl⟩
 intro x hx a;rcases(Hs h x).1 hx with s|s
 .exact(Co h).2 ⟨s.1,rfl⟩
 exact absurd s.1 a
theorem Nf{c:UInt8}(h:NC c=true):Gm c=true:=(L7 c).2 (by have:=(Mc c).1 h;omega)
theorem VH(c:UInt8):Gm (Ot c)=Gm c:=by
 unfold Ot;split
 .rename_i h;rw[Nf h];rfl
 rfl
theorem U_:∀(l t:List UInt8),Ie t (l.map Ot)=Ie t l:=by
 intro l;induction l with
 |nil=>intro t;rfl
 |cons x l o=>
  intro t;rw[Bz];by_cases h:Gm x=true
  .rw[IX _ h,IX _ (by rw[VH];exact h),o]
  have a:Gm x=false:=by simpa using h
  have hx:Ot x=x:=by
   unfold Ot;rw[AI];intro e;rw[Nf e]at a;cases a
  rw[hx,G_ _ a,G_ _ a,o]
theorem Kr(r:IC (KD l)):CT (BZ (DQ l))/\BG (BZ (DQ l))=BG (BZ (KD l))/\(∀c∈BZ (DQ l),c.toNat≠12/\c.toNat≠11/\c.toNat<128)/\(DQ l).size=(KD l).size+2:=by
 have e:BZ (DQ l)=blk ((BZ (KD l)).map Ot):=by
  unfold DQ YL BZ blk;simp[Ot,NC]
 have m:∀c∈(BZ (KD l)).map Ot,c.toNat≠12/\c.toNat≠11/\c.toNat<128:=by
  intro c a;obtain⟨d,n,rfl⟩:=BL.1 a;have:=r.byte d n;unfold Ot;split
  .decide
  exact this
 refine⟨?_,?_,?_,?_⟩
 .rw[e];refine⟨⟨_,rfl⟩,⟨32::(BZ (KD l)).map Ot,rfl⟩,λc hm i=> ?_⟩;unfold blk at hm;rw[AV,BQ,AP]at hm;rcases hm with(hm|hm)|hm
  .exact hm
  .obtain⟨d,n,rfl⟩:=BL.1 hm;have s:=(r.byte d n).1;unfold Ot at i|-;split
   .rfl
   rename_i u;rw[AI u]at i;have t:=(L7 d).1 i;have o:=λh=>u ((Mc d).2 h);have:d.toNat=32:=by
    rcases t with t|t|t|t|t
    .exact t
    .exact absurd (.inl t) o
    .exact absurd (.inr (.inr t)) o
    .exact absurd (.inr (.inl t)) o
    exact absurd t s
   exact UInt8.toNat_inj.1 this
  exact hm
 .rw[e];unfold blk;rw[Fr (by decide),Eg (by decide)];exact U_ _ []
 .rw[e];unfold blk;intro c a;rw[AV,BQ,AP]at a;rcases a with(a|a)|a
  .subst a;decide
  .exact m c a
  subst a;decide
 have o:(DQ l).size=(BZ (DQ l)).length:=rfl;have f:(KD l).size=(BZ (KD l)).length:=rfl;rw[o,f,e];simp[blk]
theorem Gf(l:List At2):Cq l=KD l:=by
 rw[<-JC];rfl
theorem Tc{P:UInt8->Prop}(o:P 32){how:Nat}:∀{ns:List (List UInt8)} {X:List UInt8},(∀c∈X,P c)->(∀n∈ns,∀c∈n,P c)->∀c∈CX how X ns,P c:=by
 intro ns;induction ns with
 |nil=>intro X h _;exact h
 |cons n ns d=>
  intro X h r;refine d (X:=Km how X n) ?_ λm l=>r m (Ab _ l);have s:=r n (by simp);have a:∀c∈X++n++[32],P c:=λc e=>by
   rcases AV.1 e with e|e
   .rcases AV.1 e with e|e
    .exact h c e
    exact s c e
   rw[AP]at e;rw[e];exact o
  have t:∀c∈Gj (blk n) [32] (X.length+1) X,P c:=λc e=>by
   rcases Ph _ _ c e with i|i
   .exact h c i
   rw[AP]at i;rw[i];exact o
  unfold Km;split
  .unfold MG;split
   .exact h
   exact a
  split
  .unfold I5;split
   .exact t
   exact a
  exact t
def VK(how:Nat)(a b:Prop):Prop:=if how=0 then a\/b else if how=1 then(a/\¬b)\/(b/\¬a)else a/\¬b
theorem CT.bO{how:Nat}{X c:List UInt8}(h:CT X)(s:CN c)(r:(BG X).Nodup):CT (Km how X c)/\(BG (Km how X c)).Nodup/\∀v,v∈BG (Km how X c)↔VK how (v∈BG X) (v=c):=by
 unfold Km VK;by_cases f:how=0
 .simp only[AJ f];by_cases o:c∈BG X
  .have t:=(h.has s).2 o;have l:MG X c=X:=by unfold MG;rw[AJ t]
   rw[l];refine⟨h,r,λv=>⟨.inl,?_⟩⟩;rintro(q|q)
   .exact q
   rw[q];exact o
  obtain⟨n,i⟩:=Tb h s o;refine⟨n,?_,λv=>by rw[i];simp⟩;rw[i,BA];exact⟨r,by simp,λa w b u e=>o (by rw[AP]at u;rw[<-u,<-e];exact w)⟩
 simp only[AI f];by_cases m:how=1
 .simp only[AJ m];obtain⟨n,i,d⟩:=h.bF s r;refine⟨n,i,λv=> ?_⟩;rw[d];constructor
  .rintro(⟨a,b⟩|⟨a,b⟩)
   .exact .inl ⟨a,b⟩
   exact .inr ⟨a,by rw[a];exact b⟩
  rintro(⟨a,b⟩|⟨a,b⟩)
  .exact .inl ⟨a,b⟩
  exact .inr ⟨a,by rw[a]at b;exact b⟩
 simp only[AI m];by_cases o:c∈BG X
 .have t:=(h.has s).2 o;have l:I5 X c=Gj (blk c) [32] (X.length+1) X:=by unfold I5;rw[AJ t]
  obtain⟨n,i,d⟩:=h.bF s r;rw[l]at n i d;refine⟨n,i,λv=> ?_⟩;rw[d];constructor
  .rintro(⟨a,b⟩|⟨a,b⟩)
   .exact⟨a,b⟩
   exact absurd o b
  rintro⟨a,b⟩;exact .inl ⟨a,b⟩
 have t:Lib.contains X (blk c)=false:=by
  rw[Bool.eq_false_iff];intro q;exact o ((h.has s).1 q)
 rw[Re t];exact⟨h,r,λv=>⟨λa=>⟨a,λe=>o (by rw[<-e];exact a)⟩,λa=>a.1⟩⟩
theorem CT.bA{how:Nat}{X:List UInt8}(h:CT X)(n:(BG X).Nodup):∀(ns:List (List UInt8)),(∀c∈ns,CN c)->ns.Nodup->
 CT (CX how X ns)/\(BG (CX how X ns)).Nodup/\∀v,v∈BG (CX how X ns)↔VK how (v∈BG X) (v∈ns):=by
 intro ns;induction ns generalizing X with
 |nil=>
  intro _ _;refine⟨h,n,λv=> ?_⟩;unfold VK;show v∈BG X↔_;split
  .simp
  split<;>simp
 |cons c ns f=>
  intro s o;rw[B4]at o;obtain⟨m,u,l⟩:=h.bO (how:=how) (s c (by simp)) n;obtain⟨g,y,w⟩:=f m u (λx hx=>s x (by simp[hx])) o.2;refine⟨g,y,λv=> ?_⟩;show v∈BG (CX how (Km how X c) ns)↔_;rw[w,BQ];have t:=l v;unfold VK at t|-;by_cases d:how=0
  .simp only[AJ d]at t|-;rw[t];constructor
   .rintro((a|a)|a)
    .exact .inl a
    .exact .inr (.inl a)
    exact .inr (.inr a)
   rintro(a|a|a)
   .exact .inl (.inl a)
   .exact .inl (.inr a)
   exact .inr a
  simp only[AI d]at t|-;have i:=o.1;by_cases r:how=1
  .simp only[AJ r]at t|-;rw[t];by_cases e:v=c
   .subst e;simp[i]
   simp[e]
  simp only[AI r]at t|-;rw[t];by_cases e:v=c
  .subst e;simp[i]
  simp[e]
theorem TD:∀(W:List (List UInt8)),(∀c∈W,CN c)->BG (Dv W)=W:=by
 intro W;induction W with
 |nil=>intro _;rfl
 |cons c W o=>
  intro h;have t:=h c (by simp);have a:=o λx hx=>h x (by simp[hx]);have e:Dv (c::W)=32::(c++Dv W):=rfl;rw[e,Eg (by decide)];cases W with
  |nil=>show BG (c++[])=[c];rw[List.append_nil,Er t.ws t.ne]
  |cons d W=>
   have e2:Dv (d::W)=32::(d++Dv W):=rfl;rw[e2]at a|-;rw[Eg (by decide)]at a;rw[DZ (by decide),Er t.ws t.ne,a];rfl
theorem Q':∀(W:List (List UInt8)),(∀c∈W,CN c)->BG ((Dv W).drop 1)=W:=by
 intro W h;have:=TD W h;cases W with
 |nil=>rfl
 |cons c W=>
  have e:Dv (c::W)=32::(c++Dv W):=rfl;rw[e,Eg (by decide)]at this;rw[e];exact this
theorem WR:∀{W:List (List UInt8)} {x:UInt8},x∈Dv W->x=32\/∃c∈W,x∈c:=by
 intro W x h;unfold Dv at h;obtain⟨c,t,hx⟩:=List.mem_flatMap.1 h;rcases BQ.1 hx with e|e
 .exact .inl e
 exact .inr ⟨c,t,e⟩
theorem VE{l w:List UInt8}(h:w∈BG l):CN w/\∀c∈w,c∈l:=by
 obtain⟨i,o,n,t,e,-,-⟩:=LH h;exact⟨⟨i,o⟩,λc a=>by rw[e];simp[a]⟩
def Lq(op:Int):Nat:=if op=14 then 0 else if op=16 then 1 else 2
theorem QM(k:U=14\/U=15\/U=16){v:ByteArray}(m:IC v){ns:List (List UInt8)}(s:∀n∈ns,IA n)(j:ns.Nodup):
 IC (Gr U v.data.toList ns)/\∀x,x∈BG (Gr U v.data.toList ns).data.toList↔VK (Lq U) (x∈BG v.data.toList) (x∈ns):=by
 have f:(Gr U v.data.toList ns).data.toList=(Dv (IE U v.data.toList ns)).drop 1:=by unfold Gr;simp
 have w:∀c∈IE U v.data.toList ns,CN c/\∀x∈c,x.toNat≠12/\x.toNat≠11/\x.toNat<128:=by
  intro c t;unfold IE at t;rcases AV.1 t with h|h
  .obtain⟨p,g⟩:=VE (Cd.1 h).1;exact⟨p,λx hx=>m.byte x (g x hx)⟩
  have q:=s c (Cd.1 h).1;exact⟨q.cn,λx hx=>by have:=q.2 x hx;omega⟩
 have u:BG (Gr U v.data.toList ns).data.toList=IE U v.data.toList ns:=by rw[f];exact Q' _ λc t=>(w c t).1
 have o:∀x,x∈IE U v.data.toList ns↔(x∈BG v.data.toList/\OA U ns x=true)\/(x∈ns/\PB U (BG v.data.toList) x=true):=by
  intro x;unfold IE;rw[AV,Cd,Cd]
 refine⟨⟨λc t=> ?_,?_⟩,λx=> ?_⟩
 .rw[f]at t;rcases WR (List.mem_of_mem_drop t)with e|⟨d,l,r⟩
  .subst e;decide
  exact(w d l).2 c r
 .rw[u];unfold IE;rw[BA];refine⟨m.once.sublist List.filter_sublist,j.sublist List.filter_sublist,λa E b z e=> ?_⟩;subst e;have i:=(Cd.1 E).1;have y:=(Cd.1 z).2;unfold PB at y;simp[i]at y
 rw[u,o];unfold OA PB VK Lq;rcases k with rfl|rfl|rfl
 .simp;by_cases i:x∈BG v.data.toList<;>simp[i]
 .simp
 simp
structure H'(l m:List At2):Prop where
 ol:Bp l
 om:Bp m
 other:∀k:ByteArray,k.toList≠C4.toList->(CF l k).map At2.val=(CF m k).map At2.val
 cls:Cq l=Cq m\/(IC (Cq l)/\IC (Cq m)/\∀v,v∈BG (Cq l).data.toList↔v∈BG (Cq m).data.toList)
theorem H'.refl(h:Bp l):H' l l:=⟨h,h,λ_ _=>rfl,.inl rfl⟩
theorem MT{k e:ByteArray}(h:k.toList=e.toList):CF l k=CF l e:=by unfold CF;rw[h]
theorem F4(h:Bp l)(k v t:ByteArray):(CF (Cu l k v) t).map At2.val=if t.toList=k.toList then some v else(CF l t).map At2.val:=by
 split
 .rename_i e;obtain⟨x,o,a⟩:=Nv (k:=k) (v:=v) h;rw[MT e,o];exact congrArg some a
 rename_i e;cases n:CF l t with
 |some x=>
  obtain⟨o,a⟩:=(Co h).1 n;have:CF (Cu l k v) t=some x:=(Co (DY h)).2 ⟨(Hs h x).2 (.inl ⟨o,by rw[a];exact e⟩),a⟩;rw[this]
 |none=>
  have:CF (Cu l k v) t=none:=by
   rw[EZ];intro x hx i;rcases(Hs h x).1 hx with q|q
   .exact EZ.1 n x q.1 i
   exact e (i.symm.trans q.1)
  rw[this]
theorem Of(h:Bp l)(k t:ByteArray):(CF (Ij l k) t).map At2.val=if t.toList=k.toList then none else(CF l t).map At2.val:=by
 have s:Bp (Ij l k):=by
  unfold Bp Ij at*;exact List.Nodup.sublist (List.filter_sublist.map _) h
 have a:∀x,x∈Ij l k↔x∈l/\x.key.toList≠k.toList:=λx=>by unfold Ij;rw[Cd,bne_iff_ne]
 split
 .rename_i e;have:CF (Ij l k) t=none:=by
   rw[EZ];intro x hx o;exact((a x).1 hx).2 (o.trans e)
  rw[this];rfl
 rename_i e;cases i:CF l t with
 |some x=>
  obtain⟨r,n⟩:=(Co h).1 i;have:CF (Ij l k) t=some x:=(Co s).2 ⟨(a x).2 ⟨r,by rw[n];exact e⟩,n⟩;rw[this]
 |none=>
  have:CF (Ij l k) t=none:=by
   rw[EZ];intro x hx o;exact EZ.1 i x ((a x).1 hx).1 o
  rw[this]
theorem OY(h:Bp l)(k t:ByteArray):(CF (F7 l k) t).map At2.val=if t.toList=k.toList then none else(CF l t).map At2.val:=by
 have s:Bp (F7 l k):=Gk h;have a:∀x,x∈F7 l k↔x∈l/\x.key.toList≠k.toList:=JQ h;split
 .rename_i e;have:CF (F7 l k) t=none:=by
   rw[EZ];intro x hx o;exact((a x).1 hx).2 (o.trans e)
  rw[this];rfl
 rename_i e;cases i:CF l t with
 |some x=>
  obtain⟨r,n⟩:=(Co h).1 i;have:CF (F7 l k) t=some x:=(Co s).2 ⟨(a x).2 ⟨r,by rw[n];exact e⟩,n⟩;rw[this]
 |none=>
  have:CF (F7 l k) t=none:=by
   rw[EZ];intro x hx o;exact EZ.1 i x ((a x).1 hx).1 o
  rw[this]
theorem Dp(l:List At2):Cq l=((CF l C4).map At2.val).getD ⟨#[]⟩:=by
 unfold Cq;cases CF l C4<;>rfl
theorem H'.set{m:List At2}(h:H' l m)(k v:ByteArray):H' (Cu l k v) (Cu m k v):=by
 refine⟨DY h.ol,DY h.om,λt a=> ?_,?_⟩
 .rw[F4 h.ol,F4 h.om];split
  .rfl
  exact h.other t a
 by_cases e:C4.toList=k.toList
 .left;rw[Dp,Dp,F4 h.ol,F4 h.om,AJ e,AJ e]
 have e1:Cq (Cu l k v)=Cq l:=by rw[Dp,Dp,F4 h.ol,AI e]
 have e2:Cq (Cu m k v)=Cq m:=by rw[Dp,Dp,F4 h.om,AI e]
 rw[e1,e2];exact h.cls
theorem H'.rm{m:List At2}(h:H' l m)(k:ByteArray):H' (F7 l k) (Ij m k):=by
 refine⟨Gk h.ol,?_,λt a=> ?_,?_⟩
 .have:=h.om;unfold Bp Ij at*;exact List.Nodup.sublist (List.filter_sublist.map _) this
 .rw[OY h.ol,Of h.om];split
  .rfl
  exact h.other t a
 by_cases e:C4.toList=k.toList
 .left;rw[Dp,Dp,OY h.ol,Of h.om,AJ e,AJ e]
 have e1:Cq (F7 l k)=Cq l:=by rw[Dp,Dp,OY h.ol,AI e]
 have e2:Cq (Ij m k)=Cq m:=by rw[Dp,Dp,Of h.om,AI e]
 rw[e1,e2];exact h.cls
theorem H'.ai{m:List At2}(h:H' l m)(t:IC (Cq m)):IC (Cq l)/\∀v,v∈BG (Cq l).data.toList↔v∈BG (Cq m).data.toList:=by
 rcases h.cls with e|⟨o,i,a⟩
 .rw[e];exact⟨t,λ_=>Iff.rfl⟩
 exact⟨o,a⟩
theorem SR{how:Nat}{a a2 b:Prop}(h:a↔a2):VK how a b↔VK how a2 b:=by unfold VK;rw[h]
theorem H'.cl{m:List At2}(h:H' l m)(z:U=14\/U=15\/U=16)(y:IC (Cq m)){ns:List (List UInt8)}(t:∀n∈ns,IA n)(r:ns.Nodup):
 H' (G9 l (CX (Lq U) (BZ (DQ l)) ns)) (Cu m C4 (Gr U (Cq m).data.toList ns)):=by
 obtain⟨u,j⟩:=h.ai y;rw[Gf]at u;obtain⟨c1,c2,c3,c4⟩:=Kr u;have e:=Tc (P:=λc=>c.toNat≠12/\c.toNat≠11/\c.toNat<128) (by decide) (how:=Lq U) (ns:=ns) (X:=BZ (DQ l)) c3 (λn r c o=>by have:=(t n r).2 c o;omega);have s:Dc (CX (Lq U) (BZ (DQ l)) ns):=λc o=>⟨(e c o).2.2,(e c o).2.1⟩;have a:=Ny h.ol s;have w:(BG (BZ (DQ l))).Nodup:=by rw[c2];exact u.once
 obtain⟨O,q,b⟩:=c1.bA (how:=Lq U) w ns (λn E=>(t n E).cn) r;obtain⟨r1,r2⟩:=QM z y t r;have T:Cq (Cu m C4 (Gr U (Cq m).data.toList ns))=Gr U (Cq m).data.toList ns:=by
  rw[Dp,F4 h.om,AJ rfl];rfl
 refine⟨a.once,DY h.om,λk d=> ?_,.inr ?_⟩
 .rw[F4 h.om,AI d,<-h.other k d];cases i:CF l k with
  |some x=>
   obtain⟨A,p⟩:=(Co h.ol).1 i;have:=a.o1 x A (by rw[p];exact d);rw[MT p]at this;rw[this]
  |none=>
   have:CF (G9 l (CX (Lq U) (BZ (DQ l)) ns)) k=none:=by
    rw[EZ];intro x hx g;have:=a.o2 x hx (by rw[g];exact d);rw[MT g,i]at this;cases this
   rw[this]
 rw[T,Gf];refine⟨⟨λc o=>e c (a.sub c o),?_⟩,r1,λv=> ?_⟩
 .have:=a.wd;show(BG (BZ _)).Nodup;rw[this];exact q
 rw[r2];show v∈BG (BZ _)↔_;rw[a.wd,b,c2];refine SR ?_;have:=j v;rw[Gf]at this;exact this
structure RN(k:Nat)(a b:Nd):Prop where
 kind:a.kind=b.kind
 tag:a.tag=b.tag
 text:a.text=b.text
 ba:Bd k a
 bb:Bd k b
 alk:H' a.attrs b.attrs
theorem RN.more{k e:Nat}{a b:Nd}(h:RN k a b)(t:k<=e):RN e a b:=⟨h.kind,h.tag,h.text,h.ba.more t,h.bb.more t,h.alk⟩
theorem RN.refl{k:Nat}{a:Nd}(h:Bd k a):RN k a a:=⟨rfl,rfl,rfl,h,h,.refl h.once⟩
theorem OZ(k:Nat):NN (RN k):=λa b h=>h.kind
section
variable {R R2:Nd->Nd->Prop} {T:Nat->Prop} {d:Nat} {P s:bY} {ρ:Nat->Nat}
theorem Cn.imp(E:Cn R T d P s ρ)(h:∀a b,R a b->R2 a b):Cn R2 T d P s ρ:=⟨E.okP,E.okS,E.num,E.lt,E.inj,E.kids,λi e=>h _ _ (E.nd i e),E.tp,E.top⟩
theorem N_{f:List At2->List At2}{y:Nat}:∀(xs:List Nat) (s:bY),xs.Nodup->y∈xs->(DV f s xs).nd y={s.nd y with attrs:=f (s.nd y).attrs}
 |x::xs,s,a,h=>by
  obtain⟨r,n⟩:=B4.1 a;by_cases e:y=x
  .subst e;exact(Gb xs (s.setAt y (f (s.nd y).attrs)) r).trans (AJ rfl)
  have o:y∈xs:=by
   rcases BQ.1 h with h|h
   .exact absurd h e
   exact h
  have t:=N_ (f:=f) xs (s.setAt x (f (s.nd x).attrs)) n o;have i:(s.setAt x (f (s.nd x).attrs)).nd y=s.nd y:=AI e;rw[i]at t;exact t
theorem Cn.a_(E:Cn R T d P s ρ){f g:List At2->List At2}(r:∀a b,R a b->R2 a b)(hx:∀x∈Y,x<P.N)(u:Y.Nodup)(n:∀x∈Y,R (P.nd x) (s.nd (ρ x))->R2 {P.nd x with attrs:=f (P.nd x).attrs} {s.nd (ρ x)with attrs:=g (s.nd (ρ x)).attrs}):Cn R2 T d (DV f P Y) (DV g s (Y.map ρ)) ρ:=by
 obtain⟨p1,p2,p3⟩:=Ej (f:=f) Y P;obtain⟨s1,s2,m⟩:=Ej (f:=g) (Y.map ρ) s;have o:=(E.nodup hx).2 u;refine⟨by rw[p1,p2];exact E.okP,by rw[s1,s2];exact E.okS,by rw[p2,s2];exact E.num,λi e=>by rw[s2];rw[p2]at e;exact E.lt i e,λi j e c=>by rw[p2]at e c;exact E.inj i j e c,λi e=>by rw[s1,p1];rw[p2]at e;exact E.kids i e,λi e=> ?_,λi e=>by rw[p2,p1];exact E.tp i e,λi e l=> ?_⟩
 .rw[p2]at e;by_cases t:i∈Y
  .rw[N_ Y P u t,N_ (Y.map ρ) s o ((E.ZC hx e).2 t)];exact n i t (E.nd i e)
  rw[Gb Y P t,Gb (Y.map ρ) s (λh=>t ((E.ZC hx e).1 h))];exact r _ _ (E.nd i e)
 rw[p2]at e|-;rw[p1]at l;rw[s1];exact E.top i e l
end
theorem Bd.turn{k:Nat}{x:Nd}(h:Bd k x)(n:x.kind=3)(c:l.length<=x.attrs.length+1)(t:∀a∈l,a.key.size<=maxLen/\a.val.size<=5000000+4000010*(k+1))(i:Bp l)(r:k<=10):Bd (k+1) {x with attrs:=l}:=by
 have u:=h.len;refine⟨⟨h.ndb.kind,h.ndb.tag,h.ndb.text,by show l.length<=maxLen;simp only[maxLen];omega,λa e=>⟨(t a e).1,by have:=(t a e).2;simp only[maxLen];omega⟩⟩,⟨h.ndg.kind,h.ndg.text,λo=>absurd n o,by show l.length<=2000;omega⟩,by show l.length<=_;omega,λa e=>(t a e).2,i⟩
theorem MY{m:Nat}(h:∀a∈l,a.val.size<=m):(Cq l).size<=m:=by
 have:=Kt h;have e:(Cq l).data.toList.length=(Cq l).size:=by rw[Array.length_toList];rfl
 omega
theorem XT{k:Nat}{a b:Nd}(h:RN k a b)(z:k<=10)(S:b.kind=3){x:Dh}(r:x.Zz)(v:∀n∈x.nm.map BZ,IA n)(U:(x.nm.map BZ).Nodup)(I:x.op=14\/x.op=15\/x.op=16->IC (Cq b.attrs))(G:x.op=12\/x.op=13\/x.op=14\/x.op=15\/x.op=16):
 RN (k+1) {a with attrs:=(if x.op=12 then Cu a.attrs x.ky x.vl else if x.op=13 then F7 a.attrs x.ky else G9 a.attrs (CX (Lq x.op) (BZ (DQ a.attrs)) (x.nm.map BZ)))} {b with attrs:=He x.op x.ky x.vl (x.nm.map BZ) b.attrs}:=by
 have f:a.kind=3:=by rw[h.kind];exact S
 have w:Bd (k+1) {b with attrs:=He x.op x.ky x.vl (x.nm.map BZ) b.attrs}:=h.bb.at S r.ky r.vl r.sp z;by_cases t:x.op=12
 .have e:He x.op x.ky x.vl (x.nm.map BZ) b.attrs=Cu b.attrs x.ky x.vl:=by unfold He;rw[AJ t]
  have e2:He x.op x.ky x.vl (x.nm.map BZ) a.attrs=Cu a.attrs x.ky x.vl:=by unfold He;rw[AJ t]
  have N:=h.ba.at f (op:=x.op) (key:=x.ky) (val:=x.vl) (list:=x.nm.map BZ) r.ky r.vl r.sp z;rw[e]at w|-;rw[e2]at N;rw[AJ t];exact⟨h.kind,h.tag,h.text,N,w,h.alk.set _ _⟩
 rw[AI t];by_cases o:x.op=13
 .have e:He x.op x.ky x.vl (x.nm.map BZ) b.attrs=Ij b.attrs x.ky:=by unfold He;rw[AI t,AJ o]
  rw[e]at w|-;rw[AJ o];refine⟨h.kind,h.tag,h.text,h.ba.turn f (by have:=Ul (l:=a.attrs) (k:=x.ky);omega) (λy j=> ?_) (Gk h.ba.once) z,w,h.alk.rm _⟩;have g:=((JQ h.ba.once y).1 j).1;have:=h.ba.val y g;exact⟨(h.ba.ndb.ats y g).1,by omega⟩
 rw[AI o];have u:x.op=14\/x.op=15\/x.op=16:=by omega
 have e:He x.op x.ky x.vl (x.nm.map BZ) b.attrs=Cu b.attrs C4 (Gr x.op (Cq b.attrs).data.toList (x.nm.map BZ)):=by unfold He;rw[AI t,AI o]
 rw[e]at w|-;have i:=(h.alk.ai (I u)).1;rw[Gf]at i;obtain⟨c1,c2,c3,c4⟩:=Kr i;have C:Dc (BZ (DQ a.attrs)):=λc E=>⟨(c3 c E).2.2,(c3 c E).2.1⟩;obtain⟨f1,f2,B⟩:=Ga (how:=Lq x.op) (ns:=x.nm.map BZ) C (λc E=>(v c E).asc);have p:=Ny h.ba.once f1;have L:=MY h.ba.val;rw[Gf]at L;have M:=r.sp;have W:(BZ (DQ a.attrs)).length=(DQ a.attrs).size:=by show(DQ a.attrs).data.toList.length=_;rw[Array.length_toList];rfl
 refine⟨h.kind,h.tag,h.text,h.ba.turn f p.len (λy j=> ?_) p.once z,w,h.alk.cl u (I u) v U⟩;by_cases m:y.key.toList=FD.toList
 .have O:=(Co p.once).2 ⟨j,m⟩;have q:y.val=KD (G9 a.attrs (CX (Lq x.op) (BZ (DQ a.attrs)) (x.nm.map BZ))):=by rw[<-JC,O];rfl
  have H:=p.sz;have A:y.key.size=5:=by
   have H:y.key.size=y.key.toList.length:=by rw[Q7,Array.length_toList];rfl
   rw[H,m];decide+kernel
  rw[q];exact⟨by rw[A];decide,by omega⟩
 have g:=((Co h.ba.once).1 (p.o2 y j m)).1;have:=h.ba.val y g;exact⟨(h.ba.ndb.ats y g).1,by omega⟩
section
variable {k:Nat} {T:Nat->Prop} {d:Nat} {P s:bY} {ρ:Nat->Nat}
theorem Cn.ZY(E:Cn (RN k) T d P s ρ)(hx:∀x∈Y,x<P.N/\¬T x)(o:∀x∈J,x<P.N/\¬T x)(h:Dl U s (Y.map ρ) (J.map ρ)):Dl U P Y J:=by
 obtain⟨l,r,n,i⟩:=h;refine⟨λe=>l (by rw[e];rfl),(E.apart (λx h=>(o x h).1) (λx h=>(hx x h).1)).1 r,λa x t=> ?_,λa x t e=> ?_⟩
 .rw[(E.nd x (hx x t).1).kind];exact n a _ (BK t)
 have:=i a _ (BK t);rw[E.Ze (hx x t).1 (hx x t).2,e]at this;exact this rfl
theorem Cn.Z_(E:Cn (RN k) T d P s ρ)(m:∀i,¬T i)(hx:x<P.N)(h:Fe s (ρ x)):Fe P x:=by
 obtain⟨p,u,t,l,y,w⟩:=h;rw[E.Ze hx (m x)]at t;cases n:P.F.par x with
 |none=>rw[n]at t;cases t
 |some e=>
  rw[n]at t;have e1:ρ e=p:=by injection t
  have a:e<P.N:=by
   obtain⟨g,o⟩:=E.okP;exact(o.dom _ _ n).1
  rw[<-e1,E.Ze a (m e)]at l;cases c:P.F.par e with
  |none=>rw[c]at l;cases l
  |some f=>
   have r:=E.nd e a;rw[e1]at r;exact⟨e,f,n,c,by rw[r.kind];exact y,by rw[r.tag];exact w⟩
theorem Cn.step(E:Cn (RN k) T d P s ρ)(hs:Df r s)(z:P.op=false)(hk:k<=10){xs ws:List Nat}(hx:∀x∈xs,x<P.N/\¬T x)(B:∀x∈ws,x<P.N/\¬T x)(hxn:xs.Nodup)(hwn:ws.Nodup)(hx0:xs≠[])(hxr:∀x∈xs.map ρ,x<r)(hwr:∀x∈ws.map ρ,x<r)
 {x:Dh}(hf:x.Zz){s2:bY}(h:EW s (xs.map ρ) (ws.map ρ) x.ky x.vl (x.nm.map BZ) x.op s2)(M:s2.op=false)(hu:x.op=8->∀i,¬T i):
 ∃L t,Et P xs ws x.ky x.vl x.nm x.op L/\(∀y,y<P.N->t y=ρ y)/\Cn (RN (k+1)) T d L s2 t/\L.op=false/\P.N<=L.N:=by
 have j:∀x∈xs,x<P.N:=λx h=>(hx x h).1;have hx2:∀x∈xs,¬T x:=λx h=>(hx x h).2;have J:∀x∈ws,x<P.N:=λx h=>(B x h).1;have Q:∀x∈ws,¬T x:=λx h=>(B x h).2;have w:∀{L s2:bY} {t:Nat->Nat},Cn (RN k) T d L s2 t->Cn (RN (k+1)) T d L s2 t:=λE=>E.imp λa b h=>h.more (by omega);have v:∀{o:Int},(o=1\/o=2\/o=4\/o=3)->Dl o s (xs.map ρ) (ws.map ρ)->(Bl o s (xs.map ρ) (ws.map ρ) (xs.map ρ).length).op=false->∃t,(∀y,y<P.N->t y=ρ y)/\Cn (RN k) T d (CV o P xs ws xs.length) (Bl o s (xs.map ρ) (ws.map ρ) (xs.map ρ).length) t/\(CV o P xs ws xs.length).op=false/\P.N<=(CV o P xs ws xs.length).N:=by
  intro o h1 h2 h3;have:=E.many hs h1 hxr hwr h2 j hx2 J hwn Q z h3 xs.length (AG _);rw[Aq];exact this
 generalize Y:x.op=op at h;cases h with
 |r1 q=>
  obtain⟨t,C,H,O,S⟩:=v (.inl rfl) q M;rw[Qb (by omega)]at H O S;exact⟨_,t,.p1 (E.ZY hx B q) O,C,w H,O,S⟩
 |r2 q=>
  obtain⟨t,C,H,O,S⟩:=v (.inr (.inl rfl)) q M;exact⟨_,t,.p2 (E.ZY hx B q) O,C,w H,O,S⟩
 |r3 q=>
  obtain⟨t,C,H,O,S⟩:=v (.inr (.inr (.inr rfl))) q M;exact⟨_,t,.p3 (E.ZY hx B q) O,C,w H,O,S⟩
 |r4 q=>
  obtain⟨t,C,H,O,S⟩:=v (.inr (.inr (.inl rfl))) q M;rw[Qb (by omega)]at H O S;exact⟨_,t,.p4 (E.ZY hx B q) O,C,w H,O,S⟩
 |r5 q qa=>
  obtain⟨ρ1,-,t2,t3,t4⟩:=v (.inr (.inr (.inr rfl))) q M;obtain⟨t,C,H,O,S⟩:=E.bP hs hxr hwr q j hx2 J hwn Q z M;exact⟨_,t,.p5 (E.ZY hx B q) t3 t2.okP t4,C,w H,O,S⟩
 |r6=>exact⟨_,ρ,.p6,λ_ _=>rfl,w (E.Yx j),z,AG _⟩
 |r7 q=>exact⟨_,ρ,.p7,λ_ _=>rfl,w (E.ZL j),z,AG _⟩
 |r8 q=>
  have hT:=hu Y;have hU:∀x∈xs,Fe P x:=λx A=>E.Z_ hT (j x A) (q _ (BK A));obtain⟨l1,l2⟩:=E.ZW hx;obtain⟨f1,f2,f3⟩:=Ec P.F xs;have hps:∀p∈Cm P.F xs,p<P.N/\¬T p/\P.F.par p≠none:=by
   intro p hp;obtain⟨x,A,hpx⟩:=f3 p hp;obtain⟨p',u,D,g2,-,-⟩:=hU x A;rw[hpx]at D;injection D with D;subst D;exact⟨l2 p hp,hT p,by rw[g2];simp⟩
  have E2:=Cn.Z1 (Cm P.F xs) E hps f1;obtain⟨hh,o⟩:=E.okP;obtain⟨z1,z2,z3,z4,-⟩:=Hu o (Cm P.F xs) f1 (λp hp=>(hps p hp).2.2) _ (AG _);rw[AU]at z1 z2 z3 z4;rw[l1];exact⟨_,ρ,.p8 hU,λ_ _=>rfl,w E2,z4.trans z,Nat.le_of_eq z2.symm⟩
 |wrap op s2 X q=>
  obtain⟨wi,G,w1,w2,w3,w4,w5,w6,F⟩:=q;obtain⟨N,rfl,hw'⟩:∃N,ws=[N]/\ρ N=wi:=by
   cases ws with
   |nil=>cases w1
   |cons a l=>
    cases l with
    |nil=>exact⟨a,rfl,by simpa using w1⟩
    |cons b l=>simp at w1
  subst hw';have K:=J N (by simp);have V:=Q N (by simp);rcases w6 with⟨o1,D⟩|⟨o1,D⟩|⟨o1,D,-⟩
  .subst o1;have w8:EX s (ρ N) ([xs].map (List.map ρ)) s2:=by rw[D]at F;exact F
   obtain⟨L,t,v1,v2,v3,U,v5⟩:=Cn.Zh (OZ k) [xs] E hs (λg Z x A=>by rw[AP]at Z;subst Z;exact hx x A) K V z w8 M;cases v1 with
   |opn a b=>rw[b]at U;cases U
   |cons a b c=>cases c;exact⟨_,t,.p10 N rfl a b,v2,w v3,U,v5⟩
  .subst o1;have w8:EX s (ρ N) ((xs.map λx=>[x]).map (List.map ρ)) s2:=by
    rw[D]at F;rw[DI]at F|-;exact F
   obtain⟨L,t,v1,v2,v3,U,v5⟩:=Cn.Zh (OZ k) _ E hs (λg Z x A=>by
    obtain⟨y,I,rfl⟩:=BL.1 Z;rw[AP]at A;subst A;exact hx _ I) K V z w8 M
   exact⟨_,t,.p9 N _ rfl v1 U,v2,w v3,U,v5⟩
  subst o1;have w8:EX s (ρ N) ((xs.map P.F.kids).map (List.map ρ)) s2:=by
   rw[D]at F;rw[DI]at F|-;have:xs.map (s.F.kids∘ρ)=xs.map (List.map ρ∘P.F.kids):=Ay λx A=>E.kids x (j x A);rw[<-this];exact F
  obtain⟨L,t,v1,v2,v3,U,v5⟩:=Cn.Zh (OZ k) _ E hs (λg Z x A=>by
   obtain⟨y,I,rfl⟩:=BL.1 Z;exact⟨(E.Y1 A).2,E.Zw A⟩) K V z w8 M
  exact⟨_,t,.p11 N _ rfl v1 U,v2,w v3,U,v5⟩
 |att op s2 X q=>
  subst Y;obtain⟨a1,a2,a3,a4,rfl⟩:=q;have W:x.op=14\/x.op=15\/x.op=16->∀y∈xs,IC (Cq (s.nd (ρ y)).attrs):=λh y I=>(a4 h _ (BK I)).2;have E2:Cn (RN (k+1)) T d (DV (λl=>if x.op=12 then Cu l x.ky x.vl else if x.op=13 then F7 l x.ky else G9 l (CX (Lq x.op) (BZ (DQ l)) (x.nm.map BZ))) P xs) (DV (He x.op x.ky x.vl (x.nm.map BZ)) s (xs.map ρ)) ρ:=
   E.a_ (λa b h=>h.more (by omega)) j hxn λy I h=>XT h hk (a1 _ (BK I)) hf a2 a3 (λh2=>W h2 y I) X
  obtain⟨k1,k2,k3⟩:=Ej (f:=λl=>if x.op=12 then Cu l x.ky x.vl else if x.op=13 then F7 l x.ky else G9 l (CX (Lq x.op) (BZ (DQ l)) (x.nm.map BZ))) xs P;have hA:Lj P xs:=λy I=>⟨by rw[(E.nd y (j y I)).kind];exact a1 _ (BK I),by have:=(E.nd y (j y I)).ba.len;omega⟩;have hC:x.op=14\/x.op=15\/x.op=16->QB P xs x.nm:=by
   intro h;obtain⟨y0,hy0⟩:=List.exists_mem_of_ne_nil xs hx0;have hne:=(a4 h _ (BK hy0)).1;refine⟨λe=>hne (by rw[e];rfl),λn hn=>a2 _ (BK hn),by have:=hf.sp;omega,λy I=> ?_⟩;have hn:=E.nd y (j y I);have hsm:=(hn.alk.ai (W h y I)).1;rw[Gf]at hsm;obtain⟨c1,c2,c3,c4⟩:=Kr hsm;have hv:=MY hn.ba.val;rw[Gf]at hv;obtain⟨m,A⟩:=c1.front;exact⟨by omega,λc hc=>⟨(c3 c hc).2.2,(c3 c hc).2.1⟩,by omega,by rw[A];simp⟩
  refine⟨_,ρ,?_,λ_ _=>rfl,E2,k3.trans z,Nat.le_of_eq k2.symm⟩;rcases X with e|e|e|e|e
  .simp only[e,if_true];exact .p12 hA
  .simp only[e,show ¬((13:Int)=12) by decide,if_false,if_true];exact .p13 hA
  .have:=hC (by omega);simp only[e,show ¬((14:Int)=12) by decide,show ¬((14:Int)=13) by decide,if_false];exact .p14 hA this
  .have:=hC (by omega);simp only[e,show ¬((15:Int)=12) by decide,show ¬((15:Int)=13) by decide,if_false];exact .p15 hA this
  have:=hC (by omega);simp only[e,show ¬((16:Int)=12) by decide,show ¬((16:Int)=13) by decide,if_false];exact .p16 hA this
end
theorem MW{f g:Nat->List Nat}:∀{l:List Nat},(∀z∈l,f z=g z)->l.flatMap f=l.flatMap g
 |[],_=>rfl
 |a::l,h=>by rw[A_,A_,h a Af,MW (λz e=>h z (Ab _ e))]
theorem RM{t:bY}{l:Nat->Nat}(o:s.F.Ok (λi=>i<s.N) h)(e:Jl s t h l){A:Nat->Prop}{m:Nat->Nat}(C:VI s t A m):∀(d y:Nat),s.N<=y->y<t.N->(t.F.lst d y).map m=s.F.lst d (m y)
 |0,y,a,r=>rfl
 |d+1,y,a,r=>by
  show(y::(t.F.kids y).flatMap (t.F.lst d)).map m=m y::(s.F.kids (m y)).flatMap (s.F.lst d);rw[Bz,List.map_flatMap,<-C.kids y a r,List.flatMap_map];congr 1;exact MW λz n=>RM o e C d z (e.ZM o a n).1 (e.ZM o a n).2
structure NL(t:List Nd)(x N:Nat)(a:bY):Prop where
 kids:∀j,j<sz t x->a.F.kids (N+j)=((Oo t).kids (x+j)).map λz=>z-x+N
 nd:∀j,j<sz t x->a.nd (N+j)=ND t (x+j)
 top:a.F.par N=none
theorem Vj(f:CQ t){a:bY}{o:Nat->Nat}(e:Jl (EJ t) a (sz t) o)(hx:x<t.length)(u:(CZ 600 a x).op=false):
 ∃s,Ko a (CZ 600 a x) o s x/\(CZ 600 a x).N=a.N+sz t x/\NL t x a.N (CZ 600 a x):=by
 have b:=(f.lam x (AY _) hx).2.2.1;have A:=f.le;have d:x<a.N:=AR hx e.le;have c:o x<=600:=by rw[e.hold x hx];omega
 have n:a.F.all o x=EP x (sz t x):=by
  rw[e.Zb (FR f) hx];exact OL f _ _ (AG _) hx
 obtain⟨m,C,v,w⟩:=XJ 600 a o x e.ok d c u;obtain⟨s,E,p⟩:=Xv 600 a o x e.ok d c u;rw[n,List.length_range']at w;rw[w,Fu]at p;have q:(EP a.N (sz t x)).map m=EP x (sz t x):=by
  have i:=RM e.ok E.old C (max (s a.N) (o x)) a.N (AG _) E.lt;rw[v]at i;have y:(CZ 600 a x).F.lst (max (s a.N) (o x)) a.N=(CZ 600 a x).F.all s a.N:=(Fo.Yy E.ok _ _ _ (AG _) (Nat.le_max_left _ _)).symm;have T:a.F.lst (max (s a.N) (o x)) x=a.F.all o x:=(Fo.Yy e.ok _ _ _ (AG _) (Nat.le_max_right _ _)).symm;rw[y,T,p,n]at i;exact i
 have h:∀j,j<sz t x->m (a.N+j)=x+j:=by
  intro j r;have:=congrArg (λl=>l[j]?) q;simpa [r]using this
 refine⟨s,E,w,λj r=> ?_,λj r=> ?_,E.root⟩
 .have i:=C.kids (a.N+j) (by omega) (by omega);rw[h j r,e.kids _ (by show x+j<t.length;omega)]at i;have i:((CZ 600 a x).F.kids (a.N+j)).map m=(Oo t).kids (x+j):=i;rw[<-i,DI];have y:∀z∈(CZ 600 a x).F.kids (a.N+j),((λz=>z-x+a.N)∘m) z=id z:=by
   intro z k;obtain⟨I,O⟩:=E.old.ZM e.ok (by omega) k;have g:=h (z-a.N) (by omega);rw[show a.N+(z-a.N)=z by omega]at g;show m z-x+a.N=z;rw[g];omega
  rw[Ay y,List.map_id]
 rw[C.nd _ (by omega) (by omega),h j r,e.ndo _ (by show x+j<t.length;omega)];rfl
theorem NL.old{N:Nat}{a b:bY}{n i:Nat->Nat}(h:NL t x N a)(e:Jl a b n i)(s:N+sz t x<=a.N)(r:1<=sz t x):NL t x N b:=
 ⟨λj o=>by rw[e.kids _ (by omega)];exact h.kids j o,λj o=>by rw[e.ndo _ (by omega)];exact h.nd j o,by rw[e.par _ (by omega)];exact h.top⟩
def CS(t:List Nd)(ns:List Nat)(i:Nat):Nat:=((ns.take i).map (sz t)).sum
theorem FF(t:List Nd)(ns:List Nat)(h:i<ns.length):CS t ns (i+1)=CS t ns i+sz t ns[i]:=Kc _ _ h
theorem JK(t:List Nd)(ns:List Nat):∀{i j:Nat},i<=j->j<=ns.length->CS t ns i<=CS t ns j:=by
 intro i j e;induction e with
 |refl=>intro _;exact AG _
 | @step j _ a=>
   intro o;have:=a (by omega);rw[FF t ns (by omega)];omega
theorem RJ(h:CQ t)(x:∀n∈G,n<t.length)(F:t.length+CS t G G.length<=600):∀k,k<=G.length->∃c,YJ (EJ t) (sz t) (ET (EJ t) (G.take k)) c/\(ET (EJ t) (G.take k)).N=t.length+CS t G k/\(ET (EJ t) (G.take k)).op=false/\
 ∀i (w:i<k) (o:i<G.length),NL t G[i] (t.length+CS t G i) (ET (EJ t) (G.take k)):=by
 intro k;induction k with
 |zero=>
  intro _;exact⟨sz t,⟨Jl.refl (FR h),λy f=>⟨y,f,rfl⟩⟩,by simp[ET,CS,EJ],rfl,λi w=>absurd w (Nat.not_lt_zero _)⟩
 |succ k O=>
  intro H;obtain⟨c,s,m,v,D⟩:=O (by omega);have r:k<G.length:=by omega
  have hx:=x G[k] (AD r);have N:=Io (EJ t) G (k:=k) r;have M:=JK t G (i:=k+1) (j:=G.length) H (AG _);have S:=FF t G r;have T:=(h.lam _ (AY _) hx).2.2.1;have C:=h.le;have u:(ET (EJ t) (G.take k)).F.all c G[k]=EP G[k] (sz t G[k]):=by
   rw[s.old.Zb (FR h) hx];exact OL h _ _ (AG _) hx
  have a:(CZ 600 (ET (EJ t) (G.take k)) G[k]).op=false:=by
   refine PD 600 _ c _ s.old.ok (AR hx s.old.le) (by rw[s.old.hold _ hx];omega) v ?_;rw[u,List.length_range',m];omega
  obtain⟨R,d,E,g⟩:=Vj h s.old hx a;rw[<-N]at d E g a;refine⟨R,⟨s.old.trans d.old,λy f=> ?_⟩,by rw[E,m,S];omega,a,λi w o=> ?_⟩
  .by_cases l:y<(ET (EJ t) (G.take k)).N
   .rw[d.ndo y l];exact s.nds y l
   obtain⟨z,I,e2⟩:=d.newn y (by omega) f;obtain⟨A,p,U⟩:=s.nds z I;exact⟨A,p,e2.trans U⟩
  by_cases e:i=k
  .subst e;rw[m]at g;exact g
  have q:i<k:=by omega
  have L:=JK t G (i:=i+1) (j:=k) (by omega) (by omega);rw[FF t G o]at L;have b:=x G[i] (AD o);exact(D i q o).old d.old (by rw[m];omega) (h.lam _ (AY _) b).2.1
def S6(t:List Nd)(n:Nat):List Nd:=(t.drop n).take (sz t n)
def LO(t:List Nd)(ns:List Nat):List Nd:=ns.flatMap (S6 t)
theorem Pr(e:CQ t)(h:n<t.length):(S6 t n).length=sz t n:=by
 have:=(e.lam n (AY _) h).2.2.1;unfold S6;rw[List.length_take,DN];omega
theorem IF(i:CQ t)(o:∀n∈G,n<t.length):∀k,k<=G.length->(LO t (G.take k)).length=CS t G k:=by
 intro k;induction k with
 |zero=>intro _;simp[LO,CS]
 |succ k a=>
  intro s;have e:k<G.length:=by omega
  rw[FF t G e,AF e];unfold LO at a|-;rw[C9,AN,a (by omega),List.flatMap_singleton,Pr i (o _ (AD e))]
theorem SF(t:List Nd)(ns:List Nat)(h:i<ns.length):LO t ns=LO t (ns.take i)++(S6 t ns[i]++LO t (ns.drop (i+1))):=by
 have:ns=ns.take i++(ns[i]::ns.drop (i+1)):=by rw[List.getElem_cons_drop,List.take_append_drop]
 unfold LO;conv=>lhs;rw[this]
 rw[C9,A_]
theorem XI(a:CQ t)(e:∀n∈G,n<t.length)(h:i<G.length){j:Nat}(o:j<sz t G[i]):(LO t G)[CS t G i+j]? =t[G[i]+j]? :=by
 have hx:=e _ (AD h);rw[SF t G h,List.getElem?_append_right (by rw[IF a e i (by omega)];omega),IF a e i (by omega),Fu,List.getElem?_append_left (by rw[Pr a hx];exact o)];unfold S6;rw[List.getElem?_take,AJ o,List.getElem?_drop]
theorem Mg(t:List Nd)(ns:List Nat):∀k,k<=ns.length->∀q,q<CS t ns k->∃i,∃h:i<ns.length,i<k/\∃j,j<sz t ns[i]/\q=CS t ns i+j:=by
 intro k;induction k with
 |zero=>intro _ q e;simp[CS]at e
 |succ k a=>
  intro r q e;rw[FF t ns (by omega)]at e;by_cases h:q<CS t ns k
  .obtain⟨i,s,d,j,n,o⟩:=a (by omega) q h;exact⟨i,s,by omega,j,n,o⟩
  exact⟨k,by omega,by omega,q-CS t ns k,by omega,by omega⟩
theorem Ix{t2:List Nd}{a b:Nat}:∀(f j e:Nat),(∀q,j<=q->q<e->sz t2 (b+q)=sz t (a+q))->BR t2 f (b+j) (b+e)=(BR t f (a+j) (a+e)).map λz=>z-a+b
 |0,j,e,_=>rfl
 |f+1,j,e,h=>by
  unfold BR;by_cases o:j<e
  .rw[AJ (by omega),AJ (by omega),Bz,h j (AG _) o];have:=Ix f (j+sz t (a+j)) e (λq n i=>h q (by omega) i);rw[<-Cc,<-Cc]at this;rw[this];congr 1;omega
  rw[AI (by omega),AI (by omega)];rfl
end Go.Proofs.YtgajepeipddacaaGreat
