/- Part 7 of the proof of FnCloneApart: what the law and the program compute, walked. -/
import Derived.Test.YtgajepeipddacaaGreatJ6
open Go.RowKit Go.Proofs.Tryz
open Array renaming getElem?_eq_some_iff->AE
open Go renaming Addr->Ai,Calls->AX,Ending->Bx,Oper->ER,TypeId->Dk,Value->AS,World->AB,below_drewN->BC,cell_of_row->AZ,frozen_of_row->A7,heap_alloc_new->Ah,heap_setCell_same->Ao,info_parts->D6,madeCells->DG
open Go.Act renaming put->AQ
open Go.Addr renaming add_lit->Ba
open Go.Lib renaming hid->AA
open Go.Proofs.Tryz renaming prog->AC,underlying9->ES
open Go.RowKit renaming Below->AL,intOf->Aa
open Go.RowKit.Below renaming heap_alloc->B5,heap_setCell->A8,refl->AW
open Go.Value renaming ownBlock->A6,slice->AO
open Go.World renaming cell?_alloc_lt->Fv,cell?_alloc_mark->BI,ownsRow_nil->Aw,size_alloc->BX
open List renaming eq_nil_of_length_eq_zero->Ag,flatMap_append->C9,flatMap_cons->A_,getD_eq_getElem?_getD->Ae,getElem?_append_right->EV,getElem?_eq_getElem->AK,getElem?_eq_some_iff->C6,getElem_append_left->Cs,getElem_append_right->Gt,getElem_map->BD,getElem_mem->AD,getElem_of_mem->An,length->Dw,length_append->AN,length_cons->Ak,length_drop->DN,length_map->Aq,length_range->D7,length_take->At,map_append->B3,map_congr_left->Ay,map_cons->Bz,map_map->DI,mem_append->AV,mem_cons->BQ,mem_cons_of_mem->Ab,mem_flatMap->C1,mem_map->BL,mem_map_of_mem->BK,mem_of_mem_take->Ci,mem_singleton->AP,range->BV,range'->EP,take_length->AU,take_of_length_le->BP,take_succ_eq_append_getElem->AF
open Nat renaming add_assoc->Cc,add_zero->Dj,eq_zero_or_pos->BJ,le_refl->AG,le_trans->AH,lt_of_lt_of_le->AR,zero_add->By,zero_le->AY
open Option renaming getD_some->BE,map_some->As
open Go.Proofs.YtgajepeipddacaaGreat
namespace Go.Proofs.YtgajepeipddacaaGreat
set_option linter.unusedVariables false
set_option maxRecDepth 100000
set_option maxHeartbeats 40000000
variable{B A c g i k n p r x:Nat}{F:Fo}{K:Act->AB->Prop}{Q:Exit->Act->AB->Prop}{S:Nat->Prop}{a:Option Ai}{Z h O:Nat->Nat}{l:List At2}{H:Nat->Nd}{G Y:List Nat}{U:Int}{T:Array ER}{s:bY}{t:List Nd}{v:AS}{w M wr:AB}
structure Yl(t:List Nd)(ns:List Nat)(l1 l2:List Dh)(d1 d2:bY)(h1 h2:Nat->Nat):Prop where
 right:CQ t
 att:∀i,i<t.length->(CU (ND t i)).length<=2000
 op:∀i,i<=ns.length->(ET (EJ t) (ns.take i)).op=false
 few:(ET (EJ t) ns).N-t.length<=200
 s1:GY t.length (EJ t) l1 d1
 ok1:d1.F.Ok (λi=>i<d1.N) h1
 nd1:∀i,i<d1.N->G' (d1.nd i)/\Kk (d1.nd i)
 n1:d1.N<=1000
 s2:GY ((ET (EJ t) ns).N-t.length) (IU t.length (ET (EJ t) ns)) l2 d2
 ok2:d2.F.Ok (λi=>i<d2.N) h2
 nd2:∀i,i<d2.N->G' (d2.nd i)/\Kk (d2.nd i)
 n2:d2.N<=1000
theorem GY.le{m:Nat}{s2:bY}{l:List Dh}(h:GY m s l s2):s.N<=s2.N:=by
 induction h with
 |nil s=>exact AG _
 |cons a ws _ _ _ _ _ t _ e=>exact AH t e
structure TW(W:AB)(g0:Nat)(bl:Nat->Nat)(L:List Nat)(wr:AB):Prop where
 below:AL W.heap.size W wr
 box:∃A c,wr.heap[W.heap.size]? =some (.cells #[.slice A L.length c,.pointer (some ⟨g0,0,none⟩)] 69 (0,0))/\wr.ownsRow W.heap.size 70 1 (.slice A L.length c) L.length (Ad bl L)
theorem TW.next{W:AB}{n:Nat}{L o:List Nat}{u:AB}{A s:Option Ai}{c2:Nat}(i:AL W.heap.size W wr)(hx:wr.heap[W.heap.size]? =some (.cells #[.slice A L.length c,.pointer (some ⟨n,0,none⟩)] 69 (0,0)))(hr:wr.ownsRow W.heap.size 70 1 (.slice A L.length c) L.length (Ad Z L))
 (a:AL wr.heap.size wr u)(y:u.grownBy M (AO A L.length c).ownBlock)(r:M.ownsRow W.heap.size 70 1 (.slice s (L++o).length c2) (L++o).length (Ad Z (L++o))):
 M.heap[W.heap.size]? =some (.cells #[.slice A L.length c,.pointer (some ⟨n,0,none⟩)] 69 (0,0))/\TW W n Z (L++o) (M.setCell ⟨W.heap.size,0,none⟩ (.slice s (L++o).length c2)):=by
 have l:=(AE.1 hx).1;have d:=BB hr (λb _ h=>a.block b h);have g:u.heap[W.heap.size]? =some (.cells #[.slice A L.length c,.pointer (some ⟨n,0,none⟩)] 69 (0,0)):=(a.block _ l).trans hx;have m:M.heap[W.heap.size]? =some (.cells #[.slice A L.length c,.pointer (some ⟨n,0,none⟩)] 69 (0,0)):=(y.block _ (AR l a.size) (λe=>Ax d g (by decide) e.symm)).trans g;have t:AL W.heap.size W M:=(i.trans (a.mono i.size)).grown y (AH i.size a.size) (λq p=>(d.lt q p).1);have w:∀b,b≠W.heap.size->(M.setCell ⟨W.heap.size,0,none⟩ (.slice s (L++o).length c2)).heap[b]? =M.heap[b]? :=λb i=>heap_setCell_other M ⟨W.heap.size,0,none⟩ b _ i;refine⟨m,⟨⟨t.os,t.tape,t.output,by simpa using t.size,λb f=>by rw[w b (by omega)];exact t.block b f⟩,s,c2,?_,?_⟩⟩
 .have:=Ao M W.heap.size 0 _ _ (.slice s (L++o).length c2) m;exact this
 exact Cv r λb t _=>w b (λe=>Ax r m (by decide) (by rw[t,e]))
structure TN(F:Fo)(h:Nat->Nat)(nd:Nat->Nd)(L:List Nat)(w7:AB)(es:List Nd)(A:Option Ai)(c:Nat)(wr:AB):Prop where
 below:AL w7.heap.size w7 wr
 str:es.map Cj=L.map (D4 F h nd)
 own:∀e∈es,Ja w7.heap.size wr e
 row:wr.ownsRow w7.heap.size 41 5 (.slice A es.length c) es.length (B7 es)
theorem TN.next{nd:Nat->Nd}{L m:List Nat}{d:AB}{a t:List Nd}{A f:Option Ai}{c2:Nat}{o s:AB}(H:TN F h nd L d a A c wr)(n:AL wr.heap.size wr o)(l:t.map Cj=m.map (D4 F h nd))(p:∀e∈t,Ja wr.heap.size o e)
 (i:o.grownBy s (AO A a.length c).ownBlock)(hr:s.ownsRow d.heap.size 41 5 (.slice f (a++t).length c2) (a++t).length (B7 (a++t))):TN F h nd (L++m) d (a++t) f c2 s:=by
 have r:=BB H.row (λb _ h=>n.block b h);have g:DO (AO A a.length c).ownBlock (AO none 0 0).ownBlock o s:=⟨i.os,i.tape,i.output,i.size,λb n l _=>i.block b n l⟩;have u:∀B e,Ja B o e->Ja B s e:=λB e y=>y.ZE g r (Aw o 0 70 1);refine⟨(H.below.trans (n.mono H.below.size)).grown i (AH H.below.size n.size) (λq w=>(r.lt q w).1),by rw[B3,B3,H.str,l],λe he=> ?_,hr⟩;rcases AV.1 he with he|he
 .exact u _ _ (BB (H.own e he) (λb _ h=>n.block b h))
 exact u _ _ (Bf (p e he) H.below.size)
theorem Wp(e:CQ t):Df t.length (EJ t):=⟨⟨sz t,FR e⟩,AG _,by have:=e.le;show t.length<=600;omega,e.le,rfl⟩
def TK(t:List Nd)(ns:List Nat)(h s:bY)(l d:Nat->Nat)(w:AB)(e:Bx)(w':AB):Prop:=
 ∃a m c r n c2,e= .returned (.tuple #[.slice a m c,.slice r n c2,.bool true])/\(∃i,m=i.length/\Gp w' w'.heap.size a i/\i.map Cj=IQ h.F l h.nd 0)/\
  (∃o,n=o.length/\Gp w' w'.heap.size r o/\o.map Cj=((DR (EJ t) ns).map (·-t.length)).flatMap (IQ s.F d s.nd))/\AL w.heap.size w w'
theorem MO{l1 l2:List Dh}{d1 N:bY}{h1 h2:Nat->Nat}(K:Yl t G l1 l2 d1 N h1 h2)(a:Option Ai)(c:Nat)(ad:Option Ai)(c2:Nat)(l:List Int)(ho:GX t.length l G)(hl:l.length<=2147483647)(hl1:l1.length<=100000)(hl2:l2.length<=100000)(w:AB)(h:Gp w w.heap.size a t)(hi:Kj w w.heap.size ad l)
 (a3:Option Ai)(c3:Nat)(S:On w w.heap.size a3 l1)(a4:Option Ai)(c4:Nat)(hs2:On w w.heap.size a4 l2):
 AX AC 13 #[.slice a t.length c,.slice ad l.length c2,.slice a3 l1.length c3,.slice a4 l2.length c4] w (TK t G d1 N h1 h2 w):=by
 have HSel:=AA (NI a c t K.right ad c2 l G ho hl w h hi);have HO:=AA ho;have s:=AA K;have HS1:=AA S;have HS2:=AA hs2;have hnl:Hid (G.length<=200):=by have:=ho.len;have:=K.right.le;rw[Hid];omega
 clear K ho h hi S hs2;go_enter func13,ntmps13;go_wp2_with fail;refine HSel.o.mono ?_;rintro e w1 ⟨L,bl,st,gw,g0,g,doc,rfl,hL,hT,hW,hsel,hgw,hb1,doc2,prev,hsb⟩;obtain⟨hh,oh,hh6⟩:=(Wp s.o.right).ZP;have hP1:Br (EJ t).F (λi=>i<(EJ t).N) (EJ t).nd w.heap.size bl st w1:=hT.prog s.o.right;have hx:∀x∈G,x<(EJ t).N/\hh x<=600:=λx hx=>⟨HO.o.lt x hx,hh6 x (HO.o.lt x hx)⟩;have HCl:=AA (N' oh hx (by have:=hnl.o;omega) s.o.op s.o.att hP1 hb1.size w.heap.size g doc hsel.toW);have HW1:Hid (VJ bl t.length gw g0 w.heap.size (some ⟨L,0,none⟩) t.length doc2 w1):=⟨hW,hT.own s.o.right.le,prev,hsb⟩;have HP1:=AA hP1;have HB1:=AA hb1;have HX:=AA hx;have HOh:=AA oh;clear hL hT hW hsel hb1 hsb hP1 hx oh hh6 hgw HSel;go_wp2_with fail;refine HCl.o.mono ?_;rintro e J ⟨g2,a5,c5,rfl,hc5,r,st',hPA,O⟩;have HPA:=AA hPA;have Y:=AA O;have HW2:=AA (hPA.af HP1.o (AG _) (AG _) HW1.o);have z1:J.cell? ⟨gw,1,none⟩=some (.pointer (some ⟨g0,0,none⟩)):=Aj HW2.o.box;obtain⟨ha,d,p⟩:=Vg HOh.o HX.o s.o.op G.length (AG _);rw[AU]at d p;rw[show(DR (EJ t) G).take G.length=DR (EJ t) G from BP (Nat.le_of_eq (Cy _ _))]at p;have B:=Oa HOh.o HX.o (AG G.length);rw[AU,show(DR (EJ t) G).take G.length=DR (EJ t) G from BP (Nat.le_of_eq (Cy _ _))]at B;have hTl:(DR (EJ t) G).length=G.length:=Cy _ _;have hG:∀i,i<(ET (EJ t) G).N->G' ((ET (EJ t) G).nd i):=λi hi=>by
  obtain⟨z,hz,e⟩:=d.nds i hi;rw[e];exact Uc s.o.right hz
 have hNle:t.length<=(ET (EJ t) G).N:=d.old.le;have hfew:=s.o.few;have hN4:(ET (EJ t) G).N<=400:=by have:=s.o.right.le;omega
 have Q:Hid (TW J g0 r [] (J.alloc (.cells #[.slice none 0 0,.pointer (some ⟨g0,0,none⟩)] 69))):=⟨Ac,none,0,Ah J _,Aw _ _ _ _⟩;obtain⟨s1,S⟩:∃s1,s1=ET (EJ t) G:=⟨_,rfl⟩;obtain⟨T,hT⟩:∃T,T=DR (EJ t) G:=⟨_,rfl⟩;rw[<-S,<-hT]at p;rw[<-S,<-hT]at B;rw[<-S]at d hG hNle hfew hN4 hPA;rw[<-hT]at hTl O;have E:=AA d;have HAll:=AA p;have HTlt:=AA B;have HTge:Hid (∀y∈T,t.length<=y):=by
  intro y hy;have hm:y∈T.flatMap (s1.F.all ha):=C1.2 ⟨y,hy,by rw[Fo.all_eq d.old.ok];exact List.mem_cons_self⟩;rw[p]at hm;exact(List.mem_range'_1.1 hm).1
 have HTl:=AA hTl;have HG:=AA hG;have HN4:=AA hN4;have HNle:=AA hNle;have HFew:=AA hfew;have Hs1:=AA S;have HT:=AA hT;have V:=AA hPA;have Y:=AA O;clear hPA O HCl HPA d p B hTl hG hNle hfew hN4 S hT;go_wp2;go_loopw [44] (λx wr=>∃k:Nat,k<=G.length/\x= .int .i64 k/\Hid (TW J g0 r ((T.take k).flatMap (s1.F.all ha)) wr)) (λx _=>G.length-(Aa x).toNat)
 .exact⟨0,by omega,rfl,Q.o⟩
 obtain⟨k,hk,rfl,D⟩:=hrel;obtain⟨W,rfl⟩:∃W:AB,W=wr:=⟨_,rfl⟩;clear Q;have I:=HTl.o;by_cases hlt:k<G.length
 .have f:=D.o.below;obtain⟨A,ca,hbx,hrw⟩:=D.o.box;obtain⟨a9,c9,ha9,-,hr9⟩:=B6.own (BB Y.o (λb _ h=>f.block b h));cases ha9
  obtain⟨b,q,rfl,hbB,hc⟩:=hr9.at_ (by rw[AM];omega);have g1:=hc k (by rw[AM];omega);rw[A5 (by omega)]at g1;have R:T.take (k+1)=T.take k++[T[k]'(by omega)]:=AF (by omega);have H:=HTlt.o (T[k]'(by omega)) (AD _);obtain⟨y,hy⟩:∃y,y=T[k]'(by omega):=⟨_,rfl⟩;rw[<-hy]at g1 R H;have P:(s1.F.all ha y).length<=400:=AH (FB E.o.old.ok (n:=s1.N) (λi h=>h) H) HN4.o;have hLl:((T.take k).flatMap (s1.F.all ha)).length<=400:=by
   have e:=congrArg Dw HAll.o;rw[List.length_range']at e;have e2:T.flatMap (s1.F.all ha)=(T.take k).flatMap (s1.F.all ha)++(T.drop k).flatMap (s1.F.all ha):=by rw[<-C9,List.take_append_drop]
   rw[e2,AN]at e;have:=HFew.o;have e3:(EJ t).N=t.length:=rfl;omega
  have HTk:=AA (Mw E.o.old.ok HG.o H (V.o.prog.kept f) (by omega));have HLk:Hid ((T.take (k+1)).flatMap (s1.F.all ha)=(T.take k).flatMap (s1.F.all ha)++s1.F.all ha y):=by
   rw[Hid,R,C9,List.flatMap_singleton]
  obtain⟨Lk,hLk⟩:∃Lk,Lk=(T.take k).flatMap (s1.F.all ha):=⟨_,rfl⟩;obtain⟨Ly,hLy⟩:∃Ly,Ly=s1.F.all ha y:=⟨_,rfl⟩;rw[<-hLk]at hLl HLk hbx hrw;rw[<-hLy]at P HLk;have HLy:=AA hLy;have HBx:=AA hbx;have HRw:=AA hrw;have HBW:=AA f;obtain⟨py,hpy⟩:∃py,py=r y:=⟨_,rfl⟩;rw[<-hpy]at g1 HTk;clear hc hr9 hy H R D f hLk hLy hbx hrw hpy;go_wp2_with fail;refine HTk.o.mono ?_;rintro e w3 ⟨es,a6,c6,a7,c7,rfl,-,-,-,hU,hb3⟩;rw[<-HLy.o]at hU|-;have hrs:B6 w3 w3.heap.size a7 (Ad r Ly):=by
   obtain⟨_,_,hv,_,hr⟩:=B6.own hU;cases hv
   exact hr
  have hr3:=BB HRw.o (λb _ h=>hb3.block b h);have hx3:=(hb3.block _ (AE.1 HBx.o).1).trans HBx.o;have q0:w3.cell? ⟨J.heap.size,0,none⟩=some (.slice A Lk.length ca):=Aj hx3;have F:J.heap.size<=w3.heap.size:=AH HBW.o.size hb3.size;have HR3:=AA hr3;have HRs:=AA hrs;have HB3:=AA hb3;clear hU hrs hr3 hx3 hb3;go_wp2_with(at_builtin;refine Db _ rfl (.tmp 57) (.tmp 58) rfl r J.heap.size (.slice A Lk.length ca) Lk rfl HR3.o a7 Ly.length c7 Ly rfl rfl HRs.o (by omega) F ?_);intro a8 c8 w4 C u _;rw[<-AN]at C;obtain⟨hx4,hO4⟩:=TW.next HBW.o HBx.o HRw.o HB3.o u C;have fz:w4.frozen? ⟨J.heap.size,0,none⟩=false:=FE hx4;have f0:w4.cell? ⟨J.heap.size,0,none⟩=some (.slice A Lk.length ca):=Aj hx4;rw[AN]at hO4;have HO4:=AA hO4;clear C u hx4 hO4;have hnl':G.length<=200:=hnl.o;go_wp2;go_roundw
  .exact⟨k+1,by omega,by go_num,by rw[HLk.o];exact HO4.o⟩
  simp[Aa];omega
 have e:k=G.length:=by omega
 subst e;rw[BP (Nat.le_of_eq I),HAll.o]at D;have f:=D.o.below;have hPW:=V.o.prog.kept f;have hPF:=hPW.first E.o.old HOh.o;have hPS:=Br.second E.o.old.ok (E.o.old.shut HOh.o) hPW;have hSp:=Br.apart E.o.old.le hPW;have hWd:=HW2.o.below f;obtain⟨M,hM⟩:∃M,M=s1.N-t.length:=⟨_,rfl⟩;obtain⟨A,ca,k1,k2⟩:=D.o.box;have e1:(EP (EJ t).N (s1.N-(EJ t).N)).length=M:=by rw[List.length_range',hM];rfl
 have e2:Ad r (EP (EJ t).N (s1.N-(EJ t).N))=Ad (λk=>r ((EJ t).N+k)) (BV M):=by
  unfold Ad;rw[List.range'_eq_map_range,DI,hM];exact Ay λk _=>rfl
 rw[e1]at k1 k2;rw[e2]at k2;obtain⟨bl2,hbl2⟩:∃bl2,bl2=(λk=>r ((EJ t).N+k)):=⟨_,rfl⟩;rw[<-hbl2]at k2 hPS hSp;have hWo:VJ bl2 M J.heap.size g0 J.heap.size A ca doc2 W:=⟨k1,k2,hWd.none_⟩;have hB0:AL w.heap.size w W:=HB1.o.trans ((V.o.below HP1.o HB1.o.size).trans (f.mono (AH HB1.o.size V.o.turn.size)));have hS2:=s.o.s2;rw[<-Hs1.o,<-hM]at hS2;have hSN:(IU (EJ t).N s1).N=M:=by rw[hM];rfl
 have hM2:M<=200:=by rw[hM];exact HFew.o
 have hTW:=BB Y.o (λb _ h=>f.block b h);have HC1:=AA (Lc s.o.s1 hl1 hPF hB0.size (AG _) s.o.right.le hWd a3 c3 (HS1.o.below hB0));have HPF:=AA hPF;have HPS:=AA hPS;have HSp:=AA hSp;have HWd:=AA hWd;have HWo:=AA hWo;have HB0:=AA hB0;have HS2':=AA hS2;have HSN:=AA hSN;have HMd:Hid (M<=N.N):=by
  have q:=hS2.le;have e:(IU t.length s1).N=M:=hSN;rw[e]at q;exact q
 have HTW:=AA hTW;have HM:=AA hM;have Hbl2:=AA hbl2;have HM2:=AA hM2;clear D f hPW hPF hPS hSp hWd k1 k2 e1 e2 hWo hB0 hS2 hSN hTW hM hbl2 hM2 I;go_wp2_with fail;refine HC1.o.mono ?_;rintro e w5 ⟨rfl,bl5,GN,hA5⟩;have hfr:=hA5.frame HPF.o (m:=(IU (EJ t).N s1).N) HPS.o HSp.o;have hWo5:=hA5.aR HPF.o (AG _) HWo.o;have hWd5:=hA5.af HPF.o (AG _) (AG _) HWd.o;have hB5:AL w.heap.size w w5:=HB0.o.trans (hA5.below HPF.o HB0.o.size);have hTW5:=hA5.own HPF.o HTW.o (by decide) (by decide) (λg hg=>(HTW.o.lt g hg).2);have HC2:Hid (AX AC 26 #[.pointer (some ⟨J.heap.size,0,none⟩),.slice a4 l2.length c4] w5 (λe w'=>e= .returned (.bool true)/\Ew (IU (EJ t).N s1).N w.heap.size w5.heap.size bl2 w5 N w')):=
  Lc HS2'.o hl2 hfr.1 hB5.size (Nat.le_of_eq HSN.o.symm) HM2.o hWo5 a4 c4 (HS2.o.below hB5)
 have HA5:=AA hA5;have Z:=AA hfr;have HWd5:=AA hWd5;have HB5:=AA hB5;have HTW5:=AA hTW5;clear hA5 hfr hWo5 hWd5 hB5 hTW5 HC1;go_wp2_with fail;refine HC2.o.mono ?_;rintro e w6 ⟨rfl,bl6,st6,hA6⟩;have hdoc:=hA6.frame Z.o.1 HA5.o.prog (Z.o.2.symm HA5.o.prog Z.o.1);have hWd6:=hA6.aR Z.o.1 (AG _) HWd5.o;have hB6:AL w.heap.size w w6:=HB5.o.trans (hA6.below Z.o.1 HB5.o.size);have hTW6:=hA6.own Z.o.1 HTW5.o (by decide) (by decide) (λg hg=>(HTW5.o.lt g hg).2);have hle1:t.length<=d1.N:=s.o.s1.le;have hpos:=s.o.right.pos;have HEn:=AA (Tt s.o.ok1 (λi hi=>(s.o.nd1 i hi).1) (λi hi=>(s.o.nd1 i hi).2) (n:=t.length) hpos s.o.right.le (λi hi=>AR hi hle1) (AH (FB s.o.ok1 (λi h=>h) (AR hpos hle1)) (AH s.o.n1 (by decide))) w6 hdoc.1 gw L g0 hWd6.box (λj hj=>by
  obtain⟨_,_,hv,_,hr⟩:=B6.own hWd6.all;cases hv
  obtain⟨b,o,e,-,hc⟩:=hr.at_ (by rw[AM,D7];exact Nat.zero_lt_of_lt hj);cases e
  have q:=hc j (by rw[AM,D7];exact hj);rw[A5 (by rw[D7];exact hj),List.getElem_range,By]at q;exact q))
 have HA6:=AA hA6;have HB6:=AA hB6;have HTW6:=AA hTW6;clear hA6 hdoc hWd6 hB6 hTW6 HC2 hle1 hpos;go_wp2_with fail;refine HEn.o.mono ?_;rintro e w7 ⟨a8,m8,c8,a9,m9,c9,rfl,hout,hb7⟩;have HOut:=AA hout;have HB7:=AA hb7;clear hout hb7 HEn;have HD0:Hid (TN N.F h2 N.nd (((T.take 0).map (·-t.length)).flatMap (N.F.all h2)) w7 [] none 0 w7):=⟨AW _ _,by simp,by simp,Aw _ _ _ _⟩;go_wp2;go_loopw [9,80] (λv x wr=>∃(k:Nat) (es:List Nd) (A:Option Ai) (c:Nat),k<=G.length/\es.length<=k*1000/\x= .int .i64 k/\v= .slice A es.length c/\Hid (TN N.F h2 N.nd (((T.take k).map (·-t.length)).flatMap (N.F.all h2)) w7 es A c wr)) (λ_ x _=>G.length-(Aa x).toNat)
 .exact⟨0,[],none,0,by omega,by simp,rfl,rfl,HD0.o⟩
 obtain⟨k,es,A9,ca9,hk,hel,rfl,rfl,hD⟩:=hrel;clear HD0;have I:=HTl.o;by_cases hlt:k<G.length
 .have hb67:=BT HB7.o hD.o.below;obtain⟨a10,c10,ha10,-,hr10⟩:=B6.own (BB HTW6.o (λb _ h=>hb67.block b h));cases ha10
  obtain⟨b,q,rfl,hbB,hc⟩:=hr10.at_ (by rw[AM];omega);have g1:=hc k (by rw[AM];omega);rw[A5 (by omega)]at g1;have R:T.take (k+1)=T.take k++[T[k]'(by omega)]:=AF (by omega);have H:=HTlt.o (T[k]'(by omega)) (AD _);have hyg:=HTge.o (T[k]'(by omega)) (AD _);obtain⟨y,hy⟩:∃y,y=T[k]'(by omega):=⟨_,rfl⟩;rw[<-hy]at g1 R H hyg;have hyM:y-t.length<M:=by rw[HM.o];omega
  have hMd:=HMd.o;have X:y-t.length<N.N:=AR hyM hMd;have hbe:r y=bl6 (y-t.length):=by
   rw[HA6.o.old _ (by rw[HSN.o];exact hyM),Hbl2.o];show r y=r (t.length+(y-t.length));rw[show t.length+(y-t.length)=y by omega]
  rw[hbe]at g1;have hal2:=FB s.o.ok2 (n:=N.N) (λi h=>h) X;have hn2:=s.o.n2;have HDt:=AA (Tr s.o.ok2 (λi hi=>(s.o.nd2 i hi).1) X (HA6.o.prog.kept hb67) (by omega));have HLk:Hid (((T.take (k+1)).map (·-t.length)).flatMap (N.F.all h2)=((T.take k).map (·-t.length)).flatMap (N.F.all h2)++N.F.all h2 (y-t.length)):=by
   rw[Hid,R,B3,C9,List.map_singleton,List.flatMap_singleton]
  have P:(N.F.all h2 (y-t.length)).length<=1000:=by omega
  have HYal:=AA P;obtain⟨py,hpy⟩:∃py,py=bl6 (y-t.length):=⟨_,rfl⟩;rw[<-hpy]at g1 HDt;have hnl':G.length<=200:=hnl.o;clear hc hr10 hy H hyg R hb67 hyM hMd X hbe hal2 hn2 hpy P;go_wp2_with fail;refine HDt.o.mono ?_;rintro e w8 ⟨es2,a11,c11,rfl,hst,hoe,hrow2,hb8⟩;have hes2:es2.length<=1000:=by
   have:=congrArg Dw hst;rw[Aq,Aq]at this;have:=HYal.o;omega
  have HR8:=AA (BB hD.o.row (λb _ h=>hb8.block b h));have HRd:=AA (Sl hrow2);have F:w7.heap.size<=w8.heap.size:=AH hD.o.below.size hb8.size;have HSt:=AA hst;have HOe:=AA hoe;have HB8:=AA hb8;clear hst hoe hrow2 hb8;go_wp2_with(at_builtin;refine Da rfl (.tmp 84) (.tmp 86) rfl w7.heap.size (.slice A9 es.length ca9) es rfl HR8.o a11 es2.length c11 es2 rfl rfl HRd.o (by omega) F ?_);intro a12 c12 w9 U u _;rw[<-AN]at U;have HD9:=AA (hD.o.next HB8.o HSt.o HOe.o u U);clear U u;go_wp2;go_roundw
  .exact⟨k+1,es++es2,a12,c12,by omega,by rw[AN];omega,by go_num,by rw[AN],by rw[HLk.o];exact HD9.o⟩
  simp[Aa];omega
 have e:k=G.length:=by omega
 subst e;rw[BP (Nat.le_of_eq I)]at hD;have hnl':G.length<=200:=hnl.o;have HFin:Hid (TK t G d1 N h1 h2 w (.returned (.tuple #[.slice a8 m8 c8,.slice A9 es.length ca9,.bool true])) wr):=by
  refine⟨_,_,_,_,_,_,rfl,?_,⟨es,rfl,KP hD.o.row (by unfold maxLen;omega) (Tu hD.o.str (λy hy=> ?_) hD.o.own),?_⟩,HB6.o.trans ((BT HB7.o hD.o.below).mono HB6.o.size)⟩
  .obtain⟨⟨ds,e1,e2,e3⟩,-⟩:=HOut.o;exact⟨ds,e1,e2.up hD.o.below,e3⟩
  .obtain⟨c,hc,hy2⟩:=C1.1 hy;obtain⟨z,hz,e⟩:=BL.1 hc;have hzl:=HTlt.o z hz;have hMd:=HMd.o;have hzg:=HTge.o z hz;have hcd:c<N.N:=AR (show c<M by rw[HM.o];omega) hMd;have X:=s.o.ok2.Y5 hcd hy2;exact⟨(s.o.nd2 y X).2,AH (FB s.o.ok2 (λi h=>h) X) (AH s.o.n2 (by decide))⟩
  rw[hD.o.str,<-HT.o,List.map_flatMap];rfl
 go_wp2_with fail;go_ret3;exact HFin.o
theorem Yn(r:CQ t)(h:Gp w B a t)(o:i<t.length):Bd 0 (ND t i):=by
 have e:ND t i=t[i]:=by unfold ND;exact Do o
 have s:=Uc r o;have c:=(h.2.1 _ (AD o)).ndb;rw[e]at s|-;have l:P9 t[i].attrs:=by
  rcases(r.node i o).kinds with⟨q,-⟩|⟨q,-,-⟩|⟨-,q⟩|⟨q,-⟩;all_goals first
   |exact q
   |(have u:=(s.tag (by omega)).2
     rw[u];exact⟨by simp,λi j _ h=>absurd h (Nat.not_lt_zero _)⟩)
 refine⟨c,s,l.len,λa m=>by have:=r.vals i o a m;omega,?_⟩;unfold Bp;rw[List.nodup_iff_pairwise_ne,List.pairwise_iff_getElem];intro x y hx n d e2;rw[Aq]at hx n;refine l.once x y d n ?_;unfold LS;rw[Ae,Ae,AK hx,AK n];rw[BD,BD,ByteArray.toList_eq,ByteArray.toList_eq]at e2;have p:t[i].attrs[x].key=t[i].attrs[y].key:=by
  have:=Array.toList_inj.1 e2;cases g:t[i].attrs[x].key;cases f:t[i].attrs[y].key
  rw[g,f]at this;exact congrArg _ this
 simpa using p
def TR(t:List Nd)(l:List Dh)(F:Fo)(S:Nat->Prop)(h:Nat->Nat)(nd:Nat->Nd):Prop:=
 ∃s:bY,GZ t.length (EJ t) l s/\F=s.F/\nd=s.nd/\F.Ok (λi=>i<s.N) h/\Df t.length s/\∀i,i<s.N->Bd l.length (s.nd i)
theorem Uh{e size:Nat}{xs:List AS}(h:w.ownsRow B e size (.slice a n c) n xs):n<=c:=by
 rcases h.2 with⟨t,_⟩|⟨s,cap,i,t,_,_,o,_⟩
 .cases t;exact AG _
 cases t;exact o
def J4(t:List Nd)(Good:Fo->(Nat->Prop)->(Nat->Nat)->(Nat->Nd)->Prop)(w:AB)(e:Bx)(w':AB):Prop:=
 ∃a m c i o c2 b,e= .returned (.tuple #[.slice a m c,.slice i o c2,.bool b])/\(b=true->CQ t/\m<=c/\∃F S h nd,Good F S h nd/\Xn F h nd t.length a m i o w')/\AL w.heap.size w w'
theorem KS.kf{a n:Nat}(t:KS r g a n s O w)(d:Df r s)(u:∀i,i<s.N->Bd k (s.nd i))(o:s.F.Ok (λi=>i<s.N) h)(l:(s.F.all h 0).length<=100000):KF r g a n s.F (λi=>i<s.N) h s.nd O s.op w:=
 ⟨o,t.kno,λi e=>(u i e).ndb,λi e=>AR e d.le,⟨_,t.fst⟩,t.row,l⟩
theorem KC(ad:Option Ai)(c:Nat)(t:List Nd)(hf:GD t=true)(w:AB)(h:Gp w w.heap.size ad t)(al:Option Ai)(cl:Nat)(l:List Dh)(hl:l.length<=4)(hS:On w w.heap.size al l)(hF:∀x∈l,x.Zz):
 AX AC 9 #[.slice ad t.length c,.slice al l.length cl] w (J4 t (TR t l) w):=by
 have HH:=AA h;have HSt:=AA hS;have HFw:=AA hF;clear h hS hF;go_enter func9,ntmps9;go_wp2_with fail;refine(Nr _ _ t _ HH.o hf).mono ?_;rintro e R ⟨b,rfl,hR,hb1⟩;have Y:=AA hb1;have HR0:=AA hR;clear hb1 hR;cases b
 .go_wp2_with fail;go_ret3;exact⟨_,_,_,_,_,_,false,rfl,by simp,Y.o⟩
 have HR:=AA (HR0.o rfl);have hle:=HR.o.le;have N:=HR.o.pos;clear HR0;go_wp2_with fail;refine(Qf _ _ t HR.o _ (HH.o.up Y.o)).mono ?_;rintro e w2 ⟨rfl,kb,g,fc,hK,Z,J,hb2⟩;have hKS:KS t.length g fc R.heap.size (EJ t) kb w2:=by
  refine⟨⟨λi V=> ?_,hK.inj⟩,Z,J⟩;obtain⟨hB,aa,ac,ka,kc,h1,h2,h3⟩:=hK.node i V;refine⟨hB,aa,ac,ka,kc,?_,h2,h3⟩;have e:(if i<t.length then(i:Int)else-1)=(i:Int):=AJ V;show w2.heap[kb i]? =some (.cells (Eo kb _ _ (if i<t.length then(i:Int)else-1) aa ac _ ka kc) _ _);rw[e];exact h1
 have HB2:=AA (BT Y.o hb2);have HK0:=AA hKS;have M:=AA Y.o.size;have HFb:Hid (R.heap.size<=w2.heap.size):=hb2.size;have HN0:Hid (∀i,i<(EJ t).N->Bd 0 ((EJ t).nd i)):=λi V=>Yn HR.o HH.o V;clear hK Z J hb2 hKS;go_wp2;go_loopw [8] (λx wr=>∃k:Nat,k<=l.length/\x= .int .i64 k/\∃s kb,Hid (GZ t.length (EJ t) (l.take k) s)/\Hid (KS t.length g fc R.heap.size s kb wr)/\Hid (Df t.length s)/\Hid (∀i,i<s.N->Bd k (s.nd i))/\Hid (AL w.heap.size w wr)/\Hid (R.heap.size<=wr.heap.size)) (λx _=>l.length-(Aa x).toNat)
 .exact⟨0,by omega,rfl,EJ t,kb,.nil _,HK0.o,Wp HR.o,HN0.o,HB2.o,HFb.o⟩
 obtain⟨k,hk,rfl,s,kb2,HRs,HKs,f,O,F,HWw⟩:=hrel;obtain⟨W,rfl⟩:∃W:AB,W=wr:=⟨_,rfl⟩;by_cases E:k<l.length
 .have hRW:=HSt.o.below (F.o);have T:=hRW.ok _ (AD E);obtain⟨b,o,rfl,hbB,K⟩:∃b o,al=some ⟨b,o,none⟩/\b<w.heap.size/\∀j v,l[k].vv[j]? =some v->W.cell? ⟨b,o+k*6+j,none⟩=some v:=by
   rcases hRW.row with e|⟨b,o,e,h1,h2⟩
   .rw[e]at E;exact absurd E (Nat.not_lt_zero _)
   exact⟨b,o,e,h1,h2 k E⟩
  have L:=HFw.o _ (AD E);have HTk:Hid (l.take (k+1)=l.take k++[l[k]]):=AF E;have hst:=Uz f.o (λi V=>⟨(O.o i V).ndb,by have:=(O.o i V).len;omega,λa ha=>by have:=(O.o i V).val a ha;omega⟩) HKs.o HWw.o l[k] ⟨T.on.more M.o,T.wi.more M.o,T.nm.more M.o,T.cap,T.onl,T.wil⟩ L;obtain⟨⟨op,oa,on,oc,wa,wi,wc,ky,vl,la,nm,lc⟩,hx⟩:∃x,x=l[k]:=⟨_,rfl⟩;rw[<-hx]at K L hst HTk;have g0:W.cell? ⟨b,o+k*6,none⟩=some (.int .i64 op):=K 0 _ rfl;have g1:W.cell? ⟨b,o+k*6+1,none⟩=some (.slice oa on.length oc):=K 1 _ rfl;have g2:W.cell? ⟨b,o+k*6+2,none⟩=some (.slice wa wi.length wc):=K 2 _ rfl;have g3:W.cell? ⟨b,o+k*6+3,none⟩=some (.string ky):=K 3 _ rfl;have g4:W.cell? ⟨b,o+k*6+4,none⟩=some (.string vl):=K 4 _ rfl;have g5:W.cell? ⟨b,o+k*6+5,none⟩=some (.slice la nm.length lc):=K 5 _ rfl;have HSt1:=AA hst;have Hfw:=AA L;clear K hx hst L T hRW;go_wp2_with fail;refine HSt1.o.mono ?_;rintro e w3 ⟨b3,rfl,Q,hb3⟩;have HB3:Hid (AL w.heap.size w w3):=F.o.trans (hb3.mono M.o);have HW3:Hid (R.heap.size<=w3.heap.size):=AH HWw.o hb3.size;have HY:=AA Q;clear hb3 Q g0 g1 g2 g3 g4 g5;cases b3
  .go_wp2_with fail;go_ret3;exact⟨_,_,_,_,_,_,false,rfl,by simp,HB3.o⟩
  obtain⟨xs,ws,s2,kb3,y1,y2,y3,y4,y5⟩:=HY.o rfl;have f2:w3.cell? ⟨R.heap.size,2,none⟩=some (.bool s2.op):=by rw[AZ w3 _ 2 _ _ _ y5.fst];rfl
  have C:=AA y1;have HY2:=AA y2;have U:=AA y3;have HY4:=AA y4;have HY5:=AA y5;obtain⟨op2,S⟩:∃o2,o2=s2.op:=⟨_,rfl⟩;rw[<-S]at f2;clear y1 y2 y3 y4 y5 HY;have Hop:=AA S;clear S;cases op2
  .go_wp2;go_roundw
   .have x1:∀x∈xs,x<t.length:=λx hx=>(C.o.rng x hx).2;have x2:∀x∈ws,x<t.length:=λx hx=>(U.o.rng x hx).2;obtain⟨z1,z2,-⟩:=HY4.o.fst f.o x1 x2 C.o.nodup U.o.nodup HY2.o Hop.o.symm;refine⟨k+1,E,by go_num,s2,kb3,?_,HY5.o,z1,HY4.o.bd f.o x1 x2 C.o.nodup U.o.nodup HY2.o Hfw.o Hop.o.symm O.o (by omega),HB3.o,HW3.o⟩;rw[HTk.o];exact HRs.o.snoc xs ws f.o C.o HY2.o U.o HY4.o Hop.o.symm
   simp[Aa];omega
  go_wp2_with fail;go_ret3;exact⟨_,_,_,_,_,_,false,rfl,by simp,HB3.o⟩
 have ek:k=l.length:=by omega
 subst ek;rw[AU]at HRs;have hmk:=run_make_row' (P:=AC) 23 3 (.int .i64 0) 8 underlying23 Tryz.Zl rfl .i64 .i64 t.length (by omega) (by omega);have HKF:Hid (∃h,KF t.length g fc R.heap.size s.F (λi=>i<s.N) h s.nd kb2 false W/\TR t l s.F (λi=>i<s.N) h s.nd):=by
  obtain⟨d,o⟩:=f.o.ok;obtain⟨o2,-⟩:=MX o;obtain⟨-,hl2⟩:=MX o2;have hle2:=f.o.le;have hfew:=f.o.few;have:=hl2 0 (by omega);have q:=HKs.o.kf f.o O.o o2 (by omega);rw[f.o.op]at q;exact⟨_,q,s,HRs.o,rfl,rfl,o2,f.o,O.o⟩
 go_wp2_with fail;obtain⟨h,r,H⟩:=HKF.o;have HKF:=AA r;have HGd:=AA H;clear r H;obtain⟨u,rfl⟩:∃u:AB,u=W:=⟨_,rfl⟩;have HA0:Hid (Fa u.heap.size t.length (λj=>if j<0 then-1 else 0) (u.alloc (Obj.cells (DG #[Value.int IntKind.i64 0] t.length) 3))):=by
  refine⟨_,Ah _ _,by simp[size_madeCells],λj hj=> ?_⟩;show _=some (Value.int .i64 (if j<0 then-1 else 0));rw[AI (by omega)];exact UQ _ _ _ hj
 have HBA:Hid (AL u.heap.size u (u.alloc (Obj.cells (DG #[Value.int IntKind.i64 0] t.length) 3))):=Ac;have HSA:(u.alloc (Obj.cells (DG #[Value.int IntKind.i64 0] t.length) 3)).heap.size=u.heap.size+1:=by show(Array.push _ _).size=_;rw[Array.size_push]
 have HSA2:=AA HSA;clear HSA hmk;go_loopw [10] (λx W=>∃j:Nat,j<=t.length/\x= .int .i64 j/\Hid (AL u.heap.size u W)/\Hid (W.heap.size=u.heap.size+1)/\Hid (Fa u.heap.size t.length (λk=>if k<j then-1 else 0) W)) (λx _=>t.length-(Aa x).toNat)
 .exact⟨0,by omega,rfl,HBA,HSA2,HA0⟩
 obtain⟨j,hj,rfl,HBj,HSj,G⟩:=hrel;by_cases hjn:j<t.length
 .obtain⟨cur,I,hc2,A⟩:=G.o;have hcell:wr.cell? ⟨u.heap.size,j,none⟩=some (.int .i64 0):=by
   rw[AZ wr _ j _ _ _ I,A j hjn];show some (Value.int .i64 (if j<j then-1 else 0))=_;rw[AI (by omega)]
  have hfz:=A7 wr u.heap.size j _ _ I;clear I hc2 A;go_wp2;go_roundw
  .refine⟨j+1,by omega,rfl,HBj.o.setCell (p:=⟨u.heap.size,j,none⟩) (AG _) _,?_,?_⟩
   .have h5:(wr.setCell ⟨u.heap.size,j,none⟩ (.int .i64 (-1))).heap.size=u.heap.size+1:=by have:=HSj.o;simpa [World.setCell]using this
    exact h5
   obtain⟨cur,I,hc2,A⟩:=G.o;refine⟨cur.setIfInBounds j (.int .i64 (-1)),Ao wr _ j _ _ _ I,by simpa using hc2,λk hk=> ?_⟩;by_cases e:k=j
   .subst e;show _=some (Value.int .i64 (if k<k+1 then-1 else 0));rw[AJ (by omega)];simp[show k<cur.size by omega]
   rw[Array.getElem?_setIfInBounds_ne (Ne.symm e),A k hk];show some (Value.int .i64 (if k<j then-1 else 0))=some (Value.int .i64 (if k<j+1 then-1 else 0));by_cases hkj:k<j
   .rw[AJ hkj,AJ (by omega)]
   rw[AI hkj,AI (by omega)]
  simp[Aa];omega
 have ej:j=t.length:=by omega
 subst ej;obtain⟨W1,rfl⟩:∃W1:AB,W1=wr:=⟨_,rfl⟩;have r:=HKF.o.up HBj.o;obtain⟨D,hkd,hke⟩:=r.kno.data;obtain⟨many,hm⟩:=r.fst;have HKe:=AA hke;have z:=AA r;have HKD:=AA hkd;have f0:W1.cell? ⟨R.heap.size,0,none⟩=some (.slice (some ⟨g,0,none⟩) t.length fc):=by rw[AZ W1 _ 0 _ _ _ hm];rfl
 have f1:=r.elem N;have HLi:=AA (Qi r.ok t.length u.heap.size (λi _=>rfl) (by omega) (h 0+1) 0 (.slice none 0 0) [] _ W1 (by omega) (r.sub 0 N) hkd (Nat.le_of_lt (AE.1 hm).1) ⟨by simp[B7],.inl ⟨rfl,rfl⟩⟩ G.o (by have:=r.len;simpa using this) ⟨_,_,rfl⟩);clear r hkd hke hm;have HF:Hid (∀e W2,Fc s.F h D t.length R.heap.size u.heap.size 0 [] (λk=>if k<t.length then-1 else 0) (.slice none 0 0) W1 e W2->∃a m c,e= .returned (.slice a m c)/\J4 t (TR t l) w (.returned (.tuple #[.slice a m c,.slice (some ⟨u.heap.size,0,none⟩) t.length t.length,.bool true])) W2):=by
  rintro e W2 ⟨a',c',rfl,X,_,hA,hl⟩;refine⟨_,_,_,rfl,_,_,_,_,_,_,_,rfl,λ_=>⟨HR.o,Uh X,s.F,(λi=>i<s.N),h,s.nd,HGd.o,?_,rfl,?_⟩,?_⟩
  .have o:=z.o.ok;have hS:∀y,y∈s.F.all h 0->y<s.N:=λy B=>o.Y5 (z.o.sub 0 N) B;refine⟨(s.F.all h 0).map (D9 s.F h D),by simp,KP (by simpa using X) ?_ ?_,?_⟩
   .have:=z.o.len;simp[maxLen];omega
   .intro x hx;obtain⟨y,B,rfl⟩:=BL.1 hx;obtain⟨aa,ac,e⟩:=HKe.o y (hS y B);have b:=z.o.ndb y (hS y B);obtain⟨cur3,A,_⟩:=G.o;obtain⟨_,_,_,_,hA,_⟩:=(HKD.o.ZI (v:= .slice none 0 0) (n:=0) (xs:=[]) hl ⟨by simp,.inl ⟨rfl,rfl⟩⟩ A).node y (hS y B);have hal:(s.F.all h y).length<=100000:=AH (LK o _ (AG _) B) z.o.len;have hat:JZ W2 W2.heap.size (D y).aa (D y).attrs:=ML hA (by rw[e];exact b.len) (by rw[e];exact b.ats);refine⟨?_,⟨?_,?_⟩,?_,?_,hat⟩
    .show _<=(D y).kind/\(D y).kind<=_;rw[e];exact b.kind
    .show _<=((s.F.all h y).length:Int);omega
    .show((s.F.all h y).length:Int)<=_;omega
    .show(D y).tag.size<=_;rw[e];exact b.tag
    show(D y).text.size<=_;rw[e];exact b.text
   unfold IQ;rw[DI];refine Ay λy B=> ?_;obtain⟨aa,ac,e⟩:=HKe.o y (hS y B);show Cj {D y with size:=_}=_;rw[e];rfl
  .have e1:=SB hA;have e2:(BV t.length).map (J2 (s.F.all h 0) ([]:List Nd).length (λk=>if k<t.length then-1 else 0))=K5 s.F h t.length:=by
    unfold K5;refine Ay λj hj=> ?_;unfold J2;have e4:(λk=>if k<t.length then(-1:Int)else 0) j= -1:=AJ (List.mem_range.1 hj);rw[e4];rfl
   rw[e2]at e1;exact e1
  have hb:=BT F.o HBj.o;refine⟨hl.os.trans hb.os,hl.tape.trans hb.tape,hl.output.trans hb.output,AH hb.size hl.size,λb h1=> ?_⟩;have:=F.o.size;rw[hl.block b (by have:=hb.size;omega) (by simp[A6]) (by omega)];exact hb.block b h1
 go_wp2_with fail;refine HLi.o.mono ?_;intro e W2 hp;obtain⟨a',m',c',rfl,hP⟩:=HF.o e W2 hp;have HP:=AA hP;clear hp hP;go_wp2_with fail;go_ret3;exact HP.o
structure VM(l m:List At2):Prop where
 other:∀a∈l,a.key.toList≠C4.toList->∃b,CF m a.key=some b/\b.val=a.val
 cls:∀a∈l,a.key.toList=C4.toList->∀v∈BG a.val.data.toList,v∈BG (Cq m).data.toList
theorem Ld(x y:Nd)(F:VM x.attrs y.attrs)(hl:x.attrs.length<=1000)(hly:y.attrs.length<=1000)(m:∀a∈x.attrs,a.val.size<=50000000)(Y:∀a∈y.attrs,a.val.size<=50000000)(w:AB)(hx:JZ w w.heap.size x.aa x.attrs)(hy:JZ w w.heap.size y.aa y.attrs):
 AX AC 29 #[.agg #[.int .i64 x.kind,.string x.tag,.string x.text,.slice x.aa x.attrs.length x.ac,.int .i64 x.size],.agg #[.int .i64 y.kind,.string y.tag,.string y.text,.slice y.aa y.attrs.length y.ac,.int .i64 y.size]] w (λe w'=>e= .returned (.bool true)/\AL w.heap.size w w'):=by
 have HX:=AA hx;have HY:=AA hy;have et:=AA F;have HV:=AA m;have HCy:Hid ((Cq y.attrs).data.toList.length<=50000000):=Kt Y;obtain⟨r,h⟩:∃r,r=(w.alloc (.cells (QJ x) 41)).alloc (.cells (QJ y) 41):=⟨_,rfl⟩;have hs0:w.heap.size+2<=r.heap.size:=by rw[h,BX,BX];omega
 have Q:AL w.heap.size w r:=by rw[h];exact((AW _ _).alloc (AG _) _).alloc (by rw[BX];omega) _
 have HB0:=AA Q;have HQ:Hid (∀W,AL r.heap.size r W->W.cell? ⟨w.heap.size,3,none⟩=some (.slice x.aa x.attrs.length x.ac)/\W.cell? ⟨w.heap.size+1,0,none⟩=some (.int .i64 y.kind)/\W.cell? ⟨w.heap.size+1,1,none⟩=some (.string y.tag)/\W.cell? ⟨w.heap.size+1,2,none⟩=some (.string y.text)/\W.cell? ⟨w.heap.size+1,3,none⟩=some (.slice y.aa y.attrs.length y.ac)/\W.cell? ⟨w.heap.size+1,4,none⟩=some (.int .i64 y.size)):=by
  intro W T;have q0:W.heap[w.heap.size]? =some (.cells (QJ x) 41 (0,0)):=by
   rw[T.block _ (by omega),h,B5 _ _ _ (by rw[BX];omega)];exact Ah w _
  have q1:W.heap[w.heap.size+1]? =some (.cells (QJ y) 41 (0,0)):=by
   rw[T.block _ (by omega),h];have:=Ah (w.alloc (.cells (QJ x) 41)) (.cells (QJ y) 41)
   rwa [BX]at this
  refine⟨?_,?_,?_,?_,?_,?_⟩
  .rw[AZ W _ _ _ _ _ q0];rfl
  all_goals (rw[AZ W _ _ _ _ _ q1];rfl)
 clear hx hy F m Y Q;go_enter func29,ntmps29;go_wp2_with fail;simp only[QJ]at h;rw[<-h];clear h;go_loopw [5] (λv wr=>∃i:Nat,i<=x.attrs.length/\v= .int .i64 i/\AL r.heap.size r wr) (λv _=>x.attrs.length-(Aa v).toNat)
 .exact⟨0,AY _,rfl,AW _ _⟩
 obtain⟨i,hi,rfl,T⟩:=hrel;obtain⟨wi,rfl⟩:∃wi:AB,wi=wr:=⟨_,rfl⟩;obtain⟨q3,r0,r1,r2,r3,r4⟩:=HQ.o wi T;have HB:=AA T;have E:=AA (HB0.o.trans (T.mono (by omega)));have hw0:r.heap.size<=wi.heap.size:=HB.o.size;have hwi:w.heap.size+2<=wi.heap.size:=AH hs0 T.size;clear T;by_cases s:i<x.attrs.length
 .have ee:=(HX.o.below E.o).more E.o.size;obtain⟨b,o,J,hbB,hc⟩:=ee.2.2.resolve_left (λh0=>by rw[h0]at s;simp at s);obtain⟨g1,g2⟩:=hc i s;rw[Ae,AK s,BE]at g1 g2;have HF:Hid (x.attrs[i].key.toList≠C4.toList->∃b,CF y.attrs x.attrs[i].key=some b/\b.val=x.attrs[i].val):=et.o.other _ (AD s);have p:Hid (x.attrs[i].key.toList=C4.toList->∀v∈BG x.attrs[i].val.data.toList,v∈BG (Cq y.attrs).data.toList):=et.o.cls _ (AD s);have es:=HV.o x.attrs[i] (AD s);obtain⟨z,hz⟩:∃z,z=x.attrs[i]:=⟨_,rfl⟩;rw[<-hz]at g1 g2 HF p es;rw[J]at q3;have d:AL wi.heap.size wi (wi.alloc (.cells #[.string z.key,.string z.val] 49)):=Ac;have ei:=AA d;have en:Hid (∀k,AX AC 53 #[.agg #[.int .i64 y.kind,.string y.tag,.string y.text,.slice y.aa y.attrs.length y.ac,.int .i64 y.size],.string k] (wi.alloc (.cells #[.string z.key,.string z.val] 49)) (L_ y.attrs k (wi.alloc (.cells #[.string z.key,.string z.val] 49)))):=λk=>
   KB y k _ ((HY.o.below (E.o.trans (d.mono (by omega)))).more (by have:=d.size;omega)) (by omega)
  have HZ:Hid (∀W,AL (wi.heap.size+1) (wi.alloc (.cells #[.string z.key,.string z.val] 49)) W->W.cell? ⟨wi.heap.size,0,none⟩=some (.string z.key)/\W.cell? ⟨wi.heap.size,1,none⟩=some (.string z.val)):=λW hW=>by
   have q:W.heap[wi.heap.size]? =some (.cells #[.string z.key,.string z.val] 49 (0,0)):=by rw[hW.block _ (by omega)];exact Ah _ _
   exact⟨Aj q,Aj q⟩
  obtain⟨-,p0,p1,p2,p3,p4⟩:=HQ.o _ (HB.o.trans (d.mono (by omega)));clear hc ee hz J d r0 r1 r2 r3 r4;cases he:(z.key.toList==([99,108,97,115,115]:List UInt8))
  .have B:z.key.toList≠C4.toList:=by
    rw[CY]at he;intro e2;apply he;rw[e2,Q7];rfl
   obtain⟨zb,M,C⟩:=HF.o B;have HZb:=AA M;have HZv:=AA C;clear M C B HF p;go_wp2_with fail;refine(en.o z.key).mono ?_;rintro e f ⟨L,t⟩;rw[HZb.o]at L;obtain rfl:=L;rw[HZv.o];rw[BX]at t;obtain⟨y0,y1⟩:=HZ.o f t;have R:=AA t;clear t;go_wp2;go_roundw
   .exact⟨i+1,by omega,by go_num,HB.o.trans ((ei.o.mono (by omega)).trans (R.o.mono (by omega)))⟩
   simp[Aa];omega
  have V:z.key.toList=C4.toList:=by
   rw[beq_iff_eq]at he;rw[he,Q7];rfl
  have HSub:=AA (p.o V);have HAc:Hid (∀e f,L_ y.attrs ⟨#[99,108,97,115,115]⟩ (wi.alloc (.cells #[.string z.key,.string z.val] 49)) e f->∃bb,e= .returned (.tuple #[.string (Cq y.attrs),.bool bb])/\AL (wi.alloc (.cells #[.string z.key,.string z.val] 49)).heap.size (wi.alloc (.cells #[.string z.key,.string z.val] 49)) f):=by
   rintro e f ⟨h1,h2⟩;unfold Cq C4;cases hq:CF y.attrs ⟨#[99,108,97,115,115]⟩with
   |none=>rw[hq]at h1;exact⟨_,h1,h2⟩
   |some q=>rw[hq]at h1;exact⟨_,h1,h2⟩
  clear V HF p;go_wp2_with fail;refine(en.o _).mono ?_;intro e f L;obtain⟨bb,rfl,t⟩:=HAc.o _ _ L;have N:=HCy.o;obtain⟨n,I⟩:∃n,n=Cq y.attrs:=⟨_,rfl⟩;rw[<-I]at N HSub;have hc9s:n.size<=50000000:=N;clear L N;rw[<-I];clear I;rw[BX]at t;obtain⟨y0,y1⟩:=HZ.o f t;have hW3:wi.heap.size+1<=f.heap.size:=by have:=t.size;rw[BX]at this;exact this
  have R:=AA t;clear t p0 p1 p2 p3 p4;go_wp2_with fail;refine(IY z.val (by omega) f).mono ?_;rintro e w4 ⟨a4,c4,rfl,c,S⟩;have eo:=AA c;have HB4:=AA S;have hw4:=S.size;clear c S y0 y1;go_wp2_with fail;refine(IY n (by omega) w4).mono ?_;rintro e A ⟨a5,c5,rfl,D,l⟩;have ea:=AA D;have HB5:=AA l;have hw5:=l.size;have H:Hid ((BG z.val.data.toList).length<=200000000):=by have h7:=FI z.val.data.toList;have h8:z.val.data.toList.length=z.val.size:=rfl;unfold Hid;omega
  have u:Hid ((BG n.data.toList).length<=200000000):=by have h7:=FI n.data.toList;have h8:n.data.toList.length=n.size:=rfl;unfold Hid;omega
  obtain⟨g,X⟩:∃g,g=BG z.val.data.toList:=⟨_,rfl⟩;obtain⟨U,Z⟩:∃U,U=BG n.data.toList:=⟨_,rfl⟩;rw[<-X]at eo H HSub|-;rw[<-Z]at ea u HSub|-;have hwl:=H.o;have hwl2:=u.o;have P:B6 A A.heap.size a4 (strs g):=by
   obtain⟨_,_,m,_,hr⟩:=B6.own eo.o;cases m;exact hr.up l
  have G:B6 A A.heap.size a5 (strs U):=by
   obtain⟨_,_,m,_,hr⟩:=B6.own ea.o;cases m;exact hr
  have HR4:=AA P;have HIs:=AA (λv=>IJ U (by omega) v a5 c5 A G);have eh:Hid (AL r.heap.size r A):=HB.o.trans ((ei.o.mono hw0).trans ((R.o.mono (by omega)).trans ((HB4.o.mono (by omega)).trans (l.mono (by omega)))));clear P G l X Z H u;go_wp2;go_loopw [11] (λv wr=>∃j:Nat,j<=g.length/\v= .int .i64 j/\wr=A) (λv _=>g.length-(Aa v).toNat)
  .exact⟨0,AY _,rfl,rfl⟩
  obtain⟨j,hj,rfl,rfl⟩:=hrel;by_cases O:j<g.length
  .obtain⟨bq,oq,rfl,_,K⟩:=HR4.o.at_ (by rw[Cz];omega);have gq:=K j (by rw[Cz];exact O);rw[JU O]at gq;have HIn:Hid (decide (g[j]∈U)=true):=by rw[Hid,decide_eq_true_eq];exact HSub.o _ (AD O)
   obtain⟨v,m⟩:∃v:ByteArray,v=⟨g[j].toArray⟩:=⟨_,rfl⟩;have HV2:Hid (v.data.toList=g[j]):=by rw[Hid,m]
   rw[<-m]at gq;clear m K;go_wp2_with fail;refine(HIs.o v).mono ?_;rintro e w6 ⟨rfl,rfl⟩;rw[HV2.o,HIn.o];go_wp2;go_roundw
   .exact⟨j+1,by omega,by go_num,by trivial⟩
   simp[Aa];omega
  go_wp2;go_roundw
  .exact⟨i+1,by omega,by go_num,eh.o⟩
  simp[Aa];omega
 go_wp2;go_ret;exact⟨rfl,E.o⟩
structure TJ(x y:Nd):Prop where
 kind:y.kind=x.kind
 tag:y.tag=x.tag
 text:y.text=x.text
 size:y.size=x.size
 l1:VM x.attrs y.attrs
 l2:VM y.attrs x.attrs
 f1:x.attrs.length<=1000
 f2:y.attrs.length<=1000
 v1:∀a∈x.attrs,a.val.size<=50000000
 v2:∀a∈y.attrs,a.val.size<=50000000
theorem MH(A Bs:List Nd)(u:Bs.length=A.length)(h:∀i (h1:i<A.length) (h2:i<Bs.length),TJ A[i] Bs[i])(hl:A.length<=100000)(a:Option Ai)(c:Nat)(a2:Option Ai)(c2:Nat)(w:AB)(h1:Gp w w.heap.size a A)(h2:Gp w w.heap.size a2 Bs):
 AX AC 14 #[.slice a A.length c,.slice a2 Bs.length c2] w (λe w'=>e= .returned (.bool true)/\AL w.heap.size w w'):=by
 rw[u];have H1:=AA h1;have H2:=AA h2;have HS:=AA h;have HLn:=AA u;clear h1 h2 h u;go_enter func14,ntmps14;go_wp2;go_loopw [5] (λv wr=>∃i:Nat,i<=A.length/\v= .int .i64 i/\AL w.heap.size w wr) (λv _=>A.length-(Aa v).toNat)
 .exact⟨0,AY _,rfl,AW _ _⟩
 obtain⟨i,hi,rfl,l⟩:=hrel;obtain⟨wi,rfl⟩:∃wi:AB,wi=wr:=⟨_,rfl⟩;have HB:=AA l;by_cases hlt:i<A.length
 .have D:i<Bs.length:=by rw[HLn.o];exact hlt
  obtain⟨o,o1,rfl,hbB1,hc1⟩:=H1.o.at_ (by omega);obtain⟨t,o2,rfl,hbB2,hc2⟩:=H2.o.at_ (by omega);have p1:∀{j v},w.cell? ⟨o,j,none⟩=some v->wi.cell? ⟨o,j,none⟩=some v:=λh=>(l.cell (p:=⟨o,_,none⟩) hbB1).trans h;have p2:∀{j v},w.cell? ⟨t,j,none⟩=some v->wi.cell? ⟨t,j,none⟩=some v:=λh=>(l.cell (p:=⟨t,_,none⟩) hbB2).trans h;obtain⟨g1,g2,g3,g4,g5,d⟩:=hc1 i hlt;obtain⟨k1,k2,k3,k4,k5,r⟩:=hc2 i D;have s:=HS.o i hlt D;obtain⟨x,hx⟩:∃x,x=A[i]:=⟨_,rfl⟩;obtain⟨y,hy⟩:∃y,y=Bs[i]:=⟨_,rfl⟩;rw[<-hx]at g1 g2 g3 g4 g5 d s;rw[<-hy]at k1 k2 k3 k4 k5 r s;have e1:=s.kind;have e2:=s.tag;have e3:=s.text;have e5:=s.size;have HX:=AA (d.attrs.below l);have HY:=AA (r.attrs.below l);have HA:Hid (∀W,AL wi.heap.size wi W->AX AC 29 #[.agg #[.int .i64 x.kind,.string x.tag,.string x.text,.slice x.aa x.attrs.length x.ac,.int .i64 x.size],.agg #[.int .i64 x.kind,.string x.tag,.string x.text,.slice y.aa y.attrs.length y.ac,.int .i64 x.size]] W (λe w'=>e= .returned (.bool true)/\AL W.heap.size W w')):=λW hW=>by
   have n:=l.trans (hW.mono l.size);have:=Ld x y s.l1 s.f1 s.f2 s.v1 s.v2 W ((d.attrs.below n).more n.size) ((r.attrs.below n).more n.size);rw[e1,e2,e3,e5]at this;exact this
  have HA2:Hid (∀W,AL wi.heap.size wi W->AX AC 29 #[.agg #[.int .i64 x.kind,.string x.tag,.string x.text,.slice y.aa y.attrs.length y.ac,.int .i64 x.size],.agg #[.int .i64 x.kind,.string x.tag,.string x.text,.slice x.aa x.attrs.length x.ac,.int .i64 x.size]] W (λe w'=>e= .returned (.bool true)/\AL W.heap.size W w')):=λW hW=>by
   have n:=l.trans (hW.mono l.size);have:=Ld y x s.l2 s.f2 s.f1 s.v2 s.v1 W ((r.attrs.below n).more n.size) ((d.attrs.below n).more n.size);rw[e1,e2,e3,e5]at this;exact this
  replace g1:=p1 g1;replace g2:=p1 g2;replace g3:=p1 g3;replace g4:=p1 g4;replace g5:=p1 g5;replace k1:=p2 k1;replace k2:=p2 k2;replace k3:=p2 k3;replace k4:=p2 k4;replace k5:=p2 k5;rw[e1]at k1;rw[e2]at k2;rw[e3]at k3;rw[e5]at k5;have HC:Hid (∀W,AL wi.heap.size wi W->W.cell? ⟨o,o1+i*5,none⟩=some (.int .i64 x.kind)/\W.cell? ⟨o,o1+i*5+1,none⟩=some (.string x.tag)/\W.cell? ⟨o,o1+i*5+2,none⟩=some (.string x.text)/\W.cell? ⟨o,o1+i*5+3,none⟩=some (.slice x.aa x.attrs.length x.ac)/\W.cell? ⟨o,o1+i*5+4,none⟩=some (.int .i64 x.size)/\W.cell? ⟨t,o2+i*5,none⟩=some (.int .i64 x.kind)/\W.cell? ⟨t,o2+i*5+1,none⟩=some (.string x.tag)/\W.cell? ⟨t,o2+i*5+2,none⟩=some (.string x.text)/\W.cell? ⟨t,o2+i*5+3,none⟩=some (.slice y.aa y.attrs.length y.ac)/\W.cell? ⟨t,o2+i*5+4,none⟩=some (.int .i64 x.size)):=λW hW=>by
   have q1:∀{j v},wi.cell? ⟨o,j,none⟩=some v->W.cell? ⟨o,j,none⟩=some v:=λh=>(hW.cell (p:=⟨o,_,none⟩) (by have:=l.size;show o<_;omega)).trans h;have q2:∀{j v},wi.cell? ⟨t,j,none⟩=some v->W.cell? ⟨t,j,none⟩=some v:=λh=>(hW.cell (p:=⟨t,_,none⟩) (by have:=l.size;show t<_;omega)).trans h;exact⟨q1 g1,q1 g2,q1 g3,q1 g4,q1 g5,q2 k1,q2 k2,q2 k3,q2 k4,q2 k5⟩
  clear hc1 hc2 p1 p2 s hx hy e1 e2 e3 e5 d r l;go_wp2_with fail;simp only[List.append_eq,List.cons_append,List.nil_append];refine D' ((λ(_:Array Bool) w'=>w'.cell? ⟨o,o1+i*5,none⟩=some (.int .i64 x.kind)/\w'.cell? ⟨o,o1+i*5+1,none⟩=some (.string x.tag)/\w'.cell? ⟨o,o1+i*5+2,none⟩=some (.string x.text)/\w'.cell? ⟨o,o1+i*5+3,none⟩=some (.slice x.aa x.attrs.length x.ac)/\w'.cell? ⟨o,o1+i*5+4,none⟩=some (.int .i64 x.size)/\w'.cell? ⟨t,o2+i*5,none⟩=some (.int .i64 x.kind)/\w'.cell? ⟨t,o2+i*5+1,none⟩=some (.string x.tag)/\w'.cell? ⟨t,o2+i*5+2,none⟩=some (.string x.text)/\w'.cell? ⟨t,o2+i*5+3,none⟩=some (.slice y.aa y.attrs.length y.ac)/\w'.cell? ⟨t,o2+i*5+4,none⟩=some (.int .i64 x.size))) (by kernel_rfl) ?_;have hG0:(λ(_:Array Bool) w'=>w'.cell? ⟨o,o1+i*5,none⟩=some (.int .i64 x.kind)/\w'.cell? ⟨o,o1+i*5+1,none⟩=some (.string x.tag)/\w'.cell? ⟨o,o1+i*5+2,none⟩=some (.string x.text)/\w'.cell? ⟨o,o1+i*5+3,none⟩=some (.slice x.aa x.attrs.length x.ac)/\w'.cell? ⟨o,o1+i*5+4,none⟩=some (.int .i64 x.size)/\w'.cell? ⟨t,o2+i*5,none⟩=some (.int .i64 x.kind)/\w'.cell? ⟨t,o2+i*5+1,none⟩=some (.string x.tag)/\w'.cell? ⟨t,o2+i*5+2,none⟩=some (.string x.text)/\w'.cell? ⟨t,o2+i*5+3,none⟩=some (.slice y.aa y.attrs.length y.ac)/\w'.cell? ⟨t,o2+i*5+4,none⟩=some (.int .i64 x.size)) (Array.replicate 74 false) wi.drew:=⟨g1,g2,g3,g4,g5,k1,k2,k3,k4,k5⟩;refine FM 0 hG0 λhG1=> ?_;clear hG0;simp only[AQ,List.setIfInBounds_toArray];refine FM 1 hG1 λhG2=> ?_;clear hG1;simp only[AQ];refine FM 2 hG2 λhG3=> ?_;clear hG2;simp only[AQ];refine FM 3 hG3 λhG4=> ?_;clear hG3;simp only[AQ];refine tG 4 10 (λ_ _ h g=>g) hG4 λhG5=> ?_;clear hG4;simp only[AQ];refine FM 5 hG5 λhG6=> ?_;clear hG5;simp only[AQ];refine FM 6 hG6 λhG7=> ?_;clear hG6;simp only[AQ];refine FM 7 hG7 λhG8=> ?_;clear hG7;simp only[AQ];refine FM 8 hG8 λhG9=> ?_;clear hG8;simp only[AQ];refine tG 9 10 (λ_ _ h g=>g) hG9 λeR=> ?_;clear hG9;simp only[AQ];refine FM 10 eR λeH=> ?_;clear eR;simp only[AQ];refine FM 11 eH λeS=> ?_;clear eH;simp only[AQ];refine FM 12 eS λeN=> ?_;clear eS;simp only[AQ];refine FM 13 eN λeI=> ?_;clear eN;simp only[AQ];refine FM 14 eI λeO=> ?_;clear eI;simp only[AQ];refine FM 15 eO λeA=> ?_;clear eO;simp only[AQ];refine tG 16 22 (λ_ _ h g=>g) eA λeT=> ?_;clear eA;simp only[AQ];refine FM 17 eT λeE=> ?_;clear eT;simp only[AQ];refine FM 18 eE λez=> ?_;clear eE;simp only[AQ];refine FM 19 ez λex=> ?_;clear ez;simp only[AQ];refine FM 20 ex λej=> ?_;clear ex;simp only[AQ];refine tG 21 22 (λ_ _ h g=>g) ej λeq=> ?_;clear ej;simp only[AQ];refine FM 22 eq λek=> ?_;clear eq;simp only[AQ];refine FM 23 ek λev=> ?_;clear ek;simp only[AQ];refine FM 24 ev λeb=> ?_;clear ev;simp only[AQ];refine FM 25 eb λep=> ?_;clear eb;simp only[AQ];refine FM 26 ep λeg=> ?_;clear ep;simp only[AQ];refine FM 27 eg λey=> ?_;clear eg;simp only[AQ];refine FM 28 ey λew=> ?_;clear ey;simp only[AQ];refine tG 29 35 (λ_ _ h g=>g) ew λef=> ?_;clear ew;simp only[AQ];refine FM 30 ef λec=> ?_;clear ef;simp only[AQ];refine FM 31 ec λeu=> ?_;clear ec;simp only[AQ];refine FM 32 eu λel=> ?_;clear eu;simp only[AQ];refine FM 33 el λed=> ?_;clear el;simp only[AQ];refine tG 34 35 (λ_ _ h g=>g) ed λer=> ?_;clear ed;simp only[AQ];refine FM 35 er λeh=> ?_;clear er;simp only[AQ];refine FM 36 eh λes=> ?_;clear eh;simp only[AQ];refine FM 37 es λen=> ?_;clear es;simp only[AQ];refine FM 38 en λei=> ?_;clear en;simp only[AQ];refine FM 39 ei λeo=> ?_;clear ei;simp only[AQ];refine FM 40 eo λea=> ?_;clear eo;simp only[AQ];refine FM 41 ea λet=> ?_;clear ea;simp only[AQ];refine tG 42 48 (λ_ _ h g=>g) et λee=> ?_;clear et;simp only[AQ];refine FM 43 ee λZ=> ?_;clear ee;simp only[AQ];refine FM 44 Z λX=> ?_;clear Z;simp only[AQ];refine FM 45 X λJ=> ?_;clear X;simp only[AQ];refine FM 46 J λQ=> ?_;clear J;simp only[AQ];refine tG 47 48 (λ_ _ h g=>g) Q λK=> ?_;clear Q;simp only[AQ];refine FM 48 K λV=> ?_;clear K;simp only[AQ];refine FM 49 V λB=> ?_;clear V;simp only[AQ];refine FM 50 B λP=> ?_;clear B;simp only[AQ];refine FM 51 P λG=> ?_;clear P;simp only[AQ];refine FM 52 G λY=> ?_;clear G;simp only[AQ];refine FM 53 Y λF=> ?_;clear Y;simp only[AQ];refine tG 54 59 (λ_ _ h g=>g) F λM=> ?_;clear F;simp only[AQ];refine FM 55 M λC=> ?_;clear M;simp only[AQ];refine FM 56 C λU=> ?_;clear C;simp only[AQ];refine FM 57 U λL=> ?_;clear U;simp only[AQ];refine tG 58 59 (λ_ _ h g=>g) L λhG59=> ?_;clear L;simp only[AQ];refine Bb (i:=59) (by decide+kernel) rfl (λK' hK=> ?_);go_simp;go_at_call 29;refine(HA.o _ (AW _ _).drew).mono ?_;rintro e w3 ⟨rfl,hb3⟩;have m:AL wi.heap.size wi w3:=(AW _ _).drew.trans hb3;have HB3:=AA m;refine hK.o _ _ (HC.o w3 m) (λR=> ?_);clear hK K' hb3 m hG59;refine FM 60 R λH=> ?_;clear R;simp only[AQ];refine FM 61 H λS=> ?_;clear H;simp only[AQ];refine FM 62 S λN=> ?_;clear S;simp only[AQ];refine FM 63 N λI=> ?_;clear N;simp only[AQ];refine FM 64 I λO=> ?_;clear I;simp only[AQ];refine FM 65 O λT=> ?_;clear O;simp only[AQ];refine tG 66 71 (λ_ _ h g=>g) T λE=> ?_;clear T;simp only[AQ];refine FM 67 E λz=> ?_;clear E;simp only[AQ];refine FM 68 z λq=> ?_;clear z;simp only[AQ];refine FM 69 q λk=> ?_;clear q;simp only[AQ];refine tG 70 71 (λ_ _ h g=>g) k λhG111=> ?_;clear k;simp only[AQ];refine Bb (i:=71) (by decide+kernel) rfl (λK' hK=> ?_);go_simp;go_at_call 29;refine(HA2.o w3 HB3.o).mono ?_;rintro e w4 ⟨rfl,hb4⟩;have HB4:=AA (BT HB3.o hb4);refine hK.o _ _ (HC.o w4 HB4.o) (λb=> ?_);clear hK K' hb4 hG111;refine FM 72 b λf=> ?_;clear b;simp only[AQ];refine FM 73 f λhG202=> ?_;clear f;simp only[AQ];refine D_ (by decide+kernel) ?_ _;go_wp2;go_roundw
  .exact⟨i+1,by omega,by go_num,HB.o.trans (HB4.o.mono HB.o.size)⟩
  simp[Aa];omega
 go_wp2;go_ret;exact⟨rfl,HB.o⟩
def FZ(d:Nat)(v:Int):Int:=if v+d<=9223372036854775807 then v+d else-9223372036854775808
theorem WQ{d:Nat}{v:Int}(h:1<=FZ d v):FZ d v=v+d:=by
 unfold FZ at*;split
 .rfl
 rename_i e;rw[AI e]at h;omega
theorem Nw{d:Nat}{v:Int}(h:v+d<=9223372036854775807):FZ d v=v+d:=AJ h
structure Xq(d:Nat)(x y:Dh):Prop where
 op:y.op=x.op
 on:y.on=x.on.map (FZ d)
 wi:y.wi=x.wi.map (FZ d)
 ky:y.ky=x.ky
 vl:y.vl=x.vl
 nm:y.nm=x.nm
inductive M5(d:Nat):List Dh->List Dh->Prop
 |nil:M5 d [] []
 |cons {x y:Dh} {l l2:List Dh}:Xq d x y->M5 d l l2->M5 d (x::l) (y::l2)
theorem Uu{d M:Nat}(y:d<=1)(hr:r=M+d){l l2:List Int}(o:l2=l.map (FZ d)){t:List Nat}(h:Ik r l2 t):∃xs:List Nat,GX M l xs/\t=xs.map (·+d):=by
 have u:l2=l.map (·+(d:Int)):=by
  rw[o];refine Ay λv s=>WQ ?_;have i:FZ d v∈l2:=by rw[o];exact BK s
  rw[h.eq]at i;obtain⟨z,n,e⟩:=BL.1 i;have:=h.rng z n;rw[<-e];omega
 refine⟨t.map (·-d),⟨?_,?_,?_⟩,?_⟩
 .have e:=h.eq;rw[u]at e;have e2:(l.map (·+(d:Int))).map (·-(d:Int))=l:=by
   rw[DI];have:l.map ((λx:Int=>x-(d:Int))∘λx:Int=>x+(d:Int))=l.map id:=Ay λx _=>by show x+d-d=x;omega
   rw[this,List.map_id]
  rw[<-e2,e];unfold Oq;rw[DI,DI];refine Ay λx hx=> ?_;have:=h.rng x hx;show(x:Int)-d=((x-d:Nat):Int);omega
 .intro k c;obtain⟨x,hx,rfl⟩:=BL.1 c;have:=h.rng x hx;omega
 .rw[List.nodup_iff_pairwise_ne,List.pairwise_map];refine List.Pairwise.imp_of_mem ?_ (List.nodup_iff_pairwise_ne.1 h.nodup);intro a b f m w;have p:=h.rng a f;have g:=h.rng b m;omega
 rw[DI];have:t.map ((·+d)∘(·-d))=t.map id:=Ay λx hx=>by
  have:=h.rng x hx;show x-d+d=x;omega
 rw[this,List.map_id]
theorem Rr{M:Nat}{l:List Int}(h:GX M l Y){y:Nat}(e:y∈Y):(y:Int)∈l:=by
 rw[h.eq];exact BK e
theorem Cn.run{d M:Nat}{T:Nat->Prop}(R:d<=1)(hr:r=M+d){l l2:List Dh}(G:M5 d l l2):∀{k:Nat} {P s s2:bY} {ρ:Nat->Nat},Cn (RN k) T d P s ρ->(∀y,y<M->ρ y=y+d)->M<=P.N->P.op=false->k+l.length<=10->(∀x∈l,x.Zz)->
 (∀x∈l,(x.op=8->∀i,¬T i)/\∀y:Nat,T y->(y:Int)∉x.on/\(y:Int)∉x.wi)->GZ r s l2 s2->∃u c,GY M P l u/\Cn (RN (k+l.length)) T d u s2 c/\(∀y,y<M->c y=y+d)/\u.op=false/\M<=u.N:=by
 induction G with
 |nil=>
  intro k P s s2 ρ E o h n H hF p b;cases b
  exact⟨P,ρ,.nil _,E,o,n,h⟩
 | @cons x y l l2 a _ Y=>
   intro k P s s2 ρ E o h n H hF p b;cases b with
   | @cons _ s1 _ _ _ D L w O W A j F C=>
     obtain⟨f,o1,e1⟩:=Uu R hr a.on O;obtain⟨ws,o2,e2⟩:=Uu R hr a.wi A;have N:D=f.map ρ:=(by rw[e1];exact Ay λy t=>(o y (o1.lt y t)).symm);have I:L=ws.map ρ:=(by rw[e2];exact Ay λy t=>(o y (o2.lt y t)).symm);obtain⟨U,q⟩:=p x (by simp);have V:=hF x (by simp);rw[Ak]at H;rw[a.op,a.ky,a.vl,a.nm,N,I]at j;have m:f≠[]:=λe=>W (by rw[e1,e];rfl);obtain⟨J,K,p1,p2,p3,p4,p5⟩:=E.step w n (by omega) (λy t=>⟨AR (o1.lt y t) h,λht=>(q y ht).1 (Rr o1 t)⟩) (λy t=>⟨AR (o2.lt y t) h,λht=>(q y ht).2 (Rr o2 t)⟩) o1.asc o2.asc m
      (λy t=>by rw[<-N]at t;exact(O.rng y t).2) (λy t=>by rw[<-I]at t;exact(A.rng y t).2) V j F U
     obtain⟨u,v,r1,r2,r3,r4,r5⟩:=Y p3 (λy t=>(p2 y (AR t h)).trans (o y t)) (AH h p5) p4 (by omega) (λz g=>hF z (Ab _ g)) (λz g=>p z (Ab _ g)) C;refine⟨u,v,.cons f ws ⟨⟨E.okP,h,by have:=w.few;have:=E.num;omega,by have:=w.r2;omega,n⟩,λi B=> ?_⟩ o1 o2 m p1 p5 r1,by rw[Ak,Nat.add_comm l.length 1,<-Cc];exact r2,r3,r4,r5⟩;have S:=(E.nd i B).ba;refine⟨S.ndg,?_⟩;have Q:=S.len;unfold CU;split
     .simp
     omega
theorem H'.l1{m:List At2}(h:H' l m):VM l m:=by
 refine⟨λa i o=> ?_,λa i o v s=> ?_⟩
 .have n:=(Co h.ol).2 ⟨i,rfl⟩;have t:=h.other a.key o;rw[n]at t;cases r:CF m a.key with
  |none=>rw[r]at t;cases t
  |some b=>rw[r]at t;exact⟨b,rfl,by simpa using t.symm⟩
 have n:=(Co h.ol).2 ⟨i,o⟩;have t:Cq l=a.val:=by rw[Dp,n];rfl
 rcases h.cls with e|⟨-,-,e⟩
 .rw[<-e,t];exact s
 rw[<-e,t];exact s
theorem H'.symm{m:List At2}(h:H' l m):H' m l:=by
 refine⟨h.om,h.ol,λk t=>(h.other k t).symm,?_⟩;rcases h.cls with e|⟨a,b,c⟩
 .exact .inl e.symm
 exact .inr ⟨b,a,λv=>(c v).symm⟩
theorem Cn.aN{R:Nd->Nd->Prop}{T:Nat->Prop}{d:Nat}{P:bY}{ρ:Nat->Nat}(E:Cn R T d P s ρ){t e:Nat->Nat}(o:P.F.Ok (λi=>i<P.N) t)(a:s.F.Ok (λi=>i<s.N) e)(hx:x<P.N):s.F.all e (ρ x)=(P.F.all t x).map ρ:=by
 have h:s.F.all e (ρ x)=s.F.lst (max (e (ρ x)) (t x)) (ρ x):=Fo.Yy a _ _ _ (AG _) (Nat.le_max_left _ _);have n:P.F.all t x=P.F.lst (max (e (ρ x)) (t x)) x:=Fo.Yy o _ _ _ (AG _) (Nat.le_max_right _ _);rw[h,n];exact E.all _ x hx
theorem Vc(f:k<=10){a b:Nd}(h:RN k a b)(z:Int){x y:Nd}(hx:Cj x=Cj {a with size:=z})(e:Cj y=Cj {b with size:=z}):TJ x y:=by
 have m:x.kind=a.kind:=(congrArg Nd.kind hx:_);have c:x.tag=a.tag:=(congrArg Nd.tag hx:_);have u:x.text=a.text:=(congrArg Nd.text hx:_);have i:x.attrs=a.attrs:=(congrArg Nd.attrs hx:_);have l:x.size=z:=(congrArg Nd.size hx:_);have d:y.kind=b.kind:=(congrArg Nd.kind e:_);have r:y.tag=b.tag:=(congrArg Nd.tag e:_);have s:y.text=b.text:=(congrArg Nd.text e:_);have o:y.attrs=b.attrs:=(congrArg Nd.attrs e:_);have n:y.size=z:=(congrArg Nd.size e:_);have l1:=h.ba.len;have l2:=h.bb.len;refine⟨by rw[m,d,h.kind],by rw[c,r,h.tag],by rw[u,s,h.text],by rw[l,n],by rw[i,o];exact h.alk.l1,by rw[i,o];exact h.alk.symm.l1,by rw[i];omega,by rw[o];omega,λa t=> ?_,λa t=> ?_⟩
 .rw[i]at t;have:=h.ba.val a t;omega
 rw[o]at t;have:=h.bb.val a t;omega
theorem Cn.alike(f:k<=10){T:Nat->Prop}{d:Nat}{P:bY}{ρ:Nat->Nat}(E:Cn (RN k) T d P s ρ){t e:Nat->Nat}(m:P.F.Ok (λi=>i<P.N) t)(c:s.F.Ok (λi=>i<s.N) e){L:List Nat}(w:∀y∈L,y<P.N){A B:List Nd}
 (h:A.map Cj=L.map (D4 P.F t P.nd))(n:B.map Cj=(L.map ρ).map (D4 s.F e s.nd)):B.length=A.length/\∀i (u:i<A.length) (r:i<B.length),TJ A[i] B[i]:=by
 have n1:A.length=L.length:=by simpa using congrArg Dw h
 have n2:B.length=L.length:=by simpa using congrArg Dw n
 refine⟨by omega,λi u r=> ?_⟩;have a:i<L.length:=by omega
 have e1:Cj A[i]=D4 P.F t P.nd L[i]:=by
  have:=congrArg (λl=>l[i]?) h;simpa [AK u,AK a]using this
 have e2:Cj B[i]=D4 s.F e s.nd (ρ L[i]):=by
  have:=congrArg (λl=>l[i]?) n;simpa [AK r,AK a]using this
 have o:=w _ (AD a);have g:(s.F.all e (ρ L[i])).length=(P.F.all t L[i]).length:=by rw[E.aN m c o,Aq]
 unfold D4 at e1 e2;rw[g]at e2;exact Vc f (E.nd _ o) _ e1 e2
theorem Rp{t:List Nd}(o:CQ t){y:Nat}(hx:x<t.length)(r:x<y)(h:y<x+sz t x):∃p,x<=p/\p<y/\p<x+sz t x/\(Oo t).par y=some p:=by
 have e:=OL o _ _ (AG (sz t x)) hx;have u:=((Oo t).ZD (FR o) _ x (AG _) y).1 (by rw[e,List.mem_range'_1];omega);cases u with
 |self=>omega
 |step i u2=>
  rename_i p;have n:=((Oo t).ZD (FR o) _ x (AG _) p).2 u2;rw[e,List.mem_range'_1]at n;have s:y<t.length:=((FR o).dom _ _ i).2;have a:=i;rw[JE s]at a;exact⟨p,n.1,(Fp a).1,n.2,i⟩
theorem Vp{t:List Nd}(o:CQ t)(n:∀i,i<t.length->Bd 0 (ND t i)):Cn (RN 0) (λ_=>False) 0 (EJ t) (EJ t) id where
 okP:=⟨sz t,FR o⟩
 okS:=⟨sz t,FR o⟩
 num:=rfl
 lt:=λi a=>a
 inj:=λi j _ _ e=>e
 kids:=λi a=>(List.map_id _).symm
 nd:=λi a=> .refl (n i a)
 tp:=λi h=>h.elim
 top:=λi a h=> .inl h
structure M3(t:List Nd)(ns:List Nat)(t2:List Nd):Prop where
 right:CQ t
 right2:CQ t2
 eq:∃hd,t2=hd::LO t ns
 lt:∀n∈ns,n<t.length
namespace M3
variable {t t2:List Nd} {ns:List Nat}
theorem len(C:M3 t ns t2):t2.length=CS t ns ns.length+1:=by
 obtain⟨a,e⟩:=C.eq;have h:=IF C.right C.lt ns.length (AG _);rw[AU]at h;rw[e,Ak,h]
theorem few(C:M3 t ns t2):t.length+CS t ns ns.length<=600:=by
 have a:=C.right.le;have e:=C.right2.le;rw[C.len]at e;omega
theorem num(C:M3 t ns t2):(ET (EJ t) ns).N=t.length+CS t ns ns.length/\(∀i,i<=ns.length->(ET (EJ t) (ns.take i)).op=false)/\(∃a,YJ (EJ t) (sz t) (ET (EJ t) ns) a)/\∀i (e:i<ns.length),NL t ns[i] (t.length+CS t ns i) (ET (EJ t) ns):=by
 have h:=RJ C.right C.lt C.few;obtain⟨a,s,n,r,o⟩:=h ns.length (AG _);rw[AU]at s n o;exact⟨n,λi e=>(h i e).choose_spec.2.2.1,⟨a,s⟩,λi e=>o i e e⟩
theorem bB(C:M3 t ns t2)(e:i<ns.length):(DR (EJ t) ns)[i]'(by rw[Cy];exact e)=t.length+CS t ns i:=by
 rw[Kd _ _ e];exact(RJ C.right C.lt C.few i (by omega)).choose_spec.2.1
theorem bV(C:M3 t ns t2){j:Nat}(o:i<ns.length)(a:j<sz t ns[i]):t2.getD (1+CS t ns i+j) default=t.getD (ns[i]+j) default:=by
 obtain⟨n,e⟩:=C.eq;have h:=XI C.right C.lt o a;rw[e,Ae,Ae,show 1+CS t ns i+j=(CS t ns i+j)+1 by omega,List.getElem?_cons_succ,h]
theorem bL(C:M3 t ns t2){j:Nat}(a:i<ns.length)(e:j<sz t ns[i]):sz t2 (1+CS t ns i+j)=sz t (ns[i]+j):=by
 unfold sz;rw[C.bV a e]
theorem bound(C:M3 t ns t2)(e:i<ns.length):ns[i]+sz t ns[i]<=t.length/\1<=sz t ns[i]/\CS t ns i+sz t ns[i]<=CS t ns ns.length:=by
 have hx:=C.lt _ (AD e);obtain⟨-,n,o,-⟩:=C.right.lam _ (AY _) hx;have a:=JK t ns (i:=i+1) (j:=ns.length) (by omega) (AG _);rw[FF t ns e]at a;exact⟨o,n,a⟩
theorem bH(C:M3 t ns t2){j:Nat}(e:i<ns.length)(n:j<sz t ns[i]):Bo t2 (1+CS t ns i+j)=(Bo t (ns[i]+j)).map λz=>z-ns[i]+(1+CS t ns i):=by
 have hx:=C.lt _ (AD e);obtain⟨u,l,d⟩:=C.bound e;have s:ns[i]+j+sz t (ns[i]+j)<=ns[i]+sz t ns[i]:=by
  rcases BJ j with o|o
  .subst o;exact AG _
  exact(C.right.lam _ (AY _) hx).2.2.2 _ (by omega) (by omega)
 unfold Bo;rw[C.bL e n];have:=Ix (a:=ns[i]) (b:=1+CS t ns i) (t:=t) (t2:=t2) (sz t (ns[i]+j)) (j+1) (j+sz t (ns[i]+j)) (λq r h=>C.bL e (by omega));rw[<-Cc,<-Cc,<-Cc,<-Cc]at this;exact this
def bI(t:List Nd)(ns:List Nat)(y:Nat):Prop:=y<CS t ns ns.length/\(IU t.length (ET (EJ t) ns)).F.par y=none
theorem Zo(C:M3 t ns t2):(IU t.length (ET (EJ t) ns)).N=CS t ns ns.length:=by
 show(ET (EJ t) ns).N-t.length=_;rw[C.num.1];omega
theorem Z3(C:M3 t ns t2){j:Nat}(e:i<ns.length)(a:j<sz t ns[i]):(IU t.length (ET (EJ t) ns)).F.kids (CS t ns i+j)=(Bo t (ns[i]+j)).map λz=>z-ns[i]+CS t ns i:=by
 obtain⟨s,n,o⟩:=C.bound e;show((ET (EJ t) ns).F.kids (t.length+(CS t ns i+j))).map (·-t.length)=_;rw[<-Cc,(C.num.2.2.2 i e).kids j a,Fz (by omega),DI];refine Ay λz _=> ?_;show z-ns[i]+(t.length+CS t ns i)-t.length=_;omega
theorem Z6(C:M3 t ns t2):∃h,(IU t.length (ET (EJ t) ns)).F.Ok (λi=>i<(IU t.length (ET (EJ t) ns)).N) h:=by
 obtain⟨a,e⟩:=C.num.2.2.1;exact⟨_,Uv (e.old.shut (FR C.right)) e.old.ok⟩
theorem ae(C:M3 t ns t2){y:Nat}(h:bI t ns y):∃i,i<ns.length/\y=CS t ns i:=by
 obtain⟨i,e,-,j,d,rfl⟩:=Mg t ns ns.length (AG _) y h.1;rcases BJ j with r|r
 .exact⟨i,e,by omega⟩
 exfalso;have hx:=C.lt _ (AD e);obtain⟨m,c,u⟩:=C.bound e;obtain⟨p,p1,p2,p3,p4⟩:=Rp C.right hx (y:=ns[i]+j) (by omega) (by omega);have s:=((FR C.right).mem p (ns[i]+j)).2 p4;rw[Fz (by omega)]at s;have a:=C.Z3 e (j:=p-ns[i]) (by omega);rw[show ns[i]+(p-ns[i])=p by omega]at a;obtain⟨l,o⟩:=C.Z6;have n:CS t ns i+j∈(IU t.length (ET (EJ t) ns)).F.kids (CS t ns i+(p-ns[i])):=by
  rw[a];refine BL.2 ⟨ns[i]+j,s,?_⟩;omega
 rw[o.mem,h.2]at n;cases n
theorem bX(C:M3 t ns t2)(m:∀i,i<t.length->Bd 0 (ND t i)):Cn (RN 0) (bI t ns) 1 (IU t.length (ET (EJ t) ns)) (EJ t2) (λy=>y+1):=by
 have n:∀k,k<CS t ns ns.length->(Oo t2).kids (k+1)=((IU t.length (ET (EJ t) ns)).F.kids k).map λy=>y+1:=by
  intro k s;obtain⟨i,a,-,j,r,rfl⟩:=Mg t ns ns.length (AG _) k s;rw[C.Z3 a r,Fz (by rw[C.len];omega),DI,show CS t ns i+j+1=1+CS t ns i+j by omega,C.bH a r];refine Ay λz _=> ?_;show z-ns[i]+(1+CS t ns i)=z-ns[i]+CS t ns i+1;omega
 have d:=C.len;refine⟨C.Z6,⟨sz t2,FR C.right2⟩,by rw[C.Zo];exact d,λi a=> ?_,λi j _ _ e=>by omega,λi a=> ?_,λi a=> ?_,λi h=>by rw[C.Zo];exact h,λi a u=> ?_⟩
 .rw[C.Zo]at a;show i+1<t2.length;omega
 .rw[C.Zo]at a;exact n i a
 .rw[C.Zo]at a;obtain⟨k,s,-,j,r,rfl⟩:=Mg t ns ns.length (AG _) i a;obtain⟨v,b,g⟩:=C.bound s;have e1:(IU t.length (ET (EJ t) ns)).nd (CS t ns k+j)=ND t (ns[k]+j):=by
   show(ET (EJ t) ns).nd (t.length+(CS t ns k+j))=_;rw[<-Cc];exact(C.num.2.2.2 k s).nd j r
  have e2:(EJ t2).nd (CS t ns k+j+1)=ND t (ns[k]+j):=by
   show t2.getD (CS t ns k+j+1) default=t.getD (ns[k]+j) default;rw[show CS t ns k+j+1=1+CS t ns k+j by omega];exact C.bV s r
  show RN 0 _ ((EJ t2).nd (CS t ns k+j+1));rw[e1,e2];exact .refl (m _ (by omega))
 rw[C.Zo]at a;refine .inr ⟨⟨a,u⟩,?_,?_,λj _=>by omega⟩
 .obtain⟨p,p1,p2,p3,p4⟩:=Rp C.right2 (x:=0) C.right2.pos (y:=i+1) (by omega) (by rw[C.right2.top];omega);rcases BJ p with c|c
  .rw[c]at p4;exact p4
  exfalso;have s:=((FR C.right2).mem p (i+1)).2 p4;have:=n (p-1) (by omega);rw[show p-1+1=p by omega]at this;rw[this]at s;obtain⟨z,l,f⟩:=BL.1 s;have:z=i:=by omega
  subst this;obtain⟨w,o⟩:=C.Z6;rw[o.mem,u]at l;cases l
 show(Oo t2).par 0=none;rw[JE C.right2.pos];rfl
end M3
theorem Ig{o:ER}{a:Act}(s x:Operand)
 (q:o.op= .call {callee:= .builtin .append,args:= #[s,x],argTypes:= #[23,23]})
 (base:Nat)(v:AS)(xs:List Int)(k:a.eval s=v)(d:w.ownsRow base 3 1 v xs.length (E3 xs))
 (A:Option Ai)(n c:Nat)(e:List Int)(j:n=e.length)(hx:a.eval x= .slice A n c)(hr:B6 w w.heap.size A (E3 e))(p:xs.length+e.length<=100000000)(t:base<=w.heap.size)
 (h:∀r i w',w'.ownsRow base 3 1 (.slice r (xs++e).length i) (xs++e).length (E3 (xs++e))->w.grownBy w' v.ownBlock->((AO r (xs++e).length i).ownBlock=v.ownBlock\/(AO r (xs++e).length i).ownBlock=some w.heap.size)->K (a.put o.dst (.slice r (xs++e).length i)) w'):
 Oper.wp AC o a w K Q:=by
 subst j;obtain⟨b,l,y,f,m⟩:=D6 Tryz.Zl;have g:=hr.reads;rw[CL]at g;refine EN w s x 23 q base 3 b (.int .i64 0) 1 8 underlying23 l y f m rfl (by decide) v xs.length (E3 xs) k d w.heap.size A e.length c (E3 e) hx g (WA e) (by unfold maxLen;omega) (by omega) t ?_;intro T w' u E z;rw[<-Qe,<-AN]at u;obtain⟨r,i,rfl⟩:=DA u;exact h r i w' u E z
theorem G2{o:ER}{a:Act}{E:Prop}(u:o.guard=none)(s x:Operand)
 (y:o.op= .call {callee:= .builtin .append,args:= #[s,x],argTypes:= #[23,23]})
 (base:Nat)(v:AS)(xs:List Int)(f:a.eval s=v)(i:w.ownsRow base 3 1 v xs.length (E3 xs))
 (A:Option Ai)(n c:Nat)(e:List Int)(g:n=e.length)(hx:a.eval x= .slice A n c)(hr:B6 w w.heap.size A (E3 e))(r:xs.length+e.length<=100000000)(t:base<=w.heap.size)
 (h:∀l d w',w'.ownsRow base 3 1 (.slice l (xs++e).length d) (xs++e).length (E3 (xs++e))->w.grownBy w' v.ownBlock->((AO l (xs++e).length d).ownBlock=v.ownBlock\/(AO l (xs++e).length d).ownBlock=some w.heap.size)->K (a.put o.dst (.slice l (xs++e).length d)) w'):
 if Region.wanted o (yielded T a.tmps)=true then Oper.wp AC o a w K Q else E:=by
 have m:Region.wanted o (yielded T a.tmps)=true:=by simp[Region.wanted,u]
 rw[AJ m];exact Ig s x y base v xs f i A n c e g hx hr r t h
theorem Jc{rest:List ER}{o:ER}{a:Act}(u:o.guard=none)(s x:Operand)
 (f:o.op= .call {callee:= .builtin .append,args:= #[s,x],argTypes:= #[23,23]})
 (base:Nat)(v:AS)(xs:List Int)(m:a.eval s=v)(d:w.ownsRow base 3 1 v xs.length (E3 xs))
 (A:Option Ai)(n c:Nat)(e:List Int)(y:n=e.length)(hx:a.eval x= .slice A n c)(hr:B6 w w.heap.size A (E3 e))(l:xs.length+e.length<=100000000)(t:base<=w.heap.size)
 (h:∀r i w',w'.ownsRow base 3 1 (.slice r (xs++e).length i) (xs++e).length (E3 (xs++e))->w.grownBy w' v.ownBlock->((AO r (xs++e).length i).ownBlock=v.ownBlock\/(AO r (xs++e).length i).ownBlock=some w.heap.size)->wpList AC T Q rest (a.put o.dst (.slice r (xs++e).length i)) w'):
 wpList AC T Q (o::rest) a w:=
 wpList_plain u λ_ g=>Ig s x f base v xs m d A n c e y hx hr l t λr i w' k b p=>g _ _ (h r i w' k b p)
def EQ(l:List Dh):List AS:=l.flatMap λx=>x.vv.toList
theorem OJ(l m:List Dh):EQ (l++m)=EQ l++EQ m:=by simp[EQ]
theorem Tx{l:List Dh}:∀{k:Nat} (h:k<l.length) (j:Nat),j<6->(EQ l)[k*6+j]? =l[k].vv[j]? :=by
 induction l with
 |nil=>intro k h;exact absurd h (Nat.not_lt_zero _)
 |cons x l e=>
  intro k h j t;have hx:x.vv.toList.length=6:=by simp[Dh.vv,BW]
  show(x.vv.toList++EQ l)[k*6+j]? =_;cases k with
  |zero=>
   rw[Nat.zero_mul,By,List.getElem?_append_left (by omega)];show _=x.vv[j]?;rw[Array.getElem?_toList]
  |succ k=>
   rw[EV (by omega),hx,show(k+1)*6+j-6=k*6+j by omega];exact e (by simpa using h) j t
theorem Sj(t:List Dh):∀u∈EQ t,u.oneCell'=true:=by
 intro u e;unfold EQ at e;obtain⟨x,-,hx⟩:=C1.1 e;simp[Dh.vv,BW]at hx;rcases hx with rfl|rfl|rfl|rfl|rfl|rfl<;>rfl
theorem Tryz.aH:(Tryz.prog.info? 45).map (λi=>(i.zero,i.size,i.bytes))=some (some (.agg #[.int .i64 0,.slice none 0 0,.slice none 0 0,.string ⟨#[]⟩,.string ⟨#[]⟩,.slice none 0 0]),6,112):=by kernel_rfl
theorem LI{rest:List ER}{o:ER}{a:Act}(p:o.guard=none)(s x:Operand)
 (z:o.op= .call {callee:= .builtin .append,args:= #[s,x],argTypes:= #[24,24]})
 (base:Nat)(v:AS)(xs:List Dh)(j:a.eval s=v)(d:w.ownsRow base 45 6 v xs.length (EQ xs))
 (A:Option Ai)(m c:Nat)(t:List Dh)(E:m=t.length)(hx:a.eval x= .slice A m c)(hr:GC w w.heap.size 6 A m (EQ t))(k:xs.length+t.length<=1000000)(i:base<=w.heap.size)
 (h:∀r n w',w'.ownsRow base 45 6 (.slice r (xs++t).length n) (xs++t).length (EQ (xs++t))->w.grownBy w' v.ownBlock->((AO r (xs++t).length n).ownBlock=v.ownBlock\/(AO r (xs++t).length n).ownBlock=some w.heap.size)->wpList AC T Q rest (a.put o.dst (.slice r (xs++t).length n)) w'):
 wpList AC T Q (o::rest) a w:=
 wpList_plain p λ_ O=>by
  subst E;obtain⟨q,l,g,y,f⟩:=D6 Tryz.aH;refine EN w s x 24 z base 45 q (.agg #[.int .i64 0,.slice none 0 0,.slice none 0 0,.string ⟨#[]⟩,.string ⟨#[]⟩,.slice none 0 0]) 6 112 underlying24 l g y f rfl (by decide) v xs.length (EQ xs) j d w.heap.size A t.length c (EQ t) hx hr (Sj t) (by unfold maxLen;omega) (by omega) i ?_;intro N w' u I b;obtain⟨r,n,rfl⟩:=DA u;have e:(xs++t).length=xs.length+t.length:=AN;rw[<-OJ]at u;rw[<-e]at u b|-;exact O _ _ (h r n w' u I b)
structure MB(w wr:AB)(x:Dh):Prop where
 on:wr.ownsRow w.heap.size 3 1 (.slice x.oa x.on.length x.oc) x.on.length (E3 x.on)
 wi:wr.ownsRow w.heap.size 3 1 (.slice x.wa x.wi.length x.wc) x.wi.length (E3 x.wi)
 nm:B6 w w.heap.size x.la (x.nm.map Value.string)
 cap:x.nm.length<=x.lc
 onr:x.on.length<=2000000/\∀v∈x.on,-9223372036854775808<=v/\v<=9223372036854775807
 wir:x.wi.length<=2000000/\∀v∈x.wi,-9223372036854775808<=v/\v<=9223372036854775807
def XA(e:List Int)(x y:Dh):Prop:=x.op≠8/\∀z∈e,z∉y.on/\z∉y.wi
def Xm(l:List Dh)(e:List Int)(w:AB)(k:Nat)(v:AS)(wr:AB):Prop:=
 ∃l2:List Dh,∃a c,l2.length=k/\v= .slice a k c/\M5 1 (l.take k) l2/\(∀i (h:i<l.length) (t:i<l2.length),XA e l[i] l2[i])/\wr.ownsRow w.heap.size 45 6 (.slice a k c) k (EQ l2)/\(∀x∈l2,MB w wr x)/\AL w.heap.size w wr
theorem Pp{v:Int}(h: -9223372036854775808<=v/\v<=9223372036854775807):FZ 1 v=IntKind.i64.wrap (v+1):=by
 unfold FZ;by_cases e:v+1<=9223372036854775807
 .rw[AJ (by omega)];exact(IntWalk.i64_in _ ⟨by omega,e⟩).symm
 rw[AI (by omega)];have:v=9223372036854775807:=by omega
 subst this;decide+kernel
theorem IR{e size m:Nat}{xs:List AS}(t:n=m)(h:w.ownsRow B e size (.slice a n c) n xs):w.ownsRow B e size (.slice a n c) m xs:=by subst t;exact h
theorem Pk(w:AB)(v:Int):B6 (w.alloc (.cells #[.int .i64 v] 3)) (w.alloc (.cells #[.int .i64 v] 3)).heap.size (some ⟨w.heap.size,0,none⟩) (E3 [v]):=by
 refine .inr ⟨w.heap.size,0,rfl,by simp,λi e=> ?_⟩;have t:i=0:=by simp[E3]at e;omega
 subst t;rw[Dj,BI];rfl
def Xf(W:AB)(op:Int)(on:List Int)(ky vl:ByteArray)(e:AS)(j:Nat)(wr:AB):Prop:=
 ∃a c,wr.heap[W.heap.size]? =some (.cells (BW op (.slice a j c) (.slice none 0 0) ky vl e) 45 (0,0))/\wr.ownsRow (W.heap.size+1) 3 1 (.slice a j c) j (E3 ((on.take j).map (FZ 1)))/\AL W.heap.size W wr
theorem Xf.below{W:AB}{on:List Int}{ky vl:ByteArray}{e:AS}{j:Nat}(h:Xf W U on ky vl e j wr):AL W.heap.size W wr:=by
 obtain⟨a,c,i,o,t⟩:=h;exact t
theorem Uf{W t a:AB}{on:List Int}{ky vl:ByteArray}{n:AS}{j:Nat}{a1 a2:Option Ai}{c1 c2:Nat}{o:Obj}
 (hx:t.heap[W.heap.size]? =some (.cells (BW U (.slice a1 j c1) (.slice none 0 0) ky vl n) 45 (0,0)))(i:t.ownsRow (W.heap.size+1) 3 1 (.slice a1 j c1) j (E3 ((on.take j).map (FZ 1))))(c:AL W.heap.size W t)
 (l:(t.drew.alloc o).grownBy a (AO a1 j c1).ownBlock)(m:a.ownsRow (W.heap.size+1) 3 1 (.slice a2 (j+1) c2) (j+1) (E3 ((on.take (j+1)).map (FZ 1)))):
 a.cell? ⟨W.heap.size,1,none⟩=some (.slice a1 j c1)/\a.frozen? ⟨W.heap.size,1,none⟩=false/\Xf W U on ky vl n (j+1) (a.setCell ⟨W.heap.size,1,none⟩ (.slice a2 (j+1) c2)):=by
 have r:W.heap.size<t.heap.size:=(AE.1 hx).1;have h:some W.heap.size≠(AO a1 j c1).ownBlock:=λe=>by have:=(i.lt _ e.symm).1;omega
 have s:a.heap[W.heap.size]? =some (.cells (BW U (.slice a1 j c1) (.slice none 0 0) ky vl n) 45 (0,0)):=by
  rw[l.block _ (by show _<(t.drew.alloc o).heap.size;simp;omega) h];rw[B5 _ _ _ (by show _<t.heap.size;exact r)];exact hx
 have d:AL W.heap.size W a:=((c.drew).alloc (by show _<=t.heap.size;omega) _).grown l (by show _<=(t.drew.alloc o).heap.size;simp;omega) (λq u=>by have:=(i.lt q u).1;omega);refine⟨Aj s,FE s,a2,c2,?_,ownsRow_setCell_below m (by simp) _,d.setCell (p:=⟨W.heap.size,1,none⟩) (AG _) _⟩;have:=Ao a W.heap.size 1 _ _ (.slice a2 (j+1) c2) s;exact this
def Xg(W e:AB)(op:Int)(t:AS)(wi:List Int)(ky vl:ByteArray)(o:AS)(j:Nat)(wr:AB):Prop:=
 ∃a c,wr.heap[W.heap.size]? =some (.cells (BW op t (.slice a j c) ky vl o) 45 (0,0))/\wr.ownsRow e.heap.size 3 1 (.slice a j c) j (E3 ((wi.take j).map (FZ 1)))/\(∀b,b<e.heap.size->b≠W.heap.size->wr.heap[b]? =e.heap[b]?)/\AL W.heap.size W wr/\e.heap.size<=wr.heap.size
theorem Xg.below{W i:AB}{e:AS}{wi:List Int}{ky vl:ByteArray}{t:AS}{j:Nat}(h:Xg W i U e wi ky vl t j wr):AL W.heap.size W wr:=by
 obtain⟨a,c,d,r,s,o,n⟩:=h;exact o
theorem VC{W n t i:AB}{s:AS}{wi:List Int}{ky vl:ByteArray}{h:AS}{j:Nat}{a1 a2:Option Ai}{c1 c2:Nat}{o:Obj}(x:W.heap.size<n.heap.size)
 (hx:t.heap[W.heap.size]? =some (.cells (BW U s (.slice a1 j c1) ky vl h) 45 (0,0)))(a:t.ownsRow n.heap.size 3 1 (.slice a1 j c1) j (E3 ((wi.take j).map (FZ 1))))(g:∀b,b<n.heap.size->b≠W.heap.size->t.heap[b]? =n.heap[b]?)(v:AL W.heap.size W t)(z:n.heap.size<=t.heap.size)
 (u:(t.drew.alloc o).grownBy i (AO a1 j c1).ownBlock)(w:i.ownsRow n.heap.size 3 1 (.slice a2 (j+1) c2) (j+1) (E3 ((wi.take (j+1)).map (FZ 1)))):
 i.cell? ⟨W.heap.size,2,none⟩=some (.slice a1 j c1)/\i.frozen? ⟨W.heap.size,2,none⟩=false/\Xg W n U s wi ky vl h (j+1) (i.setCell ⟨W.heap.size,2,none⟩ (.slice a2 (j+1) c2)):=by
 have m:W.heap.size<t.heap.size:=(AE.1 hx).1;have c:some W.heap.size≠(AO a1 j c1).ownBlock:=λe=>by have:=(a.lt _ e.symm).1;omega
 have r:i.heap[W.heap.size]? =some (.cells (BW U s (.slice a1 j c1) ky vl h) 45 (0,0)):=by
  rw[u.block _ (by show _<(t.drew.alloc o).heap.size;simp;omega) c];rw[B5 _ _ _ (by show _<t.heap.size;exact m)];exact hx
 have f:AL W.heap.size W i:=((v.drew).alloc (by show _<=t.heap.size;omega) _).grown u (by show _<=(t.drew.alloc o).heap.size;simp;omega) (λq y=>by have:=(a.lt q y).1;omega);have k:t.heap.size+1<=i.heap.size:=by have:=u.size;simpa using this
 refine⟨Aj r,FE r,a2,c2,?_,Cv w (λb d _=>A8 _ _ _ _ (λe=>by have:=(w.lt b d).1;have e2:b=W.heap.size:=e;omega)),λb d l=> ?_,f.setCell (p:=⟨W.heap.size,2,none⟩) (AG _) _,by simp;omega⟩
 .have:=Ao i W.heap.size 2 _ _ (.slice a2 (j+1) c2) r;exact this
 rw[A8 _ _ _ _ (λe=>l e),u.block _ (by show _<(t.drew.alloc o).heap.size;simp;omega) (λe=>by have:=(a.lt _ e.symm).1;omega),B5 _ _ _ (by show _<t.heap.size;omega)];exact g b d l
theorem JL{m e e2 z i n2:Nat}{v2:AS}{xs a:List AS}(h:w.ownsRow B e z v n xs)(o:w.ownsRow m e2 i v2 n2 a)(d:e≠e2){b:Nat}(l:v.ownBlock=some b):some b≠v2.ownBlock:=by
 intro t;obtain⟨p,c2,rfl⟩:=DA o;rcases o.2 with u|⟨g,cap,f,s,y,r,r3⟩
 .rw[u.1]at t;cases t
 rw[s]at t;have c:b=g:=by simpa [A6]using t
 subst c;exact Ax h r d l
theorem Ux(w:AB)(T:Dk)(x:Dh):GC (w.alloc (.cells x.vv T)) (w.heap.size+1) 6 (some ⟨w.heap.size,0,none⟩) 1 (EQ [x]):=by
 refine⟨rfl,λ_=>⟨_,rfl,by show w.heap.size<_;omega,λj u t=> ?_⟩⟩;rw[Ba,BI];have e:EQ [x]=x.vv.toList:=by simp[EQ]
 rw[e]at t;rw[By];simpa using t
theorem M5.snoc{d:Nat}{l l2:List Dh}{x y:Dh}(h:M5 d l l2)(hx:Xq d x y):M5 d (l++[x]) (l2++[y]):=by
 induction h with
 |nil=>exact .cons hx .nil
 |cons t _ e=>exact .cons t e
theorem MB.kept{W:AB}{x:Dh}(h:MB w W x)(a:∀b,(AO x.oa x.on.length x.oc).ownBlock=some b\/(AO x.wa x.wi.length x.wc).ownBlock=some b->b<W.heap.size->wr.heap[b]? =W.heap[b]?):MB w wr x:=
 ⟨Cv h.on (λb e t=>a b (.inl e) t),Cv h.wi (λb e t=>a b (.inr e) t),h.nm,h.cap,h.onr,h.wir⟩
theorem Xm.next{l:List Dh}{t:List Int}{f:Option Ai}{m:Nat}{W r:AB}{l2:List Dh}(L:k<l.length)(N:l2.length=k)(I:M5 1 (l.take k) l2)(O:∀i (h:i<l.length) (c:i<l2.length),XA t l[i] l2[i])(A:W.ownsRow w.heap.size 45 6 (.slice f k m) k (EQ l2))(T:∀x∈l2,MB w W x)(z:AL w.heap.size w W){y:Dh}(S:Xq 1 l[k] y)(U:XA t l[k] y)(v:MB w wr y)(u:AL W.heap.size W wr){o:Obj}(E:(wr.alloc o).grownBy r (AO f k m).ownBlock){p:Option Ai}{g:Nat}(D:r.ownsRow w.heap.size 45 6 (.slice p (k+1) g) (k+1) (EQ (l2++[y]))):Xm l t w (k+1) (.slice p (k+1) g) r:=by
 have n:wr.ownsRow w.heap.size 45 6 (.slice f k m) k (EQ l2):=BB A (λb _ h=>u.block b h);have s:∀b,b<wr.heap.size->some b≠(AO f k m).ownBlock->r.heap[b]? =wr.heap[b]? :=λb d c=>by
  rw[E.block b (by simp;omega) c,B5 _ _ _ d]
 have a:∀{x:Dh},MB w wr x->MB w r x:=λ{x} hx=>hx.kept λb j d=>by
  refine s b d ?_;rcases j with e|e
  .exact JL hx.on n (by decide) e
  exact JL hx.wi n (by decide) e
 refine⟨l2++[y],p,g,by simp[N],rfl,?_,λi h c=> ?_,D,λx hx=> ?_,?_⟩
 .rw[AF L];exact I.snoc S
 .by_cases e:i<l2.length
  .rw[Cs e];exact O i h e
  have e2:i=k:=by simp at c;omega
  subst e2;rw[Gt (by omega)];simpa using U
 .rcases AV.1 hx with hx|hx
  .exact a ((T x hx).kept λb _ d=>u.block b d)
  rw[AP]at hx;subst hx;exact a v
 have H:=z.size;have C:=u.size;exact((z.trans (u.mono H)).alloc (by omega) _).grown E (by simp;omega) (λq R=>(n.lt q R).1)
theorem Rl{l:List Int}(h:∀v∈l,-9223372036854775808<=v/\v<=9223372036854775807)(a:l.length<=1048576):(l.map (FZ 1)).length<=2000000/\∀v∈l.map (FZ 1),-9223372036854775808<=v/\v<=9223372036854775807:=by
 refine⟨by rw[Aq];omega,λv e=> ?_⟩;obtain⟨u,t,rfl⟩:=BL.1 e;have:=h u t;unfold FZ;split<;>omega
def VV(l:List Dh)(t:List Int)(w:AB)(e:Bx)(w':AB):Prop:=
 ∃a m c b,e= .returned (.tuple #[.slice a m c,.bool b])/\(b=true->∃l2:List Dh,m=l2.length/\On w' w'.heap.size a l2/\M5 1 l l2/\∀i (h:i<l.length) (o:i<l2.length),XA t l[i] l2[i])/\AL w.heap.size w w'
theorem WS{W:AB}{l2:List Dh}(d:l2.length=n)(t:W.ownsRow w.heap.size 45 6 (.slice a n c) n (EQ l2))(r:∀x∈l2,MB w W x)(i:AL w.heap.size w W):On W W.heap.size a l2:=by
 subst d;refine⟨?_,λx hx=> ?_⟩
 .rcases BJ l2.length with o|o
  .exact .inl (Ag o)
  obtain⟨g,m,e⟩:=FW t o;cases e
  refine .inr ⟨g,0,rfl,(t.lt g rfl).2,λk l j v e=> ?_⟩;have u:j<6:=by
   have:=(AE.1 e).1;simpa [Dh.vv,BW]using this
  have s:=Tx l j u;rw[e]at s;have:=t.cells (g:=g) rfl (k*6+j) v s;rw[Ba,By]at this;rw[By];exact this
 have h:=r x hx;refine⟨⟨Bh (IR (by simp) h.on),by have:=h.onr.1;simp only[maxLen];omega,h.onr.2⟩,⟨Bh (IR (by simp) h.wi),by have:=h.wir.1;simp only[maxLen];omega,h.wir.2⟩,(h.nm.below i).more i.size,h.cap,by have:=h.onr.1;omega,by have:=h.wir.1;omega⟩
theorem Ql(l:List Dh)(hl:l.length<=4)(O:∀x∈l,x.on.length<=1048576/\x.wi.length<=1048576)(s:List Int)(ht:s.length<=5)(al:Option Ai)(cl:Nat)(at_:Option Ai)(ct:Nat)(w:AB)(h:On w w.heap.size al l)(htp:B6 w w.heap.size at_ (E3 s)):
 AX AC 11 #[.slice al l.length cl,.slice at_ s.length ct] w (VV l s w):=by
 have HS:=AA h;have HT:=AA htp;have HL:=AA O;clear h htp O;go_enter func11,ntmps11;go_wp2;go_loopw [6,7,8,9,10,11] (λv x _ _ _ _ wr=>∃k:Nat,k<=l.length/\x= .int .i64 k/\Hid (Xm l s w k v wr)) (λ_ x _ _ _ _ _=>l.length-(Aa x).toNat)
 .exact⟨0,by omega,rfl,[],none,0,rfl,rfl,.nil,λi _ h2=>absurd h2 (Nat.not_lt_zero _),⟨by simp[EQ],.inl ⟨rfl,rfl⟩⟩,λx h=>absurd h List.not_mem_nil,AW _ _⟩
 obtain⟨k,hk,rfl,HR⟩:=hrel;obtain⟨W,rfl⟩:∃W:AB,W=wr:=⟨_,rfl⟩;obtain⟨l2,a0,c0,q1,rfl,q3,q4,q5,q6,T⟩:=HR.o;have Q3:=AA q3;have Q4:=AA q4;have Q5:=AA q5;have Q6:=AA q6;clear q3 q4 q5 q6 HR;by_cases H:k<l.length
 .have hRW:=HS.o.below T;have hOk:=hRW.ok _ (AD H);obtain⟨b,o,rfl,hbB,hc⟩:∃b o,al=some ⟨b,o,none⟩/\b<w.heap.size/\∀j v,l[k].vv[j]? =some v->W.cell? ⟨b,o+k*6+j,none⟩=some v:=by
   rcases hRW.row with e|⟨b,o,e,h1,h2⟩
   .rw[e]at H;exact absurd H (Nat.not_lt_zero _)
   exact⟨b,o,e,h1,h2 k H⟩
  obtain⟨n1,n2⟩:=HL.o _ (AD H);obtain⟨⟨op,oa,on,oc,wa,wi,wc,ky,vl,la,nm,lc⟩,hx⟩:∃x,x=l[k]:=⟨_,rfl⟩;rw[<-hx]at hc hOk n1 n2;have g0:W.cell? ⟨b,o+k*6,none⟩=some (.int .i64 op):=hc 0 _ rfl;have g1:W.cell? ⟨b,o+k*6+1,none⟩=some (.slice oa on.length oc):=hc 1 _ rfl;have g2:W.cell? ⟨b,o+k*6+2,none⟩=some (.slice wa wi.length wc):=hc 2 _ rfl;have g3:W.cell? ⟨b,o+k*6+3,none⟩=some (.string ky):=hc 3 _ rfl;have g4:W.cell? ⟨b,o+k*6+4,none⟩=some (.string vl):=hc 4 _ rfl;have g5:W.cell? ⟨b,o+k*6+5,none⟩=some (.slice la nm.length lc):=hc 5 _ rfl;have et:=AA hOk;have Hx:=AA hx;have E:=AA T;have HXc:Hid (∀wr,AL W.heap.size W wr->wr.cell? ⟨b,o+k*6,none⟩=some (.int .i64 op)/\wr.cell? ⟨b,o+k*6+1,none⟩=some (.slice oa on.length oc)/\Kj wr wr.heap.size oa on/\wr.cell? ⟨b,o+k*6+2,none⟩=some (.slice wa wi.length wc)/\Kj wr wr.heap.size wa wi):=by
   intro wr Y;have hbl:b<W.heap.size:=AR hbB T.size;have hO:=hOk.below (Y.mono T.size);exact⟨(Y.cell (p:=⟨b,_,none⟩) hbl).trans g0,(Y.cell (p:=⟨b,_,none⟩) hbl).trans g1,hO.on.more (AH T.size Y.size),(Y.cell (p:=⟨b,_,none⟩) hbl).trans g2,hO.wi.more (AH T.size Y.size)⟩
  clear hc hOk hRW hx T;cases h8:(op==8)with
  |true=>
   go_wp2_with fail;go_ret2;exact⟨_,_,_,false,rfl,by simp,(E.o).alloc E.o.size _⟩
  |false=>
   obtain⟨W1,hW1⟩:∃W1,W1=W.alloc (.cells #[.int .i64 op,.slice none 0 0,.slice none 0 0,.string ky,.string vl,.slice la nm.length lc] 45):=⟨_,rfl⟩;have hb1:AL W.heap.size W W1:=by rw[hW1];exact Ac
   have hq:W1.heap[W.heap.size]? =some (.cells (BW op (.slice none 0 0) (.slice none 0 0) ky vl (.slice la nm.length lc)) 45 (0,0)):=by rw[hW1];exact Ah W _
   have HI0:Hid (Xf W op on ky vl (.slice la nm.length lc) 0 W1):=⟨none,0,hq,⟨by simp[E3],.inl ⟨rfl,rfl⟩⟩,hb1⟩;clear hb1 hq;go_wp2_with fail;rw[<-hW1];clear hW1 g0 g1 g2 g3 g4 g5;go_loopw [9] (λv wr=>∃j:Nat,j<=on.length/\v= .int .i64 j/\Hid (Xf W op on ky vl (.slice la nm.length lc) j wr)) (λv _=>on.length-(Aa v).toNat)
   .exact⟨0,by omega,rfl,HI0.o⟩
   obtain⟨j,hj,rfl,B⟩:=hrel;obtain⟨N,rfl⟩:∃W:AB,W=wr:=⟨_,rfl⟩;have g1:=(HXc.o N B.o.below).2.1;by_cases m:j<on.length
   .obtain⟨q,c1,u,t,r⟩:=B.o;have f1:N.cell? ⟨W.heap.size,1,none⟩=some (.slice q j c1):=Aj u;have fz1:N.frozen? ⟨W.heap.size,1,none⟩=false:=FE u;have Q:=(HXc.o N r).2.2.1;obtain⟨b5,o5,rfl,hb5,Z⟩:=Q.row.at_ (by rw[CL];omega);have g6:=Z j (by rw[CL];exact m);rw[IK m]at g6;have HW:=AA t;have R:=AA r;have G:=AA u;have hsz:=r.size;obtain⟨z,M⟩:∃z,z=on[j]:=⟨_,rfl⟩;have V:=(et.o.on.rng z (by rw[M];exact AD m));rw[<-M]at g6;have ee:Hid ((on.take (j+1)).map (FZ 1)=(on.take j).map (FZ 1)++[IntKind.i64.wrap (z+1)]):=by
     rw[Hid,AF m,B3,<-M,<-Pp V];rfl
    have L:Hid ((List.map (FZ 1) (on.take j)).length=j):=(by rw[Hid,Aq,At];omega);have HRw:=AA (IR L.o.symm ((HW.o.drew).alloc (.cells #[.int .i64 (IntKind.i64.wrap (z+1))] 3)));have eo:=AA (Pk N.drew (IntKind.i64.wrap (z+1)));have HNx:Hid (∀g c2 I,I.ownsRow (W.heap.size+1) 3 1 (.slice g ((on.take j).map (FZ 1)++[IntKind.i64.wrap (z+1)]).length c2) ((on.take j).map (FZ 1)++[IntKind.i64.wrap (z+1)]).length (E3 ((on.take j).map (FZ 1)++[IntKind.i64.wrap (z+1)]))->(N.drew.alloc (.cells #[.int .i64 (IntKind.i64.wrap (z+1))] 3)).grownBy I (AO q j c1).ownBlock->I.cell? ⟨W.heap.size,1,none⟩=some (.slice q j c1)/\I.frozen? ⟨W.heap.size,1,none⟩=false/\Xf W op on ky vl (.slice la nm.length lc) (j+1) (I.setCell ⟨W.heap.size,1,none⟩ (.slice g (j+1) c2))):=by
     intro g c2 I h1 h2;have O:((on.take j).map (FZ 1)++[IntKind.i64.wrap (z+1)]).length=j+1:=(by rw[AN,L.o];rfl);rw[O,<-ee.o]at h1;exact Uf G.o HW.o R.o h2 h1
    have f1b:(N.alloc (.cells #[.int .i64 (IntKind.i64.wrap (z+1))] 3)).cell? ⟨W.heap.size,1,none⟩=some (.slice q j c1):=by
     rw[Fv _ _ _ (by show W.heap.size<N.heap.size;exact(AE.1 u).1)];exact f1
    clear Z Q t r u B M V;go_wp2_with fail;go_region_law (refine G2 rfl (.tmp 38) (.tmp 48) rfl (W.heap.size+1) (.slice q j c1) ((on.take j).map (FZ 1)) rfl HRw.o (some ⟨N.heap.size,0,none⟩) 1 1 [IntKind.i64.wrap (z+1)] rfl rfl eo.o (by rw[L.o];simp;omega) (by show _<=(N.drew.alloc _).heap.size;simp;omega) ?_;intro g c2 I d X ea;obtain⟨fc2,fz2,hN⟩:=HNx.o g c2 I d X;have HN:=AA hN;clear d X ea hN);all_goals
     go_wp2;go_roundw
     .exact⟨j+1,m,by go_num,HN.o⟩
     simp[Aa];omega
   have ej:j=on.length:=by omega
   subst ej;obtain⟨q,c1,u,t,r⟩:=B.o;rw[AU]at t;have HOw1:=AA t;have hgW:W.heap.size<N.heap.size:=(AE.1 u).1;have HI1:Hid (Xg W N op (.slice q on.length c1) wi ky vl (.slice la nm.length lc) 0 N):=⟨none,0,u,⟨by simp[E3],.inl ⟨rfl,rfl⟩⟩,λb _ _=>rfl,r,AG _⟩;clear t r u B HI0;go_wp2_with fail;clear g1;go_loopw [10] (λv wr=>∃j:Nat,j<=wi.length/\v= .int .i64 j/\Hid (Xg W N op (.slice q on.length c1) wi ky vl (.slice la nm.length lc) j wr)) (λv _=>wi.length-(Aa v).toNat)
   .exact⟨0,by omega,rfl,HI1.o⟩
   obtain⟨j,hj,rfl,B⟩:=hrel;obtain⟨A,rfl⟩:∃W:AB,W=wr:=⟨_,rfl⟩;have g2:=(HXc.o A B.o.below).2.2.2.1;by_cases m:j<wi.length
   .obtain⟨g,c2,u,t,J,r,hs3⟩:=B.o;have f1:A.cell? ⟨W.heap.size,2,none⟩=some (.slice g j c2):=Aj u;have fz1:A.frozen? ⟨W.heap.size,2,none⟩=false:=FE u;have Q:=(HXc.o A r).2.2.2.2;obtain⟨b5,o5,rfl,hb5,Z⟩:=Q.row.at_ (by rw[CL];omega);have g6:=Z j (by rw[CL];exact m);rw[IK m]at g6;have HW:=AA t;have R:=AA r;have G:=AA u;have HKp:=AA J;have hsz:=r.size;obtain⟨z,M⟩:∃z,z=wi[j]:=⟨_,rfl⟩;have V:=(et.o.wi.rng z (by rw[M];exact AD m));rw[<-M]at g6;have ee:Hid ((wi.take (j+1)).map (FZ 1)=(wi.take j).map (FZ 1)++[IntKind.i64.wrap (z+1)]):=by
     rw[Hid,AF m,B3,<-M,<-Pp V];rfl
    have L:Hid ((List.map (FZ 1) (wi.take j)).length=j):=(by rw[Hid,Aq,At];omega);have HRw:=AA (IR L.o.symm ((HW.o.drew).alloc (.cells #[.int .i64 (IntKind.i64.wrap (z+1))] 3)));have eo:=AA (Pk A.drew (IntKind.i64.wrap (z+1)));have HNx:Hid (∀a3 c3 I,I.ownsRow N.heap.size 3 1 (.slice a3 ((wi.take j).map (FZ 1)++[IntKind.i64.wrap (z+1)]).length c3) ((wi.take j).map (FZ 1)++[IntKind.i64.wrap (z+1)]).length (E3 ((wi.take j).map (FZ 1)++[IntKind.i64.wrap (z+1)]))->(A.drew.alloc (.cells #[.int .i64 (IntKind.i64.wrap (z+1))] 3)).grownBy I (AO g j c2).ownBlock->I.cell? ⟨W.heap.size,2,none⟩=some (.slice g j c2)/\I.frozen? ⟨W.heap.size,2,none⟩=false/\Xg W N op (.slice q on.length c1) wi ky vl (.slice la nm.length lc) (j+1) (I.setCell ⟨W.heap.size,2,none⟩ (.slice a3 (j+1) c3))):=by
     intro a3 c3 I h1 h2;have O:((wi.take j).map (FZ 1)++[IntKind.i64.wrap (z+1)]).length=j+1:=(by rw[AN,L.o];rfl);rw[O,<-ee.o]at h1;exact VC hgW G.o HW.o HKp.o R.o hs3 h2 h1
    have f1b:(A.alloc (.cells #[.int .i64 (IntKind.i64.wrap (z+1))] 3)).cell? ⟨W.heap.size,2,none⟩=some (.slice g j c2):=by
     rw[Fv _ _ _ (by show W.heap.size<A.heap.size;exact(AE.1 u).1)];exact f1
    clear Z Q t r u B M V J;go_wp2_with fail;go_region_law (refine G2 rfl (.tmp 62) (.tmp 72) rfl N.heap.size (.slice g j c2) ((wi.take j).map (FZ 1)) rfl HRw.o (some ⟨A.heap.size,0,none⟩) 1 1 [IntKind.i64.wrap (z+1)] rfl rfl eo.o (by rw[L.o];simp;omega) (by show _<=(A.drew.alloc _).heap.size;simp;omega) ?_;intro a3 c3 I d X ea;obtain⟨fc2,fz2,hN⟩:=HNx.o a3 c3 I d X;have HN:=AA hN;clear d X ea hN);all_goals
     go_wp2;go_roundw
     .exact⟨j+1,m,by go_num,HN.o⟩
     simp[Aa];omega
   have ej:j=wi.length:=by omega
   subst ej;obtain⟨g,c2,u,d,J,r,hs3⟩:=B.o;rw[AU]at d;obtain⟨y,hy⟩:∃y:Dh,y=⟨op,q,on.map (FZ 1),c1,g,wi.map (FZ 1),c2,ky,vl,la,nm,lc⟩:=⟨_,rfl⟩;have t:A.ownsRow (W.heap.size+1) 3 1 (.slice q on.length c1) on.length (E3 (on.map (FZ 1))):=BB HOw1.o (λb h1 h2=>J b h2 (by omega));have HOy:Hid (MB w A y):=by
    have hsW:=E.o.size;rw[hy];refine⟨?_,?_,?_,?_,?_,?_⟩
    .show A.ownsRow _ _ _ (.slice q (on.map (FZ 1)).length c1) (on.map (FZ 1)).length _;rw[Aq];exact Bf t (by omega)
    .show A.ownsRow _ _ _ (.slice g (wi.map (FZ 1)).length c2) (wi.map (FZ 1)).length _;rw[Aq];exact Bf d (by omega)
    .have:=(HS.o.ok _ (AD H)).nm;rw[<-Hx.o]at this;exact this
    .exact et.o.cap
    .exact Rl et.o.on.rng n1
    exact Rl et.o.wi.rng n2
   have HRy:Hid (Xq 1 l[k] y):=by rw[hy,<-Hx.o];exact⟨rfl,rfl,rfl,rfl,rfl,rfl⟩
   have G:=AA u;have R:=AA r;have HRo:Hid (B6 A A.heap.size q (E3 (on.map (FZ 1)))):=Bh (IR (by simp) t);have HRi:Hid (B6 A A.heap.size g (E3 (wi.map (FZ 1)))):=Bh (IR (by simp) d);have Hy:=AA hy;clear u t d J r B HI1 hy;go_wp2_with fail;clear g2;go_loopw [11] (λv wr=>∃j:Nat,j<=s.length/\v= .int .i64 j/\Hid (AL A.heap.size A wr)/\Hid (∀z∈s.take j,z∉on.map (FZ 1)/\z∉wi.map (FZ 1))) (λv _=>s.length-(Aa v).toNat)
   .exact⟨0,by omega,rfl,AW _ _,λz h=>by simp at h⟩
   obtain⟨j,hj,rfl,U,HZ⟩:=hrel;obtain⟨f,rfl⟩:∃W:AB,W=wr:=⟨_,rfl⟩;have S:f.heap[W.heap.size]? =some (.cells (BW op (.slice q on.length c1) (.slice g wi.length c2) ky vl (.slice la nm.length lc)) 45 (0,0)):=(U.o.block _ (AE.1 G.o).1).trans G.o;have u0:f.cell? ⟨W.heap.size,0,none⟩=some (.int .i64 op):=Aj S;have u1:f.cell? ⟨W.heap.size,1,none⟩=some (.slice q on.length c1):=Aj S;have u2:f.cell? ⟨W.heap.size,2,none⟩=some (.slice g wi.length c2):=Aj S;have u3:f.cell? ⟨W.heap.size,3,none⟩=some (.string ky):=Aj S;have u4':f.cell? ⟨W.heap.size,4,none⟩=some (.string vl):=Aj S;have u5':f.cell? ⟨W.heap.size,5,none⟩=some (.slice la nm.length lc):=Aj S;have C:AL W.heap.size W f:=R.o.trans (U.o.mono R.o.size);have ei:=AA C;by_cases m:j<s.length
   .have hbw4:=E.o.trans (C.mono E.o.size);obtain⟨bt,ot,rfl,hbt,hct⟩:=((HT.o.below hbw4)).at_ (by rw[CL];omega);have g7:=hct j (by rw[CL];exact m);rw[IK m]at g7;obtain⟨z,M⟩:∃z,z=s[j]:=⟨_,rfl⟩;rw[<-M]at g7;have D:Hid (∀nq,AX AC 19 #[.slice q on.length c1,.int .i64 z] (f.drewN nq) λe w'=>e= .returned (.bool (decide (z∈on.map (FZ 1))))/\(f.drewN nq)=w'):=λnq=>by
     have hh:=BC U.o nq;have:=Iw q c1 (on.map (FZ 1)) (by simp;omega) z (f.drewN nq) ((HRo.o.up hh));rw[Aq]at this;exact this
    have P:Hid (∀nq,AX AC 19 #[.slice g wi.length c2,.int .i64 z] (f.drewN nq) λe w'=>e= .returned (.bool (decide (z∈wi.map (FZ 1))))/\(f.drewN nq)=w'):=λnq=>by
     have hh:=BC U.o nq;have:=Iw g c2 (wi.map (FZ 1)) (by simp;omega) z (f.drewN nq) ((HRi.o.up hh));rw[Aq]at this;exact this
    have ee:Hid (s.take (j+1)=s.take j++[z]):=(by rw[Hid,AF m,M]);clear hct S C hbw4 M;have hAl:Hid (∀nq,AL w.heap.size w (f.drewN nq)):=λnq=>E.o.trans ((R.o.trans ((BC U.o nq).mono R.o.size)).mono E.o.size);cases F:decide (z∈on.map (FZ 1))with
    |true=>
     rw[F]at D;clear F;go_wp2_with fail;go_quiet((go_at_call 19;exact E_ (D.o _)));go_wp2_with fail;go_ret2;exact⟨_,_,_,false,rfl,by simp,hAl.o _⟩
    |false=>
     rw[F]at D;cases K:decide (z∈wi.map (FZ 1))with
     |true=>
      rw[K]at P;have HPq:Hid (∀nq a n c b,(a=q/\n=on.length/\c=c1/\b=false\/a=g/\n=wi.length/\c=c2/\b=true)->AX AC 19 #[.slice a n c,.int .i64 z] (f.drewN nq) λe w'=>e= .returned (.bool b)/\(f.drewN nq)=w'):=by
       rintro nq a n c b (⟨rfl,rfl,rfl,rfl⟩|⟨rfl,rfl,rfl,rfl⟩)
       .exact D.o nq
       exact P.o nq
      clear D P;clear F K;go_wp2_with fail;go_quiet((go_at_call 19;exact E_ (HPq.o _ _ _ _ _ (by first|exact .inl ⟨rfl,rfl,rfl,rfl⟩|exact .inr ⟨rfl,rfl,rfl,rfl⟩))));go_wp2_with fail;go_ret2;exact⟨_,_,_,false,rfl,by simp,hAl.o _⟩
     |false=>
      rw[K]at P;have HPq:Hid (∀nq a n c b,(a=q/\n=on.length/\c=c1/\b=false\/a=g/\n=wi.length/\c=c2/\b=false)->AX AC 19 #[.slice a n c,.int .i64 z] (f.drewN nq) λe w'=>e= .returned (.bool b)/\(f.drewN nq)=w'):=by
       rintro nq a n c b (⟨rfl,rfl,rfl,rfl⟩|⟨rfl,rfl,rfl,rfl⟩)
       .exact D.o nq
       exact P.o nq
      clear D P;have HZ2:Hid (∀z∈s.take (j+1),z∉on.map (FZ 1)/\z∉wi.map (FZ 1)):=by
       intro x hx;rw[ee.o,AV,AP]at hx;rcases hx with hx|hx
       .exact HZ.o x hx
       subst hx;exact⟨of_decide_eq_false F,of_decide_eq_false K⟩
      clear F K;go_wp2_with fail;go_quiet((go_at_call 19;exact E_ (HPq.o _ _ _ _ _ (by first|exact .inl ⟨rfl,rfl,rfl,rfl⟩|exact .inr ⟨rfl,rfl,rfl,rfl⟩))));go_wp2;go_roundw
      .exact⟨j+1,m,by go_num,BC U.o _,HZ2.o⟩
      simp[Aa];omega
   have ej:j=s.length:=by omega
   subst ej;rw[AU]at HZ;have HMc:Hid (XA s l[k] y):=by
    rw[Hy.o,<-Hx.o];exact⟨λe=>by rw[show op=8 from e]at h8;simp at h8,HZ.o⟩
   have HV:Hid (y.vv= #[.int .i64 op,.slice q on.length c1,.slice g wi.length c2,.string ky,.string vl,.slice la nm.length lc]):=by rw[Hid,Hy.o];simp[Dh.vv,BW]
   have HRd:Hid (GC (f.alloc (.cells #[.int .i64 op,.slice q on.length c1,.slice g wi.length c2,.string ky,.string vl,.slice la nm.length lc] 45)) (f.alloc (.cells #[.int .i64 op,.slice q on.length c1,.slice g wi.length c2,.string ky,.string vl,.slice la nm.length lc] 45)).heap.size 6 (some ⟨f.heap.size,0,none⟩) 1 (EQ [y])):=by
    have:=Ux f 45 y;rw[HV.o]at this;rw[Hid,BX];exact this
   have hl2:l2.length+[y].length<=1000000:=by simp;omega
   have HO4:Hid (MB w f y):=HOy.o.kept λb _ h1=>U.o.block b h1;have HQ5:Hid (f.ownsRow w.heap.size 45 6 (.slice a0 k c0) l2.length (EQ l2)):=IR q1.symm (BB Q5.o (λb _ h=>ei.o.block b h));have HOa:=AA (HQ5.o.alloc (.cells #[.int .i64 op,.slice q on.length c1,.slice g wi.length c2,.string ky,.string vl,.slice la nm.length lc] 45));have hbs:w.heap.size<=(f.alloc (.cells #[.int .i64 op,.slice q on.length c1,.slice g wi.length c2,.string ky,.string vl,.slice la nm.length lc] 45)).heap.size:=by have:=E.o.size;have:=ei.o.size;simp;omega
   clear S C;go_wp2_with(at_builtin;refine LI rfl _ _ rfl w.heap.size (.slice a0 k c0) l2 rfl HOa.o (some ⟨f.heap.size,0,none⟩) 1 1 [y] rfl rfl HRd.o hl2 hbs ?_);intro a' c' I en hg hat;have HF:Hid (Xm l s w (k+1) (.slice a' (k+1) c') I):=Xm.next H q1 Q3.o Q4.o Q5.o Q6.o E.o HRy.o HMc.o HO4.o ei.o hg en;clear en hg hat;go_wp2;go_roundw
   .exact⟨k+1,H,by go_num,HF.o⟩
   simp[Aa];omega
 have ek:k=l.length:=by omega
 subst ek;rw[AU]at Q3;have HF:Hid (∃l3:List Dh,l.length=l3.length/\On W W.heap.size a0 l3/\M5 1 l l3/\∀i (h:i<l.length) (h2:i<l3.length),XA s l[i] l3[i]):=⟨l2,q1.symm,WS q1 Q5.o Q6.o T,Q3.o,Q4.o⟩;have E:=AA T;clear T;go_wp2_with fail;go_ret2;exact⟨_,_,_,true,rfl,λ_=>HF.o,E.o⟩
theorem PZ{b o:Nat}{A:List Nd}(h:Gp w B (some ⟨b,o,none⟩) A)(k m:Nat)(t:k<A.length)(u:k+m<=A.length):Gp w B (some ⟨b,o+k*5,none⟩) ((A.drop k).take m):=by
 obtain⟨c,d,r⟩:=h;refine⟨by simp only[At,DN];omega,λx hx=>d x (List.mem_of_mem_drop (Ci hx)),?_⟩;rcases r with e|⟨f,l,e,s,n⟩
 .rw[e]at t;simp at t
 cases e
 refine .inr ⟨b,o+k*5,rfl,s,λi a=> ?_⟩;simp only[At,DN]at a;have:=n (k+i) (by omega);have e1:((A.drop k).take m).getD i default=A.getD (k+i) default:=by
  rw[Ae,Ae,List.getElem?_take,AJ (by omega),List.getElem?_drop]
 have e2:o+k*5+i*5=o+(k+i)*5:=by omega
 rw[e1,e2];exact this
theorem Ro(A:List Nd)(u:A.length<=100000)(b o c:Nat)(i:A.length<=c)(k m:Nat)(n:k<A.length)(d:k+m<=A.length)(w:AB)(h:Gp w w.heap.size (some ⟨b,o,none⟩) A)(t:A[k].size=(m:Int)):
 AX AC 12 #[.slice (some ⟨b,o,none⟩) A.length c,.int .i64 (k:Nat)] w λe w'=>e= .returned (.slice (some ⟨b,o+k*5,none⟩) m (c-k))/\w'=w:=by
 obtain⟨p,r,e,l,a⟩:=h.at_ (by omega);cases e
 obtain⟨-,-,-,-,s,-⟩:=a k n;rw[t]at s;have g:k<=c:=by omega
 have y:k+m<=c:=by omega
 have f:¬(k=c):=by omega
 clear a h t;go_enter func12,ntmps12;go_wp2;go_ret;refine⟨?_,rfl⟩;simp
theorem Tw{l:List Nd}:∀{k:Nat} (h:k<l.length) (j:Nat),j<5->(B7 l)[k*5+j]? =(EY l[k])[j]? :=by
 induction l with
 |nil=>intro k h;exact absurd h (Nat.not_lt_zero _)
 |cons x l e=>
  intro k h j t;have hx:(EY x).length=5:=rfl;show(EY x++B7 l)[k*5+j]? =_;cases k with
  |zero=>
   rw[Nat.zero_mul,By,List.getElem?_append_left (by omega)];rfl
  |succ k=>
   rw[EV (by omega),hx,show(k+1)*5+j-5=k*5+j by omega];exact e (by simpa using h) j t
theorem Nh{b o:Nat}{A:List Nd}(h:Gp w B (some ⟨b,o,none⟩) A):GC w B 5 (some ⟨b,o,none⟩) A.length (B7 A):=by
 refine⟨C_ A,λd=> ?_⟩;obtain⟨v,g,e,n,i⟩:=h.at_ d;cases e
 refine⟨_,rfl,n,λj u t=> ?_⟩;have p:j<A.length*5:=by
  have:=(C6.1 t).1
  rwa [C_]at this
 have a:j/5<A.length:=by omega
 have e:j=j/5*5+j%5:=by omega
 rw[e,Tw a _ (Nat.mod_lt _ (by decide))]at t;obtain⟨y,f,m,c,l,-⟩:=i _ a;rw[Ba,e];have s:j%5<5:=Nat.mod_lt _ (by decide);generalize j%5=r at*;generalize j/5=q at*
 match r,s with
 |0,_=>simp[EY]at t;subst t;exact y
 |1,_=>simp[EY]at t;subst t;rw[<-Cc];exact f
 |2,_=>simp[EY]at t;subst t;rw[<-Cc];exact m
 |3,_=>simp[EY]at t;subst t;rw[<-Cc];exact c
 |4,_=>simp[EY]at t;subst t;rw[<-Cc];exact l
def FH(t:List Nd)(ns:List Nat):List Int:=(BV ns.length).map λi=>((CS t ns i+1:Nat):Int)
theorem ED(t:List Nd)(ns:List Nat):(FH t ns).length=ns.length:=by simp[FH]
theorem Q8(t:List Nd)(ns:List Nat)(h:k<ns.length):(FH t ns).take (k+1)=(FH t ns).take k++[((CS t ns k+1:Nat):Int)]:=by
 rw[AF (by rw[ED];exact h)];simp[FH]
theorem Qo(a:CQ t)(i:∀n∈G,n<t.length):∀k,k<=G.length->CS t G k<=k*200:=by
 intro k;induction k with
 |zero=>intro _;simp[CS]
 |succ k o=>
  intro s;have e:k<G.length:=by omega
  have d:=(a.lam _ (AY _) (i _ (AD e))).2.2.1;have r:=a.le;have h:=o (by omega);rw[FF t G e];omega
theorem Pa{e size m:Nat}{xs:List AS}(t:n=m)(h:w.ownsRow B e size (.slice a n c) n xs):w.ownsRow B e size (.slice a n c) m xs:=by subst t;exact h
theorem Ur(w:AB)(v:Int):B6 (w.alloc (.cells #[.int .i64 v] 3)) (w.alloc (.cells #[.int .i64 v] 3)).heap.size (some ⟨w.heap.size,0,none⟩) (E3 [v]):=by
 refine .inr ⟨w.heap.size,0,rfl,by simp,λi e=> ?_⟩;have t:i=0:=by simp[E3]at e;omega
 subst t;rw[Dj,BI];rfl
theorem WB{e size:Nat}{xs:List AS}(h:w.ownsRow B e size (.slice (some ⟨g,0,none⟩) n c) n xs):n<=c:=by
 rcases h.2 with⟨t,_⟩|⟨i,cap,o,t,_,_,a,_⟩
 .cases t
 cases t;exact a
def NX:Nd:=⟨1,⟨#[]⟩,⟨#[]⟩,none,0,[],0⟩
def QA(t:List Nd)(ns:List Nat)(w:AB)(e:Bx)(w':AB):Prop:=
 ∃a m c n i c2 o,e= .returned (.tuple #[.slice a m c,.slice n i c2])/\m=o.length/\m<=c/\Gp w' w'.heap.size a o/\(∃z,o={NX with size:=z}::LO t ns)/\i=ns.length/\B6 w' w'.heap.size n (E3 (FH t ns))/\AL w.heap.size w w'
def TM(t:List Nd)(ns:List Nat)(w:AB)(k:Nat)(v u:AS)(wr:AB):Prop:=
 ∃a c e c2,v= .slice a (CS t ns k+1) c/\u= .slice e k c2/\wr.ownsRow w.heap.size 41 5 (.slice a (CS t ns k+1) c) (CS t ns k+1) (B7 (NX::LO t (ns.take k)))/\
  wr.ownsRow w.heap.size 3 1 (.slice e k c2) k (E3 ((FH t ns).take k))/\AL w.heap.size w wr
theorem O'(hR:CQ t)(hn:∀n∈G,n<t.length)(hl:G.length<=5)(ad:Option Ai)(c:Nat)(eu:t.length<=c)(a2:Option Ai)(c2:Nat)(w:AB)(h:Gp w w.heap.size ad t)(hi:B6 w w.heap.size a2 (Kw G)):
 AX AC 10 #[.slice ad t.length c,.slice a2 G.length c2] w (QA t G w):=by
 obtain⟨b,o,rfl,hbB,-⟩:=h.at_ hR.pos;have hle:=hR.le;have HH:=AA h;have Q:=AA hR;have J:=AA hn;have HI:=AA hi;clear h hR hn hi;obtain⟨W0,I⟩:∃W0,W0=w.alloc (.cells #[.int .i64 1,.string ⟨#[]⟩,.string ⟨#[]⟩,.slice none 0 0,.int .i64 0] 41):=⟨_,rfl⟩;have HI0:Hid (TM t G w 0 (.slice (some ⟨w.heap.size,0,none⟩) 1 1) (.slice none 0 0) W0):=by
  refine⟨_,_,_,_,rfl,rfl,⟨rfl,.inr ⟨w.heap.size,1,#[.int .i64 1,.string ⟨#[]⟩,.string ⟨#[]⟩,.slice none 0 0,.int .i64 0],rfl,AG _,?_,AG _,by simp[maxLen],rfl,rfl⟩⟩,⟨by simp[E3],.inl ⟨rfl,rfl⟩⟩,?_⟩
  .rw[I];exact Ah w _
  rw[I];exact Ac
 go_enter func10,ntmps10;go_wp2_with fail;rw[<-I];clear I;go_loopw [6,7,8] (λv u x wr=>∃k:Nat,k<=G.length/\x= .int .i64 k/\Hid (TM t G w k v u wr)) (λ_ _ x _=>G.length-(Aa x).toNat)
 .exact⟨0,by omega,rfl,HI0.o⟩
 obtain⟨k,hk,rfl,HC⟩:=hrel;obtain⟨W,rfl⟩:∃W:AB,W=wr:=⟨_,rfl⟩;obtain⟨a,c3,a4,c4,rfl,rfl,y,K,D⟩:=HC.o;by_cases r:k<G.length
 .have hx:=J.o _ (AD r);obtain⟨x,j⟩:∃x,x=G[k]:=⟨_,rfl⟩;rw[<-j]at hx;have i:=Q.o.lam x (AY _) hx;have hts:t[x].size=((sz t x:Nat):Int):=by
   have:=i.1
   rwa [Ae,AK hx,BE]at this
  have Z:=Qo Q.o J.o k (by omega);obtain⟨m,A⟩:∃m,m=CS t G k+1:=⟨_,rfl⟩;have el:CS t G (k+1)+1=m+sz t x:=by rw[FF t G r,j,A];omega
  have eh:=AA A;have ei:=AA j;have hmb:m<=100000:=by omega
  rw[<-A]at y|-;obtain⟨bi,oi,hai,hbi,et⟩:=(HI.o.below D).at_ (by rw[Ea];omega);have gi:=et k (by rw[Ea];exact r);have gi:W.cell? ⟨bi,oi+k,none⟩=some (.int .i64 (x:Int)):=by rw[gi];simp[Kw,j]
  have HO:=AA y;have HU:=AA K;have HB:=AA D;obtain⟨R,z⟩:∃R,R=(FH t G).take k:=⟨_,rfl⟩;have HNu:Hid (((FH t G).take (k+1))=R++[(m:Int)]):=by rw[Hid,Q8 t G r,A,z]
  have B:Hid (R.length=k):=by rw[Hid,z,At,ED];omega
  rw[<-z]at HU;have Hus:=AA z;have ey:=AA (Ur W (m:Int));have HUa:=AA (Pa B.o.symm (HU.o.alloc (.cells #[.int .i64 (m:Int)] 3)));have ea:w.heap.size<=(W.alloc (.cells #[.int .i64 (m:Int)] 3)).heap.size:=by have:=D.size;simp;omega
  have hlu:R.length+[(m:Int)].length<=100000000:=by rw[B.o];simp;omega
  have hbW:AL w.heap.size w W:=D;clear y K D et A z j;subst hai;go_wp2_with(at_builtin;refine Jc rfl _ _ rfl w.heap.size (.slice a4 k c4) R rfl HUa.o (some ⟨W.heap.size,0,none⟩) 1 1 [(m:Int)] rfl rfl ey.o hlu ea ?_);intro a5 c5 w1 l M ew;have hul:R.length+1=k+1:=by rw[B.o]
  rw[hul]at l|-;have E:AL w.heap.size w w1:=(HB.o.alloc HB.o.size _).grown M ea (λq T=>(HU.o.lt q T).1);have ee:w1.ownsRow w.heap.size 41 5 (.slice a m c3) m (B7 (NX::LO t (G.take k))):=Cv HO.o (λq T f=>by
   rw[M.block q (by simp;omega) (JL HO.o HU.o (by decide) T)];exact B5 _ _ _ f)
  have gi1:w1.cell? ⟨bi,oi+k,none⟩=some (.int .i64 (x:Int)):=by
   obtain⟨b9,o9,e9,-,hc9⟩:=(HI.o.below E).at_ (by rw[Ea];omega);cases e9
   have:=hc9 k (by rw[Ea];exact r);rw[this];simp[Kw,ei.o]
  have HSb:=AA (Ro t (by omega) b o c eu x (sz t x) hx i.2.2.1 w1 (HH.o.up E) hts);have ed:=AA E;have N:=AA (Pa (m:=(NX::LO t (G.take k)).length) (by rw[eh.o,Ak,IF Q.o J.o k (by omega)]) ee);have en:=AA l;have HNs:=AA (PZ (HH.o.up E) x (sz t x) hx i.2.2.1);have es:=AA (Nh HNs.o);obtain⟨L,hds⟩:∃L,L=NX::LO t (G.take k):=⟨_,rfl⟩;obtain⟨H,O⟩:∃H,H=(t.drop x).take (sz t x):=⟨_,rfl⟩;have U:sz t x=H.length:=by rw[O,At,DN];have:=i.2.2.1;omega
  have P:=AA U;rw[<-hds]at N;rw[<-O,<-U]at es;have er:Hid (L.length=m):=by rw[Hid,hds,eh.o,Ak,IF Q.o J.o k (by omega)]
  have HDn:Hid (NX::LO t (G.take (k+1))=L++H):=by
   rw[Hid,hds,O,AF r,<-ei.o];simp[LO,S6]
  have V:L.length+H.length<=1000000:=by rw[er.o,<-P.o];have:=i.2.2.1;omega
  have ec:=ed.o.size;have S:=AA ec;clear l M ew E ee gi hds O U;go_wp2_with fail;refine HSb.o.mono ?_;rintro e w2 ⟨rfl,rfl⟩;go_wp2_with(at_builtin;refine Da rfl _ _ rfl w.heap.size (.slice a m c3) L rfl N.o (some ⟨b,o+x*5,none⟩) (sz t x) (c-x) H P.o rfl es.o V S.o ?_);intro a6 c6 w3 d C ef;have s:L.length+H.length=CS t G (k+1)+1:=by rw[er.o,<-P.o,el]
  rw[s,<-HDn.o]at d;rw[s];have eo:AL w.heap.size w w3:=ed.o.grown C S.o (λq T=>(N.o.lt q T).1);have X:w3.ownsRow w.heap.size 3 1 (.slice a5 (k+1) c5) (k+1) (E3 ((FH t G).take (k+1))):=by
   rw[HNu.o];exact Cv en.o (λq T f=>C.block q f (JL en.o N.o (by decide) T))
  have HF:Hid (TM t G w (k+1) (.slice a6 (CS t G (k+1)+1) c6) (.slice a5 (k+1) c5) w3):=⟨_,_,_,_,rfl,rfl,d,X,eo⟩;clear d C ef eo X s;go_wp2;go_roundw
  .exact⟨k+1,r,by go_num,HF.o⟩
  simp[Aa];omega
 have ek:k=G.length:=by omega
 subst ek;obtain⟨g,c',hv⟩:=FW y (by omega);cases hv
 rw[AU]at y;rw[BP (by rw[ED];omega)]at K;have Z:=Qo Q.o J.o G.length (AG _);obtain⟨m,A⟩:∃m,m=CS t G G.length+1:=⟨_,rfl⟩;rw[<-A]at y|-;have h4:W.cell? ⟨g,4,none⟩=some (.int .i64 0):=by
  have:=y.cells (g:=g) rfl 4 (.int .i64 0) rfl;rw[Ba,By]at this;exact this
 obtain⟨cu,F⟩:=KR y;have hfz:=A7 W g 4 _ _ F;have hF:QA t G w (.returned (.tuple #[.slice (some ⟨g,0,none⟩) m c3,.slice a4 G.length c4])) (W.setCell ⟨g,4,none⟩ (.int .i64 (m:Int))):=by
  have hg:=y.lt g rfl;have h1:=JN y 4 (by rw[C_,Ak];omega) (.int .i64 (m:Int));have e1:(B7 (NX::LO t G)).set 4 (.int .i64 (m:Int))=B7 ({NX with size:=(m:Int)}::LO t G):=JD [] NX (LO t G) (m:Int);rw[e1]at h1;have Y:AL w.heap.size w (W.setCell ⟨g,4,none⟩ (.int .i64 (m:Int))):=D.setCell (p:=⟨g,4,none⟩) hg.1 _;have s:m=({NX with size:=(m:Int)}::LO t G).length:=by
   have:=IF Q.o J.o G.length (AG _);rw[AU]at this;rw[Ak,this,A]
  have hu2:(W.setCell ⟨g,4,none⟩ (.int .i64 (m:Int))).ownsRow w.heap.size 3 1 (.slice a4 G.length c4) G.length (E3 (FH t G)):=Cv K (λq T f=>A8 _ _ _ _ (λe=>Ax K F (by decide) (by rw[T,e])));refine⟨_,_,_,_,_,_,{NX with size:=(m:Int)}::LO t G,rfl,s,WB h1,?_,⟨_,rfl⟩,rfl,Bh hu2,Y⟩;have h2:(W.setCell ⟨g,4,none⟩ (.int .i64 (m:Int))).ownsRow w.heap.size 41 5 (.slice (some ⟨g,0,none⟩) ({NX with size:=(m:Int)}::LO t G).length c3) ({NX with size:=(m:Int)}::LO t G).length (B7 ({NX with size:=(m:Int)}::LO t G)):=by rw[<-s];exact h1
  refine KP h2 (by rw[<-s];simp only[maxLen];omega) λx hx=> ?_;rcases BQ.1 hx with rfl|hx
  .exact⟨by simp[NX],by simp;omega,AY _,AY _,⟨by simp[NX],by simp[NX],.inl rfl⟩⟩
  obtain⟨n,hn1,hn2⟩:=C1.1 hx;have hxt:x∈t:=List.mem_of_mem_drop (Ci hn2);have:=((HH.o.below Y).2.1 x hxt);exact⟨this.kind,this.size,this.tag,this.text,this.attrs.more Y.size⟩
 have HF:=AA hF;have hmp:0<m:=by omega
 have hmb:m<=100000:=by omega
 clear hF y K D F A Z;go_wp2_with fail;go_ret2;exact HF.o
theorem M5.len{d:Nat}{l l2:List Dh}(h:M5 d l l2):l2.length=l.length:=by
 induction h with
 |nil=>rfl
 |cons _ _ e=>simp[e]
theorem M5.at{d:Nat}{l l2:List Dh}(h:M5 d l l2):∀i (e:i<l.length) (t:i<l2.length),Xq d l[i] l2[i]:=by
 induction h with
 |nil=>intro i e;exact absurd e (Nat.not_lt_zero _)
 |cons hx _ a=>
  intro i e t;cases i with
  |zero=>exact hx
  |succ i=>exact a i (by simpa using e) (by simpa using t)
theorem M5.self:∀(l:List Dh),(∀x∈l,(∀v∈x.on,v<=9223372036854775807)/\∀v∈x.wi,v<=9223372036854775807)->M5 0 l l
 |[],_=> .nil
 |x::l,h=>by
  have t:=h x (by simp);have e:∀m:List Int,(∀v∈m,v<=9223372036854775807)->m=m.map (FZ 0):=λm i=>by
   have:m.map (FZ 0)=m.map id:=Ay λv o=>by
    have:=i v o;rw[Nw (by simpa using this)];simp
   rw[this,List.map_id]
  exact .cons ⟨rfl,e _ t.1,e _ t.2,rfl,rfl,rfl⟩ (M5.self l λy a=>h y (Ab _ a))
theorem S8(h:i<G.length):((CS t G i+1:Nat):Int)∈FH t G:=by
 unfold FH;exact BL.2 ⟨i,List.mem_range.2 h,rfl⟩
structure P_(t t2:List Nd)(ns:List Nat)(l1 l2:List Dh)(s1 s2 d1 d2:bY)(h1 h2:Nat->Nat)(ρ1 ρ2:Nat->Nat):Prop where
 cap:Yl t ns l1 l2 d1 d2 h1 h2
 e1:Cn (RN 4) (λ_=>False) 0 d1 s1 ρ1
 r1:ρ1 0=0/\0<d1.N
 e2:Cn (RN 4) (M3.bI t ns) 1 d2 s2 ρ2
 r2:∀i,i<ns.length->ρ2 (CS t ns i)=CS t ns i+1/\CS t ns i<d2.N
theorem QI{t2:List Nd}{l1 l2 d:List Dh}(C:M3 t G t2)(z:∀i,i<t.length->Bd 0 (ND t i))(et:l1.length<=4)(ee:l2.length<=4)(S:∀x∈l1,x.Zz)(N:∀x∈l2,x.Zz)
 (O:∀x∈l1,(∀v∈x.on,v<=9223372036854775807)/\∀v∈x.wi,v<=9223372036854775807){s1 s2:bY}(A:GZ t.length (EJ t) l1 s1)(f1:Df t.length s1)(T:GZ t2.length (EJ t2) d s2)(f2:Df t2.length s2)
 (r:M5 1 l2 d)(I:∀i (h:i<l2.length) (g:i<d.length),XA (FH t G) l2[i] d[i]):
 ∃Q K E g s n,P_ t t2 G l1 l2 s1 s2 Q K E g s n:=by
 have L:=C.len;obtain⟨D,m,-,-⟩:=C.num;obtain⟨X,s,p1,u,W,o1,m1⟩:=Cn.run (M:=t.length) (by omega) (by omega) (M5.self l1 O) (Vp C.right z) (λy _=>rfl) (AG _) rfl (by omega) S (λx _=>⟨λ_ _ h=>h,λ_ h=>h.elim⟩) A;have V:∀x∈l2,(x.op=8->∀i,¬M3.bI t G i)/\∀y:Nat,M3.bI t G y->(y:Int)∉x.on/\(y:Int)∉x.wi:=by
  intro x hx;obtain⟨j,q,rfl⟩:=An hx;have c:j<d.length:=by rw[r.len];exact q
  obtain⟨v1,v2⟩:=I j q c;have R:=r.at j q c;refine⟨λe=>absurd e v1,λy B=> ?_⟩;obtain⟨i,o,rfl⟩:=C.ae B;obtain⟨k,p⟩:=v2 _ (S8 o);have Z:=C.few;have hm:=JK t G (i:=i) (j:=G.length) (by omega) (AG _);have H:FZ 1 ((CS t G i:Nat):Int)=((CS t G i+1:Nat):Int):=by rw[Nw (by omega)];omega
  rw[R.on]at k;rw[R.wi]at p;exact⟨λh=>k (by rw[<-H];exact BK h),λh=>p (by rw[<-H];exact BK h)⟩
 have w:(IU t.length (ET (EJ t) G)).op=false:=by
  have:=m G.length (AG _);rw[AU]at this;exact this
 obtain⟨J,n,p2,l,F,o2,m2⟩:=Cn.run (M:=CS t G G.length) (by omega) (by omega) r (C.bX z) (λy _=>rfl) (by rw[C.Zo];exact AG _) w (by omega) N V T;obtain⟨E,P⟩:=u.okP;obtain⟨g,Y⟩:=l.okP;have n1:=u.num;have n2:=l.num;have k:=f1.few;have p:=f2.few;have f:=C.right.pos;have U:=C.right2.le;refine⟨X,J,E,g,s,n,⟨⟨C.right,λi o=> ?_,m,by rw[D];omega,p1,P,λi o=>⟨(u.nd i o).ba.ndg,(u.nd i o).ba.ndb⟩,by omega,?_,Y,λi o=>⟨(l.nd i o).ba.ndg,(l.nd i o).ba.ndb⟩,by omega⟩,u.imp λa b h=>h.more (by omega),⟨W 0 f,by omega⟩,l.imp λa b h=>h.more (by omega),λi o=> ?_⟩⟩
 .have h3:=(z i o).len;unfold CU;split
  .simp
  omega
 .rw[D,Nat.add_sub_cancel_left];exact p2
 obtain⟨b1,b2,b3⟩:=C.bound o;exact⟨F _ (by omega),by omega⟩
theorem GK{α β γ:Type}(f:α->List β)(g:β->γ):∀l:List α,(l.flatMap f).map g=l.flatMap λx=>(f x).map g
 |[]=>rfl
 |a::l=>by rw[A_,A_,B3,GK f g l]
theorem P_.one{t2:List Nd}{l1 l2:List Dh}{s1 s2 a m:bY}{n c r s:Nat->Nat}(B:P_ t t2 G l1 l2 s1 s2 a m n c r s)(o:s1.F.Ok (λi=>i<s1.N) h){A D:List Nd}(u:A.map Cj=IQ a.F n a.nd 0)(l:D.map Cj=IQ s1.F h s1.nd 0):
 D.length=A.length/\∀i (w:i<A.length) (f:i<D.length),TJ A[i] D[i]:=by
 have e:=B.e1.aN B.cap.ok1 o B.r1.2;rw[B.r1.1]at e;refine B.e1.alike (by omega) B.cap.ok1 o (L:=a.F.all n 0) (λy d=>B.cap.ok1.Y5 B.r1.2 d) u ?_;rw[l];unfold IQ D4;rw[e]
theorem P_.two{t2:List Nd}{l1 l2:List Dh}{s1 s2 z s:bY}{j d u r:Nat->Nat}(C:M3 t G t2)(B:P_ t t2 G l1 l2 s1 s2 z s j d u r)(o:s2.F.Ok (λi=>i<s2.N) h){A D:List Nd}(q:A.map Cj=((DR (EJ t) G).map (·-t.length)).flatMap (IQ s.F d s.nd))(k:D.map Cj=(BV G.length).flatMap λi=>IQ s2.F h s2.nd (CS t G i+1)):
 D.length=A.length/\∀i (x:i<A.length) (f:i<D.length),TJ A[i] D[i]:=by
 have v:(DR (EJ t) G).map (·-t.length)=(BV G.length).map (CS t G):=by
  refine List.ext_getElem (by simp[Cy]) λi x f=> ?_;have n:i<G.length:=by simpa using f
  rw[BD,C.bB n,BD,List.getElem_range];omega
 refine B.e2.alike (by omega) B.cap.ok2 o (L:=(BV G.length).flatMap λi=>s.F.all d (CS t G i)) (λy b=> ?_) ?_ ?_
 .obtain⟨i,n,c⟩:=C1.1 b;exact B.cap.ok2.Y5 (B.r2 i (List.mem_range.1 n)).2 c
 .rw[q,v,List.flatMap_map,GK];rfl
 rw[k,GK,GK];have:∀l:List Nat,(∀i∈l,i<G.length)->(l.flatMap λi=>IQ s2.F h s2.nd (CS t G i+1))=l.flatMap λi=>((s.F.all d (CS t G i)).map r).map (D4 s2.F h s2.nd):=by
  intro l;induction l with
  |nil=>intro _;rfl
  |cons a l p=>
   intro m;rw[A_,A_,p λi n=>m i (Ab _ n)];obtain⟨g,w⟩:=B.r2 a (m a (by simp));have e:=B.e2.aN B.cap.ok2 o w;rw[g]at e;rw[<-e];rfl
 exact this _ λi n=>List.mem_range.1 n
theorem SK(a:Option Ai)(c:Nat)(l:List ByteArray)(f:l.length<=2000000)(hx:∀x∈l,x.size<=2000000)(w:AB)(h:B6 w w.heap.size a (l.map Value.string)):
 AX AC 31 #[.slice a l.length c] w λe w'=>e= .returned (.bool true)/\w=w':=by
 have u:=AA h;have d:=AA hx;clear h hx;go_enter func31,ntmps31;go_wp2;go_loopw [10] (λx wr=>∃k:Nat,k<=l.length/\x= .int .i64 k/\w=wr) (λx _=>l.length-(Aa x).toNat)
 .exact⟨0,by omega,rfl,rfl⟩
 obtain⟨k,g,rfl,rfl⟩:=hrel;by_cases t:k<l.length
 .obtain⟨b,o,rfl,m,s⟩:=u.o.at_ (by rw[Aq];omega);have r:=s k (by rw[Aq];exact t);rw[BD]at r;have i:=d.o _ (AD t);obtain⟨y,n⟩:∃y,y=l[k]:=⟨_,rfl⟩;rw[<-n]at r i;clear s n;go_wp2;go_roundw
  .exact⟨k+1,by omega,by go_num,by trivial⟩
  simp[Aa];omega
 go_wp2;go_ret;exact⟨rfl,rfl⟩
structure Dh.aO(x:Dh):Prop where
 few:x.Zz
 onl:x.on.length<=1048576
 wil:x.wi.length<=1048576
theorem QU(x:Dh)(hx:x.aO)(w:AB)(h:x.Ok w w.heap.size):
 AX AC 16 #[.agg x.vv] w λe w'=>e= .returned (.bool true)/\AL w.heap.size w w':=by
 obtain⟨op,oa,on,oc,wa,wi,wc,ky,vl,la,nm,lc⟩:=x;obtain⟨⟨y,f,r,n,k5⟩,m,c⟩:=hx;have s:=h.nm;simp only[Dh.vv,BW]at*;obtain⟨t,o⟩:∃t,t=w.alloc (.cells #[.int .i64 op,.slice oa on.length oc,.slice wa wi.length wc,.string ky,.string vl,.slice la nm.length lc] 45):=⟨_,rfl⟩;have a:AL w.heap.size w t:=by rw[o];exact Ac
 have i:t.heap[w.heap.size]? =some (.cells #[.int .i64 op,.slice oa on.length oc,.slice wa wi.length wc,.string ky,.string vl,.slice la nm.length lc] 45 (0,0)):=by rw[o];exact Ah w _
 have u1:t.cell? ⟨w.heap.size,1,none⟩=some (.slice oa on.length oc):=Aj i;have u2:t.cell? ⟨w.heap.size,2,none⟩=some (.slice wa wi.length wc):=Aj i;have u3:t.cell? ⟨w.heap.size,3,none⟩=some (.string ky):=Aj i;have u4:t.cell? ⟨w.heap.size,4,none⟩=some (.string vl):=Aj i;have u5:t.cell? ⟨w.heap.size,5,none⟩=some (.slice la nm.length lc):=Aj i;have l:=AA (SK la lc nm r n t ((s.below a).more a.size));have d:=AA a;clear h s a i n k5;go_enter func16,ntmps16;go_wp2_with fail;rw[<-o];clear o;refine l.o.mono ?_;rintro e u ⟨rfl,rfl⟩;go_wp2;go_ret;exact⟨rfl,d.o⟩
theorem NV(a:Option Ai)(c:Nat)(l:List Dh)(R:l.length<=2000000)(hx:∀x∈l,x.aO)(w:AB)(h:On w w.heap.size a l):
 AX AC 5 #[.slice a l.length c] w λe w'=>e= .returned (.bool true)/\AL w.heap.size w w':=by
 have N:=AA h;have I:=AA hx;clear h hx;go_enter func5,ntmps5;go_wp2;go_loopw [4,10] (λ_ x wr=>∃k:Nat,k<=l.length/\x= .int .i64 k/\Hid (AL w.heap.size w wr)) (λ_ x _=>l.length-(Aa x).toNat)
 .exact⟨0,by omega,rfl,AW _ _⟩
 obtain⟨k,D,rfl,z⟩:=hrel;obtain⟨W,rfl⟩:∃W:AB,W=wr:=⟨_,rfl⟩;by_cases i:k<l.length
 .have g:=N.o.below z.o;have p:=g.ok _ (AD i);obtain⟨b,o,rfl,S,r⟩:∃b o,a=some ⟨b,o,none⟩/\b<w.heap.size/\∀j v,l[k].vv[j]? =some v->W.cell? ⟨b,o+k*6+j,none⟩=some v:=by
   rcases g.row with e|⟨b,o,e,d,q⟩
   .rw[e]at i;exact absurd i (Nat.not_lt_zero _)
   exact⟨b,o,e,d,q k i⟩
  have n:=I.o _ (AD i);obtain⟨⟨op,oa,on,oc,wa,wi,wc,ky,vl,la,nm,lc⟩,hx⟩:∃x,x=l[k]:=⟨_,rfl⟩;rw[<-hx]at r p n;have Y:W.cell? ⟨b,o+k*6,none⟩=some (.int .i64 op):=r 0 _ rfl;have F:W.cell? ⟨b,o+k*6+1,none⟩=some (.slice oa on.length oc):=r 1 _ rfl;have M:W.cell? ⟨b,o+k*6+2,none⟩=some (.slice wa wi.length wc):=r 2 _ rfl;have C:W.cell? ⟨b,o+k*6+3,none⟩=some (.string ky):=r 3 _ rfl;have U:W.cell? ⟨b,o+k*6+4,none⟩=some (.string vl):=r 4 _ rfl;have L:W.cell? ⟨b,o+k*6+5,none⟩=some (.slice la nm.length lc):=r 5 _ rfl;obtain⟨t,s⟩:∃t,t=W.alloc (.cells #[.int .i64 op,.slice oa on.length oc,.slice wa wi.length wc,.string ky,.string vl,.slice la nm.length lc] 45):=⟨_,rfl⟩;have y:AL W.heap.size W t:=by rw[s];exact Ac
  have f:=z.o.trans (y.mono z.o.size);have m:t.heap[W.heap.size]? =some (.cells #[.int .i64 op,.slice oa on.length oc,.slice wa wi.length wc,.string ky,.string vl,.slice la nm.length lc] 45 (0,0)):=by rw[s];exact Ah W _
  have u0:t.cell? ⟨W.heap.size,0,none⟩=some (.int .i64 op):=Aj m;have u1:t.cell? ⟨W.heap.size,1,none⟩=some (.slice oa on.length oc):=Aj m;have u2:t.cell? ⟨W.heap.size,2,none⟩=some (.slice wa wi.length wc):=Aj m;have u3:t.cell? ⟨W.heap.size,3,none⟩=some (.string ky):=Aj m;have u4:t.cell? ⟨W.heap.size,4,none⟩=some (.string vl):=Aj m;have u5:t.cell? ⟨W.heap.size,5,none⟩=some (.slice la nm.length lc):=Aj m;have u:Dh.Ok ⟨op,oa,on,oc,wa,wi,wc,ky,vl,la,nm,lc⟩ t t.heap.size:=by
   have d:=p.below (y.mono z.o.size);have q:=f.size;exact⟨d.on.more q,d.wi.more q,d.nm.more q,d.cap,d.onl,d.wil⟩
  have O:=AA (QU ⟨op,oa,on,oc,wa,wi,wc,ky,vl,la,nm,lc⟩ n t u);have T:=AA f;clear r p g hx n y f m u;go_wp2_with fail;rw[<-s];clear s;refine O.o.mono ?_;rintro e H ⟨rfl,E⟩;have A:=AA (BT T.o E);clear E;go_wp2;go_roundw
  .exact⟨k+1,by omega,by go_num,A.o⟩
  simp[Aa];omega
 go_wp2;go_ret;exact⟨rfl,z.o⟩
theorem Vs{f:Nat->List Nat}:∀(l:List Nat) (i z:Nat),(l.flatMap f)[i]? =some z->∃l1 c l2 e,l=l1++c::l2/\i=(l1.flatMap f).length+e/\(f c)[e]? =some z:=by
 intro l;induction l with
 |nil=>intro i z h;simp at h
 |cons c l a=>
  intro i z h;rw[A_]at h;by_cases t:i<(f c).length
  .rw[List.getElem?_append_left t]at h;exact⟨[],c,l,i,rfl,by simp,h⟩
  rw[EV (by omega)]at h;obtain⟨l1,c2,l2,e,e1,e2,o⟩:=a _ _ h;refine⟨c::l1,c2,l2,e,by rw[e1];rfl,?_,o⟩;rw[A_,AN];omega
theorem MI(o:F.Ok S h):∀(d y i z:Nat),h y<d->(F.all h y)[i]? =some z->∀q u,(F.all h z)[q]? =some u->(F.all h y)[i+q]? =some u:=by
 intro d;induction d with
 |zero=>intro y i z m;omega
 |succ d l=>
  intro y i z m t q u a;cases i with
  |zero=>
   have e:z=y:=by rw[F.all_eq o y]at t;simpa using t.symm
   rw[e]at a;rw[By];exact a
  |succ i=>
   rw[F.all_eq o y,List.getElem?_cons_succ]at t;obtain⟨l1,c,l2,s,e1,e2,p⟩:=Vs _ _ _ t;have f:c∈F.kids y:=by rw[e1];simp
   have b:=o.ht _ _ ((o.mem y c).1 f);have r:=l c s z (by omega) p q u a;have n:=(C6.1 r).1;have g:i+1+q=i+q+1:=by omega
   rw[F.all_eq o y,g,List.getElem?_cons_succ,e1,C9,A_,EV (by omega)];have w:i+q-(l1.flatMap (F.all h)).length=s+q:=by omega
   rw[w,List.getElem?_append_left n];exact r
theorem U1(o:F.Ok S h){D:List Nd}(s:D.map Cj=IQ F h H 0){y:Nat}(n:(F.all h 0)[p]? =some y):
 p<D.length/\p+(F.all h y).length<=D.length/\(∀r:p<D.length,D[p].size=((F.all h y).length:Int))/\((D.drop p).take (F.all h y).length).map Cj=IQ F h H y:=by
 have c:D.length=(F.all h 0).length:=by have:=congrArg Dw s;unfold IQ at this;simpa using this
 have l:=(C6.1 n).1;have m:=Iy o y;have a:∀q u,(F.all h y)[q]? =some u->(D.map Cj)[p+q]? =some (Cj {H u with size:=((F.all h u).length:Int)}):=by
  intro q u d;rw[s];unfold IQ;rw[List.getElem?_map,MI o _ 0 p y (Nat.lt_succ_self _) n q u d];rfl
 have i:p+(F.all h y).length<=D.length:=by
  have t:(F.all h y).length-1<(F.all h y).length:=by omega
  have e:=MI o _ 0 p y (Nat.lt_succ_self _) n _ _ (AK t);have:=(C6.1 e).1;omega
 refine⟨by omega,i,λr=> ?_,?_⟩
 .have e:=a 0 y (by rw[F.all_eq o y];rfl);rw[Dj,List.getElem?_map,AK r,As,Option.some.injEq]at e;exact show(Cj D[p]).size=_ by rw[e];rfl
 refine List.ext_getElem? λq=> ?_;rw[List.getElem?_map,List.getElem?_take];by_cases t:q<(F.all h y).length
 .rw[AJ t,List.getElem?_drop];have e:=a q _ (AK t);rw[List.getElem?_map]at e;rw[e];unfold IQ;rw[List.getElem?_map,AK t];rfl
 rw[AI t];unfold IQ;rw[List.getElem?_map,List.getElem?_eq_none (by omega)];rfl
theorem SJ(a:GD t=true)(ns:List Nat)(z:Int)(o:({NX with size:=z}::LO t ns).length<=2147483647):GD ({NX with size:=z}::LO t ns)=true:=by
 simp only[GD,Bool.and_eq_true,decide_eq_true_eq,List.all_eq_true]at a|-;refine⟨o,λx hx=> ?_⟩;rcases BQ.1 hx with rfl|hx
 .show GF NX=true;decide+kernel
 obtain⟨n,i,e⟩:=C1.1 hx;exact a.2 x (List.mem_of_mem_drop (Ci e))
theorem On.more{i:Nat}{l:List Dh}(h:On w B a l)(t:B<=i):On w i a l:=by
 refine⟨?_,λx hx=>⟨(h.ok x hx).on.more t,(h.ok x hx).wi.more t,(h.ok x hx).nm.more t,(h.ok x hx).cap,(h.ok x hx).onl,(h.ok x hx).wil⟩⟩;rcases h.row with e|⟨b,o,e,s,n⟩
 .exact .inl e
 exact .inr ⟨b,o,e,by omega,n⟩
theorem XV{d:Nat}{l l2:List Dh}(h:M5 d l l2)(t:∀x∈l,x.Zz):∀y∈l2,y.Zz:=by
 induction h with
 |nil=>intro y e;exact absurd e List.not_mem_nil
 | @cons x z l l2 hx _ a=>
   intro y e;rcases BQ.1 e with rfl|e
   .have q:=t x (by simp);exact⟨by rw[hx.ky];exact q.ky,by rw[hx.vl];exact q.vl,by rw[hx.nm];exact q.nml,by rw[hx.nm];exact q.nm,by rw[hx.nm];exact q.sp⟩
   exact a (λx hx=>t x (Ab _ hx)) y e
def XE(t:List Nd)(ns:List Nat)(s2:bY)(h:Nat->Nat)(W:AB)(k:Nat)(v:AS)(wr:AB):Prop:=
 ∃e:List Nd,∃a c,v= .slice a e.length c/\wr.ownsRow W.heap.size 41 5 (.slice a e.length c) e.length (B7 e)/\e.map Cj=(BV k).flatMap (λi=>IQ s2.F h s2.nd (CS t ns i+1))/\(∀x∈e,x.Ok W W.heap.size)/\AL W.heap.size W wr/\e.length<=k*600
theorem Ug{l:List Int}(h:GX n l G):E3 l=Kw G/\l.length=G.length:=by
 rw[h.eq];exact⟨by simp[E3,Kw],by simp⟩
theorem FnCloneApart_walk(a0:Option Ai)(n0 c0:Nat)(t:List Nd)(a1:Option Ai)(n1 c1:Nat)(l:List Int)(a2:Option Ai)(n2 c2:Nat)(l1:List Dh)(a3:Option Ai)(n3 c3:Nat)(l2:List Dh)(w:AB)
 (h:Gp w w.heap.size a0 t/\n0=t.length/\n0<=c0)(hi:Kj w w.heap.size a1 l/\n1=l.length/\n1<=c1)(hll:l.length<=1048576)(f:On w w.heap.size a2 l1/\n2=l1.length/\(∀x∈l1,x.aO)/\l1.length<=1048576)(X:On w w.heap.size a3 l2/\n3=l2.length/\(∀x∈l2,x.aO)/\l2.length<=1048576):
 AX AC 3 #[.slice a0 n0 c0,.slice a1 n1 c1,.slice a2 n2 c2,.slice a3 n3 c3] w λe w'=>e= .returned (.bool true)/\AL w.heap.size w w':=by
 obtain⟨h,rfl,hcap⟩:=h;obtain⟨hi,rfl,Y⟩:=hi;obtain⟨f,rfl,hw1,hn1⟩:=f;obtain⟨X,rfl,hw2,hn2⟩:=X;have HH:=AA h;have HI:=AA hi;have N:=AA f;have HS2:=AA X;have HW1:=AA hw1;have g:=AA hw2;have HCap:=AA hcap;have HCap1:=AA Y;clear h hi f X hw1 hw2 hcap Y;go_enter func3,ntmps3;go_wp2_with fail;refine(P6 _ _ t _ HH.o).mono ?_;rintro e w1 ⟨rfl,hb1⟩;have ei:=AA hb1;clear hb1;cases hf:GD t
 .go_wp2;go_ret;exact⟨rfl,ei.o⟩
 have HF:=AA hf;clear hf;go_wp2_with fail;refine(NV a2 c2 l1 (by omega) HW1.o w1 (N.o.below ei.o|>.more ei.o.size)).mono ?_;rintro e w2 ⟨rfl,hb2⟩;have HB2:=AA (BT ei.o hb2);clear hb2;go_wp2_with fail;refine(NV a3 c3 l2 (by omega) g.o w2 (HS2.o.below HB2.o|>.more HB2.o.size)).mono ?_;rintro e w3 ⟨rfl,hb3⟩;have HB3:=AA (BT HB2.o hb3);clear hb3;go_wp2_with fail;refine(Nr _ _ t _ (HH.o.up HB3.o) HF.o).mono ?_;rintro e w4 ⟨b,rfl,hR,hb4⟩;have HB4:=AA (BT HB3.o hb4);have HR0:=AA hR;clear hb4 hR;cases b
 .go_wp2;go_ret;exact⟨rfl,HB4.o⟩
 have HR:=AA (HR0.o rfl);have hle:=HR.o.le;clear HR0;go_wp2_with fail;refine(Sk a0 t.length c0 a1 c1 l hle (by omega) w4 (HI.o.up HB4.o)).mono ?_;rintro e w5 ⟨b,q,rfl,hO,rfl⟩;have HO0:=AA hO;have eo:=AA (BC HB4.o q);clear hO;cases b
 .go_wp2;go_ret;exact⟨rfl,eo.o⟩
 obtain⟨o,B⟩:=HO0.o rfl;have HOrd:=AA B;obtain⟨hivs,hln⟩:=Ug B;have HIv:=AA hivs;have HLn:=AA hln;have ea:Hid (∀n∈o,n<t.length):=B.lt;clear B hivs hln HO0;go_wp2_with fail;refine(OF a0 c0 t hle a1 c1 l (by omega) HCap1.o _ (HH.o.up eo.o) (HI.o.up eo.o)).mono ?_;rintro e w6 ⟨b,rfl,-,hb6⟩;have r:=AA (BT eo.o hb6);clear hb6;cases b
 .go_wp2;go_ret;exact⟨rfl,r.o⟩
 by_cases e0:l.length=0
 .have z0:((l.length:Int)==0)=true:=beq_iff_eq.2 (by omega);go_wp2;go_ret;exact⟨rfl,r.o⟩
 have z0:((l.length:Int)==0)=false:=CY.2 (by omega);by_cases e1:5<l.length
 .go_wp2;go_ret;exact⟨rfl,r.o⟩
 by_cases e2:4<l1.length
 .go_wp2;go_ret;exact⟨rfl,r.o⟩
 by_cases e3:4<l2.length
 .go_wp2;go_ret;exact⟨rfl,r.o⟩
 have hl1:l1.length<=4:=by omega
 have hl2:l2.length<=4:=by omega
 have hl5:l.length<=5:=by omega
 have hn5:o.length<=5:=by rw[<-HLn.o];exact hl5
 have H:=AA (KC a0 c0 t HF.o w6 (HH.o.up r.o) a2 c2 l1 hl1 ((N.o.below r.o).more r.o.size) (λx hx=>(HW1.o x hx).few));clear e1 e2 e3;go_wp2_with fail;refine H.o.mono ?_;rintro e w7 ⟨aA,mA,cA,aB,mB,cB,bs,rfl,hy7,hb7⟩;have HY7:=AA hy7;have HB7:=AA (BT r.o hb7);have HCl:Hid (AX AC 10 #[.slice a0 t.length c0,.slice a1 l.length c1] w7 (QA t o w7)):=by
  have hr:=(HI.o.up HB7.o).row;rw[HIv.o]at hr;rw[HLn.o];exact O' HR.o ea.o hn5 a0 c0 HCap.o a1 c1 w7 (HH.o.up HB7.o) hr
 clear hy7 hb7 H;go_wp2_with fail;refine HCl.o.mono ?_;rintro e w8 ⟨aC,mC,cC,aT,mT,cT,P,rfl,hmC,hcC,hnC,⟨zC,hzC⟩,hmT,hrT,hb8⟩;have HB8:=AA (BT HB7.o hb8);have Hb8:=AA hb8;have HNC:=AA hnC;have HRT:=AA hrT;have HZC:=AA hzC;have hmT2:mT=(FH t o).length:=by rw[ED];exact hmT
 have htl:(FH t o).length<=5:=by rw[ED];exact hn5
 have HMT:=AA hmT;subst hmC;subst hmT2;have HMv:=AA (Ql l2 hl2 (λx hx=>⟨(g.o x hx).onl,(g.o x hx).wil⟩) (FH t o) htl a3 c3 aT cT w8 ((HS2.o.below HB8.o).more HB8.o.size) hrT);have hcC2:=AA hcC;clear hb8 hnC hrT hzC hmT hcC HCl;go_wp2_with fail;refine HMv.o.mono ?_;rintro e w9 ⟨aM,mM,cM,bM,rfl,hyM,hb9⟩;have HB9:=AA (BT HB8.o hb9);have Hb9:=AA hb9;have HYM:=AA hyM;clear hb9 hyM HMv;cases bs
 .go_wp2;go_ret;exact⟨rfl,HB9.o⟩
 cases bM
 .go_wp2;go_ret;exact⟨rfl,HB9.o⟩
 obtain⟨-,hmcA,F1,S1,hh1,nd1,hg1,F⟩:=HY7.o rfl;obtain⟨s1,rs1,rfl,rfl,ok1,fs1,bd1⟩:=hg1;obtain⟨l3,rfl,hss3,hsh,hmv⟩:=HYM.o rfl;have Hl3:Hid (l3.length<=4):=by rw[Hid,hsh.len];exact hl2
 have HSS:=AA hss3;have HSh:=AA hsh;have HMC:=AA hmv;have HRs1:=AA rs1;have HOk1:=AA ok1;have HFs1:=AA fs1;have HOut1:=AA F;clear hmcA rs1 ok1 fs1 bd1 hss3 hsh hmv F HY7 HYM;have HCm:Hid (GD P=true/\P.length<=1001):=by
  have h1:=IF HR.o ea.o o.length (AG _);rw[AU]at h1;have h2:=Qo HR.o ea.o o.length (AG _);have h3:P.length<=1001:=by rw[HZC.o,Ak,h1];omega
  refine⟨?_,h3⟩;have h4:=h3;rw[HZC.o]at h4|-;exact SJ HF.o o zC (AH h4 (by decide))
 have H:=AA (KC aC cC P HCm.o.1 w9 (HNC.o.up Hb9.o) aM cM l3 Hl3.o HSS.o (XV HSh.o λx hx=>(g.o x hx).few));go_wp2_with fail;refine H.o.mono ?_;rintro e c ⟨aD,mD,cD,aE,mE,cE,bs2,rfl,hy10,U⟩;have HY10:=AA hy10;have u:=AA (BT HB9.o U);have Hb10:=AA (BT Hb9.o U);clear hy10 U H;cases bs2
 .go_wp2;go_ret;exact⟨rfl,u.o⟩
 obtain⟨hR2,hmD,F2,S2,s,nd2,⟨s2,rs2,rfl,rfl,ok2,et,bd2⟩,⟨D,rfl,hnD,hsD⟩,rfl,hpl⟩:=HY10.o rfl;have hC:M3 t o P:=⟨HR.o,hR2,⟨_,HZC.o⟩,ea.o⟩;have HBoth:Hid (∃d1 d2 h1 h2 ρ1 ρ2,P_ t P o l1 l2 s1 s2 d1 d2 h1 h2 ρ1 ρ2):=
  QI hC (λi hi=>Yn HR.o HH.o hi) hl1 hl2 (λx hx=>(HW1.o x hx).few) (λx hx=>(g.o x hx).few)
   (λx hx=>⟨λv hv=>((N.o.ok x hx).on.rng v hv).2,λv hv=>((N.o.ok x hx).wi.rng v hv).2⟩) HRs1.o HFs1.o rs2 et HSh.o HMC.o
 have hDl:D.length=(s2.F.all s 0).length:=by have:=congrArg Dw hsD;unfold IQ at this;simpa using this
 have C:0<s2.N:=AR hR2.pos et.le;have hDl600:D.length<=600:=by
  rw[hDl];have hnd:=s2.F.Y9 ok2 _ 0 (AG _);have:=BH hnd (λy hy=>ok2.Y5 (S:=λi=>i<s2.N) C hy);have:=et.few;omega
 have hD0:0<D.length:=by rw[hDl,s2.F.all_eq ok2 0];simp
 obtain⟨bD,oD,rfl,hbD,-⟩:=hnD.at_ hD0;have HC:=AA hC;have HND:=AA hnD;have HSD:=AA hsD;have HOk2:=AA ok2;have HPl:=AA hpl;have HmD:=AA hmD;have HI0:Hid (XE t o s2 s c 0 (.slice none 0 0) c):=⟨[],none,0,rfl,⟨by simp[B7],.inl ⟨rfl,rfl⟩⟩,by simp,λx h=>absurd h List.not_mem_nil,AW _ _,by simp⟩;clear hR2 hC rs2 et bd2 hnD hsD ok2 hpl hmD hDl C hbD HY10;go_wp2;go_loopw [19,20] (λv x wr=>∃k:Nat,k<=o.length/\x= .int .i64 k/\Hid (XE t o s2 s c k v wr)) (λ_ x _=>o.length-(Aa x).toNat)
 .exact⟨0,by omega,rfl,HI0.o⟩
 obtain⟨k,hk,rfl,HWa⟩:=hrel;obtain⟨W,rfl⟩:∃W:AB,W=wr:=⟨_,rfl⟩;obtain⟨K,aW,cW,rfl,B,J,Z,V,hwl⟩:=HWa.o;by_cases ee:k<o.length
 .obtain⟨b1,b2,b3⟩:=HC.o.bound ee;have hkt:k<(FH t o).length:=by rw[HMT.o];exact ee
  have j:=HC.o.len;have hyt:CS t o k+1<P.length:=by omega
  obtain⟨bT,oT,hT1,hT2,hT3⟩:=((HRT.o.up (BT Hb10.o V))).at_ (by rw[CL,ED];omega);have gT:W.cell? ⟨bT,oT+k,none⟩=some (.int .i64 ((CS t o k+1:Nat):Int)):=by
   rw[hT3 k (by rw[CL,ED];exact ee)];simp[E3,FH]
  have R:(K5 s2.F s P.length).length=P.length:=by simp[K5]
  obtain⟨bE,oE,hE1,hE2,hE3⟩:=(HPl.o.up V).at_ (by rw[CL,R];omega);have gE:W.cell? ⟨bE,oE+(CS t o k+1),none⟩=some (.int .i64 (J2 (s2.F.all s 0) 0 (λ_=> -1) (CS t o k+1))):=by
   rw[hE3 _ (by rw[CL,R];exact hyt)];simp[E3,K5]
  obtain⟨y,hy⟩:∃y,y=CS t o k+1:=⟨_,rfl⟩;rw[<-hy]at gT gE hyt;have Hy:=AA hy;have HO:=AA B;have HSt:=AA J;have HOkW:=AA Z;have HB:=AA V;have HT1:=AA hT1;have HE1:=AA hE1;have hm2:=HCm.o.2;have hyb:y<100000:=by omega
  clear hT3 hE3 B J Z V hy b1 b2 b3 j R;subst hT1;subst hE1;by_cases d:y∈s2.F.all s 0
  .obtain⟨p,hp⟩:∃p,p=(s2.F.all s 0).idxOf y:=⟨_,rfl⟩;have O:J2 (s2.F.all s 0) 0 (λ_=> -1) y=(p:Int):=by
    unfold J2;rw[AJ d,hp];simp
   rw[O]at gE;have hpy:(s2.F.all s 0)[p]? =some y:=by
    rw[hp];have:=List.idxOf_lt_length_iff.2 d;rw[AK this,List.getElem_idxOf this]
   obtain⟨g1,g2,g3,g4⟩:=U1 HOk2.o HSD.o hpy;obtain⟨m,hm⟩:∃m,m=(s2.F.all s y).length:=⟨_,rfl⟩;rw[<-hm]at g2 g3 g4;obtain⟨G,A⟩:∃G,G=(D.drop p).take m:=⟨_,rfl⟩;have hym:m=G.length:=by rw[A,At,DN];omega
   have HYm:=AA hym;have a:=HB.o;have HSb:=AA (Ro D (by omega) bD oD cD HmD.o p m g1 g2 W (HND.o.up a) (g3 g1));have hrd:=Nh (PZ (HND.o.up a) p m g1 g2);rw[<-A,<-hym]at hrd;have HRd:=AA hrd;rw[<-A]at g4;have HG4:=AA g4;have HYs:Hid (∀x∈G,x.Ok c c.heap.size):=λx hx=>HND.o.2.1 x (by rw[A]at hx;exact List.mem_of_mem_drop (Ci hx));have j:K.length+G.length<=1000000:=by omega
   have hm600:G.length<=600:=by omega
   have HBs:=AA a.size;have hp600:p<600:=by omega
   clear d hp O hpy g1 g2 g3 g4 A hym a hrd hm;go_wp2_with fail;refine HSb.o.mono ?_;rintro e w2 ⟨rfl,rfl⟩;go_wp2_with(at_builtin;refine Da rfl _ _ rfl c.heap.size (.slice aW K.length cW) K rfl HO.o (some ⟨bD,oD+p*5,none⟩) m (cD-p) G HYm.o rfl HRd.o j HBs.o ?_);intro a6 c6 w3 M hg6 hat6;have HN:Hid (XE t o s2 s c (k+1) (.slice a6 (K.length+G.length) c6) w3):=by
    refine⟨K++G,a6,c6,by rw[AN],?_,?_,λx hx=> ?_,HB.o.grown hg6 HBs.o (λq hq=>(HO.o.lt q hq).1),by rw[AN];omega⟩
    .rw[AN];exact M
    .rw[B3,HSt.o,HG4.o,List.range_succ,C9,List.flatMap_singleton,Hy.o]
    rcases AV.1 hx with hx|hx
    .exact HOkW.o x hx
    exact HYs.o x hx
   clear M hg6 hat6;go_wp2;go_roundw
   .exact⟨k+1,ee,by go_num,HN.o⟩
   simp[Aa];omega
  have O:J2 (s2.F.all s 0) 0 (λ_=> -1) y= -1:=by unfold J2;rw[AI d]
  rw[O]at gE;clear d O;go_wp2;go_ret;exact⟨rfl,u.o.trans (HB.o.mono u.o.size)⟩
 have ek:k=o.length:=by omega
 subst ek;have hge:(FH t o).length<=o.length:=by rw[HMT.o];exact AG _
 obtain⟨d1,d2,h1,h2,ρ1,ρ2,BO⟩:=HBoth.o;have a:=u.o.trans (V.mono u.o.size);obtain⟨⟨D1,rfl,hn1,f⟩,-,-⟩:=HOut1.o;have HCA:=AA (MO BO.cap a0 c0 a1 c1 l HOrd.o (by omega) (by omega) (by omega) W (HH.o.up a) (HI.o.up a) a2 c2 ((N.o.below a).more a.size) a3 c3 ((HS2.o.below a).more a.size));have T:=AA BO;have HbW:=AA a;have HN1:=AA (hn1.up (BT Hb8.o (BT Hb10.o V)));have HS1b:=AA f;have g:Hid (Gp W W.heap.size aW K):=KP B (by simp only[maxLen];omega) (λx hx=>by
  have q:=Z x hx;exact⟨q.kind,q.size,q.tag,q.text,(q.attrs.below V).more V.size⟩)
 have HSt:=AA J;have hW3k:K.length<=3000:=by omega
 clear BO a hn1 f B J Z V;go_wp2_with fail;refine HCA.o.mono ?_;rintro e Q ⟨aP,mP,cP,aQ,mQ,cQ,rfl,⟨ds,rfl,hnP,hsP⟩,⟨es,rfl,hnQ,hsQ⟩,z⟩;have HB11:=AA (BT HbW.o z);obtain⟨e5,e6⟩:=T.o.one HOk1.o hsP HS1b.o;obtain⟨e7,e8⟩:=P_.two HC.o T.o HOk2.o hsQ HSt.o;have hds:ds.length<=600:=by
  have q1:ds.length=(d1.F.all h1 0).length:=by have:=congrArg Dw hsP;unfold IQ at this;simpa using this
  have hnd:=d1.F.Y9 T.o.cap.ok1 _ 0 (AG _);have q2:=BH hnd (λy hy=>T.o.cap.ok1.Y5 (S:=λi=>i<d1.N) T.o.r1.2 hy);have q3:=T.o.e1.num;have q4:=HFs1.o.few;omega
 have HA1:Hid (∀E,AL Q.heap.size Q E->AX AC 14 #[.slice aP ds.length cP,.slice aA D1.length cA] E (λe w'=>e= .returned (.bool true)/\AL E.heap.size E w')):=λE I=>
  MH ds D1 e5 e6 (by omega) aP cP aA cA E (hnP.up I) (HN1.o.up (BT z I))
 have HA2:Hid (∀E,AL Q.heap.size Q E->AX AC 14 #[.slice aQ es.length cQ,.slice aW K.length cW] E (λe w'=>e= .returned (.bool true)/\AL E.heap.size E w')):=λE I=>
  MH es K e7 e8 (by omega) aQ cQ aW cW E (hnQ.up I) (g.o.up (BT z I))
 clear hnP hsP hnQ hsQ z e5 e6 e7 e8 HCA;go_wp2_with fail;refine(HA1.o _ (AW _ _)).mono ?_;rintro e w12 ⟨rfl,L⟩;have Hb12:=AA L;have HB12:=AA (BT HB11.o L);clear L;go_wp2_with fail;refine(HA2.o _ Hb12.o).mono ?_;rintro e w13 ⟨rfl,hb13⟩;have HB13:=AA (BT HB12.o hb13);clear hb13;go_wp2;go_ret;exact⟨rfl,HB13.o⟩
open Go.ChangeShapes Go.WideShapes Go.Deep Go.RowKit
section
variable {H:Type} {enc:Dk × AS->H} {P:Program} {w:AB} {base:Nat} {spare:Nat->Bool} {held:Bool}
theorem open_slice_fields{t e:Dk}{r:Array Field}{g:Nat}{z:List AS}{x:DataW H × List MemPlace}(ht:P.underlying t=some (.slice e))(K:P.underlying e=some (.struct r))
 (c:oneCellFields P r=true)(L:P.cellsOf e=r.size)(h:DataW.trod enc P w base spare held g t z=some x):
 (z=[.slice none 0 0]/\x=(.nil,[]))\/
 ∃(a:Ai) (len cap m:Nat) (D:Nat->DataW H) (p:Nat->List MemPlace),z=[.slice (some a) len cap]/\base<=a.block/\len<=cap/\cap<=maxLen/\m=(if spare a.block then cap else len)/\
  x=(.slice ((BV len).map D) ((BV (m-len)).map λj=>D (len+j)),MemPlace.row a (m*r.size)++(BV m).flatMap p)/\
  ∀i,i<m->∃(s:List (DataW H × List MemPlace)) (n:Nat),D i= .agg (s.map (·.1))/\p i=s.flatMap (·.2)/\s.length=r.size/\
   ∀(j:Nat) (f:Field),r[j]? =some f->∃(v:AS) (y:DataW H × List MemPlace),w.cell? (a.add (i*r.size+j))=some v/\s[j]? =some y/\DataW.trod enc P w base spare held n f.type [v]=some y:=by
 rcases open_slice ht h with J|⟨a,len,cap,m,n,D,p,N,Q,Y,W,A,hx,B⟩
 .exact .inl J
 refine .inr ⟨a,len,cap,m,D,p,N,Q,Y,W,A,by rw[L]at hx;exact hx,λi I=> ?_⟩;obtain⟨o,R,T⟩:=B i I;rw[L]at R;obtain⟨s,C,X,b,U,E,V⟩:=DataW.trod_struct K T;obtain⟨_,Z,S⟩:=World.cells?_some R;simp only[Prod.mk.injEq]at b;refine⟨s,C,b.1,b.2,E,λj f k=> ?_⟩;obtain⟨F,G⟩:=hone_of c j f k;have O:j<r.size:=(AE.1 k).1;have l:=S j O;have M:o[j]? =some (o[j]'(by omega)):=AK (by omega);have q:=V j f k;rw[F,G]at q;have d:(o.drop j).take 1=[o[j]'(by omega)]:=by
  rw[List.drop_eq_getElem_cons (by omega)];rfl
 rw[d]at q;have u:s[j]? =some (s[j]'(by omega)):=AK (by omega);refine⟨_,_,?_,u,q.trans u⟩;rw[<-Go.Deep.add_add,l,M]
end
theorem JJ{X:Type}(n:Nat)(P:Nat->X->Prop)(h:∀i,i<n->∃x,P i x):∃l:List X,l.length=n/\∀i (t:i<l.length),P i l[i]:=by
 induction n with
 |zero=>exact⟨[],rfl,λi t=>by simp at t⟩
 |succ n a=>
  obtain⟨l,s,o⟩:=a (λi t=>h i (by omega));obtain⟨x,hx⟩:=h n (by omega);refine⟨l++[x],by simp[s],λi t=> ?_⟩;by_cases e:i<l.length
  .rw[Cs e];exact o i e
  have e2:i=n:=by simp at t;omega
  subst e2;rw[Gt (by omega)];simpa using hx
theorem Ff{w:AB}{a:Ai}{k:Nat}(h0:w.cell? (a.add 0)=some v):∃b o,a=⟨b,o,none⟩/\b<w.heap.size:=by
 obtain⟨b,o,t⟩:=a;have e:t=none:=by simpa [Addr.add]using World.cell?_spot h0
 subst e;have:=World.block_lt_of_cell? w _ h0;exact⟨b,o,rfl,this⟩
section
variable {H:Type} {enc:Dk × AS->H} {w:AB} {base:Nat} {spare:Nat->Bool} {held:Bool}
theorem Qp{s:Nat}{y:DataW H × List MemPlace}(h:DataW.trod enc AC w base spare held s 39 [v]=some y):
 ∃(aa:Option Ai) (ac:Nat) (l:List At2),v= .slice aa l.length ac/\JZ w w.heap.size aa l:=by
 rcases open_slice_fields underlying39 underlying49 (by kernel_rfl) (by kernel_rfl) h with⟨e,_⟩|⟨a,len,cap,m,D,F,e,_,M,C,u,hx,T⟩
 .simp at e;exact⟨none,0,[],e,by simp,by simp,.inl rfl⟩
 simp at e;have I:len<=m:=by rw[u];split<;>omega
 obtain⟨l,c,r⟩:=JJ len (λi (x:At2)=>w.cell? (a.add (i*2))=some (.string x.key)/\w.cell? (a.add (i*2+1))=some (.string x.val)/\x.key.size<=maxLen/\x.val.size<=maxLen) (λi N=>by
  obtain⟨S,n,_,_,_,f⟩:=T i (by omega);obtain⟨U,L,O,_,z⟩:=f 0 _ rfl;obtain⟨v1,R,c1,_,j⟩:=f 1 _ rfl;obtain⟨E,g,_,q⟩:=DataW.trod_string ES z;obtain⟨s1,e1,_,p⟩:=DataW.trod_string ES j;simp at g e1;subst g e1;exact⟨⟨E,s1⟩,O,c1,q,p⟩)
 subst c;refine⟨some a,cap,l,e,by omega,λx hx=> ?_,?_⟩
 .obtain⟨i,t,rfl⟩:=An hx;exact(r i t).2.2
 rcases BJ l.length with d|d
 .exact .inl (Ag d)
 obtain⟨b,o,rfl,A⟩:=Ff (k:=0) (by have:=(r 0 d).1;simpa using this);refine .inr ⟨b,o,rfl,A,λi t=> ?_⟩;have:=r i t;rw[Ba,Ba]at this;rw[Ae,AK t,BE,Cc];exact⟨this.1,this.2.1⟩
theorem JY{n:Int}(h:(Lit.int .i64 n).wf=true): -9223372036854775808<=n/\n<=9223372036854775807:=by
 simpa [Lit.wf,IntKind.min,IntKind.max,IntKind.signed,IntKind.bits]using h
theorem open_nodes{len cap:Nat}{d:DataW H}{p:List MemPlace}(h:DataW.Trod enc AC w base spare held 22 (.slice a len cap) d p):
 ∃t:List Nd,Gp w w.heap.size a t/\len=t.length:=by
 obtain⟨I,h⟩:=h;rcases open_slice_fields underlying22 underlying41 (by kernel_rfl) (by kernel_rfl) h with⟨e,_⟩|⟨u,O,N,m,D,Pl,e,_,hl,hm,y,hx,Q⟩
 .simp[Value.cells]at e;exact⟨[],⟨by simp,by simp,.inl rfl⟩,by simp[e.2.1]⟩
 simp[Value.cells]at e;obtain⟨rfl,rfl,rfl⟩:=e;have ee:len<=m:=by rw[y];split<;>omega
 obtain⟨l,g,c⟩:=JJ len (λi (x:Nd)=>w.cell? (u.add (i*5))=some (.int .i64 x.kind)/\w.cell? (u.add (i*5+1))=some (.string x.tag)/\w.cell? (u.add (i*5+2))=some (.string x.text)/\
  w.cell? (u.add (i*5+3))=some (.slice x.aa x.attrs.length x.ac)/\w.cell? (u.add (i*5+4))=some (.int .i64 x.size)/\x.Ok w w.heap.size) (λi et=>by
  obtain⟨ys,n,_,_,_,r⟩:=Q i (by omega);obtain⟨v0,y0,Z,_,G⟩:=r 0 _ rfl;obtain⟨v1,y1,c1,_,Y⟩:=r 1 _ rfl;obtain⟨v2,y2,c2,_,W⟩:=r 2 _ rfl;obtain⟨v3,y3,c3,_,F⟩:=r 3 _ rfl;obtain⟨v4,y4,c4,_,M⟩:=r 4 _ rfl;obtain⟨V,A,_,C⟩:=DataW.trod_int underlying3 G;obtain⟨s1,e1,_,U⟩:=DataW.trod_string ES Y;obtain⟨s2,e2,_,L⟩:=DataW.trod_string ES W;obtain⟨aa,ac,K,X,R⟩:=Qp F;obtain⟨B,T,_,S⟩:=DataW.trod_int underlying3 M;simp at A e1 e2 T;subst A e1 e2 X T;exact⟨⟨V,s1,s2,aa,ac,K,B⟩,Z,c1,c2,c3,c4,JY C,JY S,U,L,R⟩)
 subst g;refine⟨l,⟨by omega,λx hx=> ?_,?_⟩,rfl⟩
 .obtain⟨i,s,rfl⟩:=An hx;exact(c i s).2.2.2.2.2
 rcases BJ l.length with f|f
 .exact .inl (Ag f)
 obtain⟨b,o,rfl,J⟩:=Ff (k:=0) (by have:=(c 0 f).1;simpa using this);refine .inr ⟨b,o,rfl,J,λi s=> ?_⟩;obtain⟨E,z,j,q,v,_⟩:=c i s;rw[Ba]at E z j q v;rw[Ae,AK s,BE,Cc,Cc,Cc,Cc];exact⟨E,z,j,q,v⟩
end
open Go.WideShapes Go.Deep in
theorem open_ints{H:Type}{z:Dk × AS->H}{s:Nat->Bool}{u:Bool}{len cap:Nat}{d:DataW H}{p:List MemPlace}(h:DataW.Trod z AC w A s u 23 (.slice a len cap) d p):
 ∃l:List Int,Kj w w.heap.size a l/\len=l.length:=by
 obtain⟨I,h⟩:=h;have C:Tryz.prog.cellsOf 3=1:=by kernel_rfl
 rcases open_slice underlying23 h with⟨t,_⟩|⟨M,O,N,m,n,D,P,t,_,G,Y,y,hx,L⟩
 .simp[Value.cells]at t;exact⟨[],⟨.inl rfl,by simp,by simp⟩,by simp[t.2.1]⟩
 simp[Value.cells]at t;obtain⟨rfl,rfl,rfl⟩:=t;have F:len<=m:=by rw[y];split<;>omega
 obtain⟨l,g,c⟩:=JJ len (λi (x:Int)=>w.cell? (M.add i)=some (.int .i64 x)/\(-9223372036854775808<=x/\x<=9223372036854775807)) (λi W=>by
  obtain⟨r,E,ht⟩:=L i (by omega);rw[C,Nat.mul_one]at E;obtain⟨_,q,j⟩:=World.cells?_some E;obtain⟨v,rfl⟩:∃v,r=[v]:=by
   match r,q with
   |[v],_=>exact⟨v,rfl⟩
  obtain⟨R,T,_,S⟩:=DataW.trod_int underlying3 ht;simp at T;subst T;have:=j 0 (by omega);rw[Go.Deep.add_add,Dj]at this;exact⟨R,this,JY S⟩)
 subst g;refine⟨l,⟨?_,by omega,λx hx=> ?_⟩,rfl⟩
 .rcases BJ l.length with f|f
  .exact .inl (by rw[Ag f];rfl)
  obtain⟨b,o,rfl,U⟩:=Ff (k:=0) (c 0 f).1;refine .inr ⟨b,o,rfl,U,λi e=> ?_⟩;rw[CL]at e;have:=(c i e).1;rw[Ba]at this;rw[IK e];exact this
 obtain⟨i,e,rfl⟩:=An hx;exact(c i e).2
open Go.ChangeShapes Go.WideShapes Go.Deep Go.RowKit
theorem NQ{H:Type}{d:DataW H}{l:List (DataW H)}(h:d∈l):Rows.uptoBulk d<=Rows.uptoBulkAll l:=by
 induction l with
 |nil=>cases h
 |cons x r t=>
  simp only[Rows.uptoBulkAll];cases BQ.1 h with
  |inl e=>subst e;omega
  |inr e=>have:=t e;omega
theorem Tj{H:Type}(d:DataW H):1<=Rows.uptoBulk d:=by
 cases d with
 |lit l=>cases l<;>simp[Rows.uptoBulk]
 |nil=>simp[Rows.uptoBulk]
 |ptr d=>simp[Rows.uptoBulk]
 |slice o spare=>simp[Rows.uptoBulk]
 |agg a=>simp[Rows.uptoBulk]
 |iface t d=>simp[Rows.uptoBulk]
 |map e=>simp[Rows.uptoBulk]
 |held h=>simp[Rows.uptoBulk]
theorem O8{H:Type}(l:List (DataW H)):l.length<=Rows.uptoBulkAll l:=by
 induction l with
 |nil=>simp[Rows.uptoBulkAll]
 |cons x r e=>have:=Tj x;simp only[Rows.uptoBulkAll,Ak];omega
theorem bulk_slice{H:Type}(e spare:List (DataW H)):Rows.uptoBulkAll e+1<=Rows.uptoBulk (.slice e spare):=by
 simp only[Rows.uptoBulk];omega
theorem MN{H:Type}(bytes:List UInt8):Rows.uptoBulk (DataW.lit (H:=H) (.string bytes))=bytes.length+1:=by
 simp[Rows.uptoBulk]
theorem NR{H:Type}:∀(l:List ByteArray),Rows.uptoBulkAll (l.map λs=>(DataW.lit (H:=H) (.string s.data.toList)))=(Dv (l.map BZ)).length
 |[]=>by simp[Rows.uptoBulkAll,Dv]
 |s::l=>by
  rw[Bz,Bz,KZ,Rows.uptoBulkAll,MN,NR l];rfl
section
variable {H:Type} {enc:Dk × AS->H} {w:AB} {base:Nat} {spare:Nat->Bool} {held:Bool}
theorem open_intsF{s:Nat}{y:DataW H × List MemPlace}(h:DataW.trod enc AC w base spare held s 23 [v]=some y):
 ∃(aa:Option Ai) (ac:Nat) (l:List Int),v= .slice aa l.length ac/\Kj w w.heap.size aa l/\l.length<=Rows.uptoBulk y.1:=by
 have I:Tryz.prog.cellsOf 3=1:=by kernel_rfl
 rcases open_slice underlying23 h with⟨t,_⟩|⟨z,len,cap,m,n,D,M,t,_,U,L,u,hx,A⟩
 .simp at t;exact⟨none,0,[],t,⟨.inl rfl,by simp,by simp⟩,AY _⟩
 simp at t;have S:len<=m:=by rw[u];split<;>omega
 obtain⟨l,c,r⟩:=JJ len (λi (x:Int)=>w.cell? (z.add i)=some (.int .i64 x)/\(-9223372036854775808<=x/\x<=9223372036854775807)) (λi R=>by
  obtain⟨a,p,ht⟩:=A i (by omega);rw[I,Nat.mul_one]at p;obtain⟨_,f,g⟩:=World.cells?_some p;obtain⟨v,rfl⟩:∃v,a=[v]:=by
   match a,f with
   |[v],_=>exact⟨v,rfl⟩
  obtain⟨T,q,_,E⟩:=DataW.trod_int underlying3 ht;simp at q;subst q;have:=g 0 (by omega);rw[Go.Deep.add_add,Dj]at this;exact⟨T,this,JY E⟩)
 subst c;refine⟨some z,cap,l,t,⟨?_,by omega,λx hx=> ?_⟩,?_⟩
 .rcases BJ l.length with d|d
  .exact .inl (by rw[Ag d];rfl)
  obtain⟨b,o,rfl,O⟩:=Ff (k:=0) (r 0 d).1;refine .inr ⟨b,o,rfl,O,λi e=> ?_⟩;rw[CL]at e;have:=(r i e).1;rw[Ba]at this;rw[IK e];exact this
 .obtain⟨i,e,rfl⟩:=An hx;exact(r i e).2
 rw[hx];have C:=bulk_slice ((BV l.length).map D) ((BV (m-l.length)).map λj=>D (l.length+j));have N:=O8 ((BV l.length).map D);rw[Aq,D7]at N;show l.length<=Rows.uptoBulk (.slice _ _);omega
theorem Qq{r:Nat}{y:DataW H × List MemPlace}(h:DataW.trod enc AC w base spare held r 43 [v]=some y):
 ∃(aa:Option Ai) (ac:Nat) (l:List ByteArray),v= .slice aa l.length ac/\B6 w w.heap.size aa (l.map Value.string)/\l.length<=ac/\(Dv (l.map BZ)).length<=Rows.uptoBulk y.1:=by
 have R:Tryz.prog.cellsOf 9=1:=by kernel_rfl
 rcases open_slice underlying43 h with⟨e,_⟩|⟨A,len,cap,m,n,D,W,e,_,I,M,f,hx,N⟩
 .simp at e;exact⟨none,0,[],e,.inl rfl,AG _,AY _⟩
 simp at e;have L:len<=m:=by rw[f];split<;>omega
 obtain⟨l,g,u⟩:=JJ len (λi (x:ByteArray)=>w.cell? (A.add i)=some (.string x)/\D i= .lit (.string x.data.toList)) (λi U=>by
  obtain⟨a,z,ht⟩:=N i (by omega);rw[R,Nat.mul_one]at z;obtain⟨_,p,q⟩:=World.cells?_some z;obtain⟨v,rfl⟩:∃v,a=[v]:=by
   match a,p with
   |[v],_=>exact⟨v,rfl⟩
  obtain⟨O,T,e1,C⟩:=DataW.trod_string ES ht;simp at T;subst T;have:=q 0 (by omega);rw[Go.Deep.add_add,Dj]at this;exact⟨O,this,congrArg Prod.fst e1⟩)
 subst g;refine⟨some A,cap,l,e,?_,I,?_⟩
 .rcases BJ l.length with c|c
  .exact .inl (by rw[Ag c];rfl)
  obtain⟨b,o,rfl,S⟩:=Ff (k:=0) (u 0 c).1;refine .inr ⟨b,o,rfl,S,λi t=> ?_⟩;rw[Aq]at t;have:=(u i t).1;rw[Ba]at this;rw[BD];exact this
 rw[hx];have E:=bulk_slice ((BV l.length).map D) ((BV (m-l.length)).map λj=>D (l.length+j));have d:(BV l.length).map D=l.map λs=>(DataW.lit (H:=H) (.string s.data.toList)):=by
  refine List.ext_getElem (by simp) λi E d=> ?_;rw[BD,BD,List.getElem_range];rw[Aq]at d;exact(u i d).2
 have F:=NR (H:=H) l;rw[d]at E|-;show(Dv (l.map BZ)).length<=Rows.uptoBulk (.slice _ _);omega
theorem open_steps{len cap:Nat}{d:DataW H}{p:List MemPlace}(h:DataW.Trod enc AC w base spare held 24 (.slice a len cap) d p)(hbk:Rows.uptoBulk d<=1048576):
 ∃l:List Dh,On w w.heap.size a l/\len=l.length/\(∀x∈l,x.aO)/\l.length<=1048576:=by
 obtain⟨P,h⟩:=h;rcases open_slice_fields underlying24 underlying45 (by kernel_rfl) (by kernel_rfl) h with⟨u,_⟩|⟨a',G,B,m,D,Pl,u,_,hl,hm,S,hx,hi⟩
 .simp[Value.cells]at u;exact⟨[],⟨.inl rfl,by simp⟩,by simp[u.2.1],by simp,by simp⟩
 simp[Value.cells]at u;obtain⟨rfl,rfl,rfl⟩:=u;have hlm:len<=m:=by rw[S];split<;>omega
 have hd:d= .slice ((BV len).map D) ((BV (m-len)).map λj=>D (len+j)):=congrArg Prod.fst hx;have U:=bulk_slice ((BV len).map D) ((BV (m-len)).map λj=>D (len+j));rw[<-hd]at U;have C:∀i,i<len->Rows.uptoBulk (D i)<=1048575:=λi c=>by
  have:=NQ (BK (f:=D) (List.mem_range.2 c));omega
 obtain⟨l,L,T⟩:=JJ len (λi (x:Dh)=>(∀(j:Nat) v,x.vv[j]? =some v->w.cell? (a'.add (i*6+j))=some v)/\x.Ok w w.heap.size/\x.aO) (λi c=>by
  obtain⟨M,n,N,_,_,g⟩:=hi i (by omega);have q:=C i c;rw[N]at q;simp only[Rows.uptoBulk]at q;have q:Rows.uptoBulkAll (M.map Prod.fst)+1<=1048575:=q;have s:∀(j:Nat) (y:DataW H × List MemPlace),M[j]? =some y->Rows.uptoBulk y.1<=1048575:=λj y hy=>by
   have:=NQ (BK (f:=Prod.fst) (List.mem_of_getElem? hy));omega
  obtain⟨v0,y0,c0,b0,t0⟩:=g 0 _ rfl;obtain⟨v1,X,c1,b1,t1⟩:=g 1 _ rfl;obtain⟨v2,J,c2,b2,t2⟩:=g 2 _ rfl;obtain⟨v3,Q,c3,b3,t3⟩:=g 3 _ rfl;obtain⟨v4,K,c4,b4,t4⟩:=g 4 _ rfl;obtain⟨v5,V,c5,b5,Z⟩:=g 5 _ rfl;obtain⟨n0,Y,_,z0⟩:=DataW.trod_int underlying3 t0;obtain⟨oa,oc,on,e1,i1,l1⟩:=open_intsF t1;obtain⟨wa,wc,wi,e2,i2,l2⟩:=open_intsF t2;obtain⟨E,W,d3,z3⟩:=DataW.trod_string ES t3;obtain⟨z,F,d4,z4⟩:=DataW.trod_string ES t4;obtain⟨la,lc,nm,e5,r5,k5,l5⟩:=Qq Z;have q1:=s 1 X b1;have q2:=s 2 J b2;have q3:=s 3 Q b3;have q4:=s 4 K b4;have q5:=s 5 V b5;rw[d3,MN]at q3;rw[d4,MN]at q4;have n3:E.data.toList.length=E.size:=by rw[Array.length_toList];rfl
  have n4:z.data.toList.length=z.size:=by rw[Array.length_toList];rfl
  obtain⟨I,O⟩:=L6 (nm.map BZ);rw[Aq]at I;simp at Y W F;subst Y e1 e2 W F e5;refine⟨⟨n0,oa,on,oc,wa,wi,wc,E,z,la,nm,lc⟩,λj v t=> ?_,⟨i1,i2,r5,k5,?_,?_⟩,⟨⟨?_,?_,?_,λx hx=> ?_,?_⟩,?_,?_⟩⟩
  .have hj:j<6:=by
    have:=(AE.1 t).1;simpa [Dh.vv,BW]using this
   match j,hj with
   |0,_=>simp[Dh.vv,BW]at t;subst t;exact c0
   |1,_=>simp[Dh.vv,BW]at t;subst t;exact c1
   |2,_=>simp[Dh.vv,BW]at t;subst t;exact c2
   |3,_=>simp[Dh.vv,BW]at t;subst t;exact c3
   |4,_=>simp[Dh.vv,BW]at t;subst t;exact c4
   |5,_=>simp[Dh.vv,BW]at t;subst t;exact c5
  .show on.length<=_;omega
  .show wi.length<=_;omega
  .show E.size<=_;omega
  .show z.size<=_;omega
  .show nm.length<=_;omega
  .have:=O _ (BK (f:=BZ) hx);have e:(BZ x).length=x.size:=by show x.data.toList.length=_;rw[Array.length_toList];rfl
   omega
  .show(Dv (nm.map BZ)).length<=_;omega
  .show on.length<=_;omega
  show wi.length<=_;omega)
 subst L;have R:=O8 ((BV l.length).map D);rw[Aq,D7]at R;refine⟨l,⟨?_,λx hx=> ?_⟩,rfl,λx hx=> ?_,by omega⟩
 .rcases BJ l.length with A|A
  .exact .inl (Ag A)
  obtain⟨b,o,rfl,q⟩:=Ff (k:=0) (by have:=(T 0 A).1 0 _ rfl;simpa using this);refine .inr ⟨b,o,rfl,q,λi r j v t=> ?_⟩;have:=(T i r).1 j v t;rw[Ba]at this;rw[Cc];exact this
 .obtain⟨i,r,rfl⟩:=An hx;exact(T i r).2.1
 obtain⟨i,r,rfl⟩:=An hx;exact(T i r).2.2
end
open Go.WideShapes Go.Deep in
theorem open_ints_c{H:Type}{i:Dk × AS->H}{t:Nat->Bool}{o:Bool}{len cap:Nat}{d:DataW H}{p:List MemPlace}(h:DataW.Trod i AC w A t o 23 (.slice a len cap) d p):
 ∃l:List Int,Kj w w.heap.size a l/\len=l.length/\len<=cap:=by
 obtain⟨l,f,c⟩:=open_ints h;refine⟨l,f,c,?_⟩;obtain⟨r,h⟩:=h;rcases open_slice underlying23 h with⟨e,_⟩|⟨v,s,u,m,n,D,k,e,_,y,_⟩
 .simp[Value.cells]at e;omega
 simp[Value.cells]at e;obtain⟨_,b,g⟩:=e;omega
end Go.Proofs.YtgajepeipddacaaGreat
