/- Part 5 of the proof of FnCloneApart: what the law and the program compute, walked. -/
import Derived.Test.YtgajepeipddacaaGreatJ4
open Go.RowKit Go.Proofs.Tryz
open Array renaming getElem?_eq_some_iff->AE
open ByteArray renaming size_append->G4
open Go renaming Addr->Ai,Calls->AX,Ending->Bx,TypeId->Dk,Value->AS,World->AB,below_drewN->BC,cell_of_row->AZ,frozen_of_row->A7,heap_alloc_new->Ah,heap_setCell_same->Ao,info_parts->D6,madeCells->DG
open Go.Addr renaming add_lit->Ba
open Go.ByteArray renaming toList_eq->BU
open Go.Lib renaming byteCells->Gn,contains->Cf,hid->AA,isSp->Cp,join->EE,trimSpace->Bi
open Go.Proofs.Tryz renaming prog->AC,underlying9->ES
open Go.RowKit renaming Below->AL,intOf->Aa
open Go.RowKit.Below renaming heap_alloc->B5,refl->AW
open Go.Value renaming ownBlock->A6,slice->AO
open Go.World renaming block_lt_of_cell?->Bn,cell?_alloc_mark->BI,cell?_of_block->Am,ownsRow_nil->Aw
open List renaming append_assoc->Bw,append_nil->Ey,eq_nil_of_length_eq_zero->Ag,flatMap_append->C9,flatMap_cons->A_,getElem?_eq_getElem->AK,getElem?_eq_some_iff->C6,getElem_inj->C0,getElem_map->BD,getElem_mem->AD,getElem_of_mem->An,getElem_take->F_,length->Dw,length_append->AN,length_cons->Ak,length_drop->DN,length_map->Aq,length_pos_iff->Bg,length_reverse->EF,length_take->At,map_append->B3,mem_append->AV,mem_cons->BQ,mem_cons_of_mem->Ab,mem_cons_self->Af,mem_map->BL,mem_map_of_mem->BK,mem_of_mem_take->Ci,mem_reverse->CA,mem_singleton->AP,mem_take_iff_getElem->C7,nil_append->BY,nodup_append->BA,nodup_cons->B4,range->BV,range'->EP,reverse_reverse->CO,take_append_drop->Av,take_length->AU,take_of_length_le->BP,take_succ_eq_append_getElem->AF,take_zero->BM
open Nat renaming add_sub_cancel_left->Fu,le_of_lt->Ca,le_refl->AG,le_trans->AH,lt_of_lt_of_le->AR,lt_or_ge->Be,zero_add->By,zero_le->AY
open Option renaming map_eq_some_iff->Eu,map_none->BF,map_some->As
open Go.Proofs.YtgajepeipddacaaGreat
namespace Go.Proofs.YtgajepeipddacaaGreat
set_option linter.unusedVariables false
set_option maxRecDepth 100000
set_option maxHeartbeats 40000000
variable{B A c g i k n p r x:Nat}{F:Fo}{Q:Exit->Act->AB->Prop}{S:Nat->Prop}{a L:Option Ai}{Z C h O:Nat->Nat}{E z:Array AS}{l:List At2}{H:Nat->Nd}{I J Y:List Nat}{U:Int}{T:Array Oper}{s:bY}{V W:Nat->Dn}{t:List Nd}{v:AS}{w N M wr:AB}
def TX(l:List At2)(k:ByteArray)(aa:Option Ai)(w:AB)(e:Bx)(w':AB):Prop:=
 (if B8 l k<l.length then∃t,aa=some ⟨t,0,none⟩/\e= .returned (.pointer (some ⟨t,B8 l k*3,none⟩))else e= .returned (.pointer none))/\AL w.heap.size w w'
theorem KA(g B:Nat)(Y:Array AS)(l:List At2)(aa:Option Ai)(ac:Nat)(k:ByteArray)(w:AB)(S:w.cell? ⟨g,9,none⟩=some (.slice aa l.length ac))(C:l.length<=2147483647)(N:g<w.heap.size)
 (o:w.ownsRow B 133 3 (.slice aa l.length ac) l.length (CG l)):
 AX AC 100 #[.string k,.pointer (some ⟨g,0,none⟩)] w (TX l k aa w):=by
 have f:=AA o;clear o;go_enter func100,ntmps100;go_wp2;go_loopw [14] (λx wr=>∃c:Nat,c<=l.length/\x= .int .i64 c/\Hid (∀j (h:j<l.length),j<c->(l[j].key.toList==k.toList)=false)/\Hid (AL w.heap.size w wr)) (λx _=>l.length-(Aa x).toNat)
 .exact⟨0,by omega,rfl,(λj _ r=>by omega),AW _ _⟩
 obtain⟨i,M,rfl,n,d⟩:=hrel;by_cases s:i<l.length
 .obtain⟨a,rfl⟩:∃a,aa=some ⟨a,0,none⟩:=by
   rcases f.o.2 with⟨_,F⟩|⟨q,cap,U,I,_⟩
   .omega
   cases I;exact⟨q,rfl⟩
  have E:=(f.o.lt a rfl).2;have t:∀j v,(CG l)[j]? =some v->wr.cell? ⟨a,j,none⟩=some v:=by
   intro j v r;have:=f.o.cells (g:=a) rfl j v r;rw[Ba,By]at this;exact(d.o.cell (p:=⟨a,j,none⟩) E).trans this
  obtain⟨f0,f1,f2⟩:=MU s;have W:=t _ _ f0;have R:=t _ _ f1;have H:=t _ _ f2;have T:=(d.o.cell (p:=⟨g,9,none⟩) N).trans S;clear t f0 f1 f2;obtain⟨y,m⟩:∃y,y=l[i]:=⟨_,rfl⟩;rw[<-m]at R H;have O:=AA m;clear m;have u:=d.o.size;have L:(wr.alloc (.cells #[.string ⟨#[]⟩,.string y.key,.string y.val] 133)).cell? ⟨g,9,none⟩=some (.slice (some ⟨a,0,none⟩) l.length ac):=by
   rw[World.cell?_alloc_lt _ _ _ (by simp;omega)];exact T
  cases A:(y.key.toList==k.toList)
  .have z:=AA A;go_wp2;go_roundw
   .refine⟨i+1,by omega,by go_num,(λj r D=> ?_),?_⟩
    .by_cases e:j=i
     .subst e;rw[<-O.o];exact z.o
     exact n.o j r (by omega)
    exact d.o.alloc u _
   simp[Aa];omega
  have z:=AA A;have b:Hid (B8 l k=i):=by
   have e2:=z.o;rw[O.o]at e2;exact KH s n.o e2
  go_wp2;go_ret;refine⟨?_,d.o.alloc u _⟩;rw[b.o,AJ s];exact⟨a,rfl,by first|rfl|simp⟩
 have b:Hid (B8 l k=l.length):=JF (λj r=>n.o j r (by omega));go_wp2;go_ret;refine⟨?_,d.o⟩;rw[b.o,AI (by omega)];try rfl
theorem QX(v:ByteArray):∀(l:List At2) (i:Nat) (h:i<l.length),CG (l.set i ⟨l[i].key,v⟩)=(CG l).set (i*3+2) (.string v):=by
 intro l;induction l with
 |nil=>intro i h;simp at h
 |cons y l e=>
  intro i h;cases i with
  |zero=>rfl
  |succ i=>
   rw[List.set_cons_succ,Fl,List.getElem_cons_succ,e i (by simpa using h),Fl,show(i+1)*3+2=i*3+2+3 by omega];rfl
theorem If{rest:List Oper}{o:Oper}{a:Act}(p:o.guard=none)(s x:Operand)
 (N:o.op= .call {callee:= .builtin .append,args:= #[s,x],argTypes:= #[99,99]})
 (base:Nat)(v:AS)(l:List At2)(I:a.eval s=v)(n:w.ownsRow base 133 3 v l.length (CG l))(k u:ByteArray)(q c:Nat)(hx:a.eval x= .slice (some ⟨q,0,none⟩) 1 c)(b:w.heap[q]? =some (.cells #[.string ⟨#[]⟩,.string k,.string u] 133 (0,0)))(E:l.length<=100000)(e:base<=w.heap.size)
 (h:∀i t w',w'.ownsRow base 133 3 (.slice i (l.length+1) t) (l.length+1) (CG (l++[⟨k,u⟩]))->w.grownBy w' v.ownBlock->((AO i (l.length+1) t).ownBlock=v.ownBlock\/(AO i (l.length+1) t).ownBlock=some w.heap.size)->wpList AC T Q rest (a.put o.dst (.slice i (l.length+1) t)) w'):
 wpList AC T Q (o::rest) a w:=by
 obtain⟨O,r,y,f,m⟩:=D6 Tryz.Zk;have g:=(AE.1 b).1;refine FY w p s x 99 N base 133 O (.agg #[.string ⟨#[]⟩,.string ⟨#[]⟩,.string ⟨#[]⟩]) 3 48 underlying99 r y f m rfl (by decide) v l.length (CG l) I n w.heap.size (some ⟨q,0,none⟩) 1 c [.string ⟨#[]⟩,.string k,.string u] hx ⟨rfl,λ_=>⟨_,rfl,g,λj A d=> ?_⟩⟩ (λA d=>by simp at d;rcases d with rfl|rfl|rfl<;>rfl) (by unfold maxLen;omega) (by omega) e ?_
 .rw[Ba,By,AZ w q j _ _ _ b];rw[<-d];simp
 intro R w' z H S;obtain⟨i,t,rfl⟩:=DA z;exact h i t w' (by rw[MV];exact z) H S
theorem Mu{ab cap:Nat}{W:AB}(h:Je z B l g ab cap E W)(t:i<l.length)(v:ByteArray):
 J0 z B (l.set i ⟨l[i].key,v⟩) g (W.setCell ⟨ab,i*3+2,none⟩ (.string v)):=by
 have e:g≠ab:=h.ne;have a:=Ao W ab (i*3+2) _ _ (.string v) h.row;refine Je.el (ab:=ab) (cap:=cap) ⟨?_,a,h.base,h.hds,by rw[List.length_set];exact h.le,h.max,by simp[h.size],?_⟩
 .rw[heap_setCell_other _ _ _ _ e,List.length_set];exact h.blk
 rw[QX v l i t,<-h.take,List.length_set];simp[List.take_set]
theorem LV{e:Option Ai}{c3:Nat}{v0:AS}{W:AB}(t:z.size=9)(o:W.heap[g]? =some (.cells (z.push v0) 101 (0,0)))(i:n=l.length)(a:W.ownsRow B 133 3 (.slice e n c3) n (CG l)):J0 z B l g (W.setCell ⟨g,9,none⟩ (.slice e n c3)):=by
 subst i;refine⟨t,e,c3,?_,?_⟩
 .have:=Ao W g 9 _ _ (.slice e l.length c3) o;rw[KW t]at this;exact this
 exact BS a (Ax a o (by decide)) _
theorem XR(k v:ByteArray)(J:Y.Nodup)(hxl:Y.length<=100000)(hx:∀x∈Y,x<s.N/\(s.nd x).kind=3/\(s.nd x).attrs.length<=1000){C:Nat}(hP:Br s.F (λi=>i<s.N) s.nd B Z V w)(hBC:B<=C)(hC:C<=w.heap.size)(D g:Nat)(H:Option Ai)(eh:GJ Z Y D g H w):
 AX AC 78 #[.pointer (some ⟨g,0,none⟩),.string k,.string v] w (Bk g (Ew s.N B C Z w (DV (λl=>Cu l k v) s Y))):=by
 obtain⟨a1,c1,O,U,hD,t⟩:=eh;have c0:=U.cells.1;have HI0:Hid (LJ s B C Z w s Y D g a1 H O c1 V w):=⟨PA.refl (n:=s.N) rfl hP,U,t⟩;have HX:=AA hx;have HN:=AA J;clear hx J hP U t;go_enter func78,ntmps78;go_wp2;go_loopw [8,9,15] (λ_ _ x wr=>∃(i:Nat) (j:Nat->Dn),i<=Y.length/\x= .int .i64 i/\Hid (LJ s B C Z w (DV (λl=>Cu l k v) s (Y.take i)) Y D g a1 H O c1 j wr)) (λ_ _ x _=>Y.length-(Aa x).toNat)
 .exact⟨0,V,AY _,rfl,HI0.o⟩
 obtain⟨i,j,hi,rfl,L⟩:=hrel;clear c0;by_cases m:i<Y.length
 .obtain⟨b,o,rfl,hbB,hc⟩:=L.o.aS.at_ (by rw[AM];omega);have g1:=hc i (by rw[AM];exact m);rw[A5 m]at g1;obtain⟨q1,q2,q3⟩:=HX.o Y[i] (AD m);obtain⟨e1,e2⟩:=Hf (f:=λl=>Cu l k v) (s:=s) HN.o m;obtain⟨k1,k2,k3⟩:=Ej (f:=λl=>Cu l k v) (Y.take i) s;have P:=L.o.pa.prog.aY (x:=Y[i]) (by rw[k2];exact q1) (by rw[e2];exact q2);rw[e2]at P;have hBr:B<=wr.heap.size:=AH hBC (AH hC L.o.pa.turn.size);have A:Hid (∀W2,J0 (P8 Z (j Y[i])) B (Cu (s.nd Y[i]).attrs k v) (Z Y[i]) W2->NT (Z Y[i]) wr W2->∃p,LJ s B C Z w (DV (λl=>Cu l k v) s (Y.take (i+1))) Y D g (some ⟨b,o,none⟩) H O c1 p W2):=λW2 K h2=>by
   rw[e1];exact L.o.next hC k2 q1 (by rw[e2];exact q2) K h2
  obtain⟨l,hl⟩:∃l,l=(s.nd Y[i]).attrs:=⟨_,rfl⟩;rw[<-hl]at P A q3;obtain⟨hd,et⟩:∃hd,hd=P8 Z (j Y[i]):=⟨_,rfl⟩;rw[<-et]at P A;obtain⟨u,ee⟩:∃u,u=Z Y[i]:=⟨_,rfl⟩;rw[<-ee]at g1 A P;have HEl:=AA P;obtain⟨hds,aa,ac,d,t⟩:=P;have z:u<wr.heap.size:=(AE.1 d).1;have HP:=AA (KA u B #[] l aa ac k wr (by rw[AZ wr _ 9 _ _ _ d,DX hds]) (by omega) z t);have HBl:=AA d;have HOw:=AA t;have X:rowAt wr u=(AO aa l.length ac).ownBlock:=by
   unfold rowAt;rw[AZ wr _ 9 _ _ _ d,DX hds]
  have F:=AA X;clear hc e1 e2 k1 k2 k3 et ee hl L d t X q2;go_wp2_with fail;refine HP.o.mono ?_;rintro e y ⟨K,ea⟩;have r:=AA ea;clear ea;by_cases hx:B8 l k<l.length
  .rw[AJ hx]at K;obtain⟨ab,ei,rfl⟩:=K;obtain⟨R,cap,cur,Q⟩:=HEl.o.blocks (by omega);have S:=Q.below r.o;have he:R=ab:=by
    have e1:=Q.rowAt;rw[F.o,ei]at e1;simpa [A6]using e1.symm
   subst he;obtain⟨p0,p1,p2⟩:=S.cell hx;have f2:y.frozen? ⟨R,B8 l k*3+2,none⟩=false:=A7 y R _ _ _ S.row;obtain⟨p,T⟩:=A.o (y.setCell ⟨R,B8 l k*3+2,none⟩ (.string v)) (by rw[KY hx];exact Mu S hx v) ((NT.Yq r.o z).setRow (.inl Q.rowAt) (λe=>Q.ne e.symm) _ _);have W:=AA T;clear ei Q S T;go_wp2;go_roundw
   .exact⟨i+1,p,m,by go_num,W⟩
   simp[Aa];omega
  rw[AI hx]at K;subst K;have a:=(r.o.block _ z).trans HBl.o;have hg1:u<y.heap.size:=(AE.1 a).1;have I:=BB HOw.o (λb _ hb=>r.o.block b hb);have c9:y.cell? ⟨u,9,none⟩=some (.slice aa l.length ac):=by rw[AZ y _ 9 _ _ _ a,DX hds]
  have HB:=AA a;have HW:=AA I;have er:Hid (Cu l k v=l++[⟨k,v⟩]):=Mt hx;have hB1s:B<=y.heap.size:=AH hBr r.o.size;have HNw:Hid ((y.alloc (.cells #[.string ⟨#[]⟩,.string k,.string v] 133)).heap[y.heap.size]? =some (.cells #[.string ⟨#[]⟩,.string k,.string v] 133 (0,0))):=Ah y _;clear a I;go_wp2_with(at_builtin;refine If rfl (.tmp 28) (.tmp 32) rfl B (.slice aa l.length ac) l rfl (HW.o.alloc _) k v y.heap.size 1 rfl HNw.o (by omega) (by simp;omega) ?_);intro a3 c3 G N c eo;have M:some u≠(AO aa l.length ac).ownBlock:=λe=>Ax HW.o HB.o (by decide) e.symm;have E:G.heap[u]? =some (.cells (hd.push (.slice aa l.length ac)) 101 (0,0)):=by
   rw[c.block u (by simp;omega) M,B5 _ _ _ hg1];exact HB.o
  have es:NT u wr (y.alloc (.cells #[.string ⟨#[]⟩,.string k,.string v] 133)):=NT.Yq (r.o.alloc r.o.size _) z;have en:NT u wr G:=es.grown z c (λq hq=>⟨.inl (by rw[F.o];exact hq),λe=>M (by rw[<-e];exact hq.symm)⟩);have d9:G.cell? ⟨u,9,none⟩=some (.slice aa l.length ac):=by rw[AZ G _ 9 _ _ _ E,DX hds]
  have e9:=A7 G u 9 _ _ E;obtain⟨p,T⟩:=A.o (G.setCell ⟨u,9,none⟩ (.slice a3 (l.length+1) c3)) (by
   rw[er.o];exact LV hds E (by simp) N) (en.Zu hds E (λb e=>by
   rcases eo with h|h
   .rw[h]at e;exact .inl (by rw[F.o];exact e)
   rw[h]at e;injection e with e;right;rw[<-e];have:=r.o.size;simp;omega))
  have W:=AA T;clear N c eo E es en M c9 T;go_wp2;go_roundw
  .exact⟨i+1,p,m,by go_num,W⟩
  simp[Aa];omega
 have e:i=Y.length:=by omega
 subst e;have HF:Hid (Ew s.N B C Z w (DV (λl=>Cu l k v) s Y) wr):=by
  have:=L.o.pa;rw[AU]at this;exact⟨Z,j,this⟩
 clear L;go_wp2;go_ret;exact⟨rfl,HF.o⟩
def blk(c:List UInt8):List UInt8:=32::c++[32]
structure CT(X:List UInt8):Prop where
 front:∃m,X=32::m
 back:∃m,X=m++[32]
 ws:∀c∈X,Gm c=true->c=32
structure CN(c:List UInt8):Prop where
 ne:c≠[]
 ws:∀x∈c,Gm x=false
theorem CT.has{X c:List UInt8}(h:CT X)(t:CN c):Cf X (blk c)=true↔c∈BG X:=by
 rw[FP];have e1:BG (32::X++[32])=BG X:=by rw[Fr (by decide),Eg (by decide)]
 constructor
 .rintro⟨A,B,e⟩;refine(NK h.ws t.ws t.ne).2 ⟨32::A,B++[32],?_⟩;rw[e];unfold blk;simp
 intro s;obtain⟨_,_,n,o,e,f,u⟩:=LH s;have d:∃A,n=A++[32]:=by
  rcases f with rfl|⟨p,x,rfl,hx⟩
  .obtain⟨m,i⟩:=h.front;rw[BY]at e;obtain⟨y,w,rfl⟩:=List.exists_cons_of_ne_nil t.ne;rw[i]at e;have:(32:UInt8)=y:=by simpa using congrArg List.head? e
   have a:=t.ws y (by simp);rw[<-this]at a;cases a
  have:x=32:=h.ws x (by rw[e];simp) hx;exact⟨p,by rw[this]⟩
 have r:∃B,o=32::B:=by
  rcases u with rfl|⟨x,p,rfl,hx⟩
  .obtain⟨m,i⟩:=h.back;rw[Ey]at e;rcases List.eq_nil_or_concat c with l|⟨w,y,rfl⟩
   .exact absurd l t.ne
   rw[i,List.concat_eq_append,<-Bw]at e;have:(32:UInt8)=y:=by simpa using (congrArg List.getLast? e)
   have a:=t.ws y (by simp);rw[<-this]at a;cases a
  have:x=32:=h.ws x (by rw[e];simp) hx;exact⟨p,by rw[this]⟩
 obtain⟨A,rfl⟩:=d;obtain⟨B,rfl⟩:=r;exact⟨A,B,by rw[e];unfold blk;simp⟩
def Gj(old new:List UInt8):Nat->List UInt8->List UInt8
 |0,s=>s
 |f+1,s=>if Lib.index s old<0 then s else s.take (Lib.index s old).toNat++new++Gj old new f (s.drop ((Lib.index s old).toNat+old.length))
theorem Iv{s old:List UInt8}(h:0<=Lib.index s old):∃B,s=s.take (Lib.index s old).toNat++old++B/\s.drop ((Lib.index s old).toNat+old.length)=B:=by
 rcases Lib.index_spec s old with⟨a,_⟩|⟨i,a,o,t,_⟩
 .omega
 rw[a];unfold Lib.occAt at t;obtain⟨B,e⟩:=List.isPrefixOf_iff_prefix.1 t;refine⟨B,?_,?_⟩
 .rw[Int.toNat_natCast,Bw,e,Av]
 rw[Int.toNat_natCast,<-List.drop_drop,<-e,List.drop_left]
theorem PL{s old:List UInt8}(h:Cf s old=false):Lib.index s old<0:=by
 unfold Cf at h;rw[decide_eq_false_iff_not]at h;omega
theorem Re{s old new:List UInt8}(h:Cf s old=false):∀f,Gj old new f s=s:=by
 intro f;cases f with
 |zero=>rfl
 |succ f=>rw[Gj,AJ (PL h)]
def I5(X c:List UInt8):List UInt8:=if Cf X (blk c)=true then Gj (blk c) [32] (X.length+1) X else X++c++[32]
def MG(X c:List UInt8):List UInt8:=if Cf X (blk c)=true then X else X++c++[32]
theorem CT.more{X c:List UInt8}(h:CT X)(t:CN c):CT (X++c++[32])/\BG (X++c++[32])=BG X++[c]:=by
 obtain⟨m,i⟩:=h.front;obtain⟨b,o⟩:=h.back;refine⟨⟨⟨m++c++[32],by rw[i];simp⟩,⟨X++c,rfl⟩,λx hx a=> ?_⟩,?_⟩
 .rw[AV,AV,AP]at hx;rcases hx with(hx|hx)|hx
  .exact h.ws x hx a
  .have:=t.ws x hx;rw[a]at this;cases this
  exact hx
 have e:X++c++[32]=b++32::(c++[32]):=by rw[o];simp
 rw[e,DZ (by decide),Fr (by decide),Er t.ws t.ne,o,Fr (by decide)]
theorem CT.less{X c:List UInt8}(h:CT X)(t:CN c)(n:(BG X).Nodup)(d:c∈BG X):
 ∃A B,X=A++blk c++B/\I5 X c=A++32::B/\CT (I5 X c)/\BG X=BG A++c::BG B/\BG (I5 X c)=BG A++BG B:=by
 have e:=(h.has t).2 d;have w:0<=Lib.index X (blk c):=by unfold Cf at e;exact decide_eq_true_eq.mp e
 obtain⟨B,e1,e2⟩:=Iv w;obtain⟨A,s⟩:∃A,A=X.take (Lib.index X (blk c)).toNat:=⟨_,rfl⟩;rw[<-s]at e1;have r:BG X=BG A++c::BG B:=by
  have:X=A++32::(c++32::B):=by rw[e1];unfold blk;simp
  rw[this,DZ (by decide),DZ (by decide),Er t.ws t.ne];rfl
 have i:Cf B (blk c)=false:=by
  rw[Bool.eq_false_iff];intro q;obtain⟨k,p,g⟩:=(FP _ _).1 q;have:B=k++32::(c++32::p):=by rw[g];unfold blk;simp
  have f:c∈BG B:=by
   rw[this,DZ (by decide),DZ (by decide),Er t.ws t.ne];simp
  rw[r,BA]at n;exact(B4.1 n.2.1).1 f
 have a:I5 X c=A++32::B:=by
  unfold I5;rw[AJ e,Gj,AI (by omega),e2,Re i,<-s];simp
 refine⟨A,B,e1,a,?_,r,?_⟩
 .rw[a];obtain⟨m,l⟩:=h.front;obtain⟨b,u⟩:=h.back;refine⟨?_,?_,λx hx o=> ?_⟩
  .cases A with
   |nil=>exact⟨B,rfl⟩
   |cons y A=>
    rw[l]at e1;have:(32:UInt8)=y:=(by simpa using congrArg List.head? e1);exact⟨A++32::B,by rw[<-this];rfl⟩
  .rcases List.eq_nil_or_concat B with rfl|⟨v,y,rfl⟩
   .exact⟨A,rfl⟩
   rw[u,List.concat_eq_append,<-Bw]at e1;have:(32:UInt8)=y:=by simpa using congrArg List.getLast? e1
   exact⟨A++32::v,by rw[<-this,List.concat_eq_append];simp⟩
  have:x∈X:=by
   rw[e1];unfold blk;rw[AV,BQ]at hx;rcases hx with hx|hx|hx
   .simp[hx]
   .simp[hx]
   simp[hx]
  exact h.ws x this o
 rw[a,DZ (by decide)]
theorem CT.bF{X c:List UInt8}(h:CT X)(s:CN c)(o:(BG X).Nodup):
 CT (I5 X c)/\(BG (I5 X c)).Nodup/\∀v,v∈BG (I5 X c)↔(v∈BG X/\v≠c)\/(v=c/\c∉BG X):=by
 by_cases t:c∈BG X
 .obtain⟨A,B,_,_,w,f,m⟩:=h.less s o t;rw[f]at o|-;rw[m];have i:=BA.1 o;have d:=B4.1 i.2.1;refine⟨w,?_,λv=> ?_⟩
  .exact o.sublist ((List.Sublist.refl _).append (List.sublist_cons_self _ _))
  simp only[AV,BQ,true_or,or_true,not_true_eq_false,and_false,or_false];constructor
  .rintro(q|q)
   .exact⟨.inl q,λe=>i.2.2 v q c (by simp) e⟩
   exact⟨.inr (.inr q),λe=>d.1 (e▸q)⟩
  rintro⟨q|q|q,r⟩
  .exact .inl q
  .exact absurd q r
  exact .inr q
 have n:Cf X (blk c)=false:=by
  rw[Bool.eq_false_iff];intro q;exact t ((h.has s).1 q)
 have p:I5 X c=X++c++[32]:=by unfold I5;rw[AI (by simp[n])]
 obtain⟨g,y⟩:=h.more s;rw[p,y];refine⟨g,?_,λv=> ?_⟩
 .rw[BA];exact⟨o,by simp,λa u b l e=>t (by rw[AP]at l;rw[<-l,<-e];exact u)⟩
 rw[AV,AP];constructor
 .rintro(q|q)
  .exact .inl ⟨q,λe=>t (e▸q)⟩
  exact .inr ⟨q,t⟩
 rintro(⟨q,_⟩|⟨q,_⟩)
 .exact .inl q
 exact .inr q
theorem Lw:∀(l:List UInt8),(∀c∈l,Cp c=true->Gm c=true)->BG (l.dropWhile Cp)=BG l:=by
 intro l;induction l with
 |nil=>intro _;rfl
 |cons x l e=>
  intro h;rw[List.dropWhile_cons];split
  .rename_i hx;rw[e (λc t=>h c (by simp[t])),Eg (h x (by simp) hx)]
  rfl
theorem Py:∀(l:List UInt8),(∀c∈l,Cp c=true->Gm c=true)->BG ((l.dropWhile Cp).reverse)=BG l.reverse:=by
 intro l;induction l with
 |nil=>intro _;rfl
 |cons x l e=>
  intro h;rw[List.dropWhile_cons];split
  .rename_i hx;rw[e (λc t=>h c (by simp[t])),List.reverse_cons,Fr (h x (by simp) hx)]
  rfl
theorem RA{l:List UInt8}(h:∀c∈l,Cp c=true->Gm c=true):BG (Bi l)=BG l:=by
 unfold Bi;have t:∀c∈l.dropWhile Cp,Cp c=true->Gm c=true:=λc e=>h c ((List.dropWhile_suffix _).subset e);rw[Py _ (λc e=>t c (CA.1 e)),CO,Lw _ h]
theorem Tb{X c:List UInt8}(h:CT X)(t:CN c)(a:c∉BG X):CT (MG X c)/\BG (MG X c)=BG X++[c]:=by
 have e:Cf X (blk c)=false:=by
  rw[Bool.eq_false_iff];intro q;exact a ((h.has t).1 q)
 have o:MG X c=X++c++[32]:=by unfold MG;rw[AI (by simp[e])]
 rw[o];exact h.more t
def Dc(l:List UInt8):Prop:=∀c∈l,c.toNat<128/\c.toNat≠11
theorem PT(c:UInt8):Cp c=true↔(9<=c.toNat/\c.toNat<=13)\/c.toNat=32:=by
 have e:∀d:UInt8,(c==d)=true↔c.toNat=d.toNat:=λd=>by rw[beq_iff_eq];exact UInt8.toNat_inj.symm
 unfold Cp;simp only[Bool.or_eq_true,e];have s:(9:UInt8).toNat=9:=rfl;have n:(10:UInt8).toNat=10:=rfl;have i:(11:UInt8).toNat=11:=rfl;have o:(12:UInt8).toNat=12:=rfl;have a:(13:UInt8).toNat=13:=rfl;have t:(32:UInt8).toNat=32:=rfl;omega
theorem L7(c:UInt8):Gm c=true↔c.toNat=32\/c.toNat=9\/c.toNat=10\/c.toNat=13\/c.toNat=12:=by
 have e:∀d:UInt8,(c==d)=true↔c.toNat=d.toNat:=λd=>by rw[beq_iff_eq];exact UInt8.toNat_inj.symm
 unfold Gm;simp only[Bool.or_eq_true,e];rw[or_assoc,or_assoc,or_assoc];exact Iff.rfl
theorem QK{c:UInt8}(h:c.toNat≠11):Cp c=Gm c:=by
 have t:=PT c;have e:=L7 c;cases e1:Cp c<;>cases e2:Gm c
 .rfl
 .exact absurd (t.2 (by have:=e.1 e2;omega)) (by simp[e1])
 .exact absurd (e.2 (by have:=t.1 e1;omega)) (by simp[e2])
 rfl
theorem G5{p:UInt8->Bool}:∀(A M:List UInt8),(∀c∈A,p c=true)->(∀c,M.head? =some c->p c=false)->(A++M).dropWhile p=M:=by
 intro A;induction A with
 |nil=>
  intro M _ h;cases M with
  |nil=>rfl
  |cons x M=>rw[BY,List.dropWhile_cons,AI (by simp[h x rfl])]
 |cons a A t=>
  intro M e i;rw[List.cons_append,List.dropWhile_cons,AJ (e a (by simp))];exact t M (λc o=>e c (by simp[o])) i
theorem U4{l:List UInt8}(h:∀c∈l,Cp c=true):Bi l=[]:=by
 have:=G5 l [] h (by simp);rw[Ey]at this;unfold Bi;rw[this];rfl
theorem Q9{A M B:List UInt8}(n:∀c∈A,Cp c=true)(i:∀c∈B,Cp c=true)(o:∀c,M.head? =some c->Cp c=false)(a:∀c,M.getLast? =some c->Cp c=false)(t:M≠[]):Bi (A++M++B)=M:=by
 unfold Bi;rw[Bw,G5 A (M++B) n (by
  intro c e;cases M with
  |nil=>exact absurd rfl t
  |cons x M=>exact o c e)]
 rw[List.reverse_append,G5 B.reverse M.reverse (λc e=>i c (CA.1 e)) (by
  intro c e;rw[List.head?_reverse]at e;exact a c e),CO]
inductive Wm(l:List UInt8)(k:Nat):Nat->Nat->Prop
 |none (h:∀c∈l.take k,Cp c=true):Wm l k l.length 0
 |some {f t:Nat} (h1:f<t) (h2:t<=k) (h3:∀c∈l.take f,Cp c=true) (h4:∀c,l[f]? = .some c->Cp c=false) (h5:∀c,l[t-1]? = .some c->Cp c=false) (h6:∀c∈(l.drop t).take (k-t),Cp c=true):Wm l k f t
theorem XZ{l:List UInt8}{f t:Nat}(h:Wm l k f t){c:UInt8}(o:l[k]? =some c)(i:Cp c=true):Wm l (k+1) f t:=by
 have a:=(C6.1 o).1;cases h with
 |none h=>
  refine .none λx hx=> ?_;rw[AF a,AV,AP]at hx;rcases hx with hx|hx
  .exact h x hx
  rw[hx];rw[AK a]at o;cases o;exact i
 |some u m d r s n=>
  refine .some u (by omega) d r s λx hx=> ?_;have e:(l.drop t).take (k+1-t)=(l.drop t).take (k-t)++[c]:=by
   have:k+1-t=(k-t)+1:=by omega
   rw[this,AF (by rw[DN];omega),List.getElem_drop];have e2:t+(k-t)=k:=by omega
   rw[AK a]at o;simp only[e2];cases o;rfl
  rw[e,AV,AP]at hx;rcases hx with hx|hx
  .exact n x hx
  rw[hx];exact i
theorem XY{l:List UInt8}{f t:Nat}(h:Wm l k f t){c:UInt8}(i:l[k]? =some c)(n:Cp c=false):Wm l (k+1) (min f k) (k+1):=by
 have d:=(C6.1 i).1;have o:∀x,l[k+1-1]? =some x->Cp x=false:=λx hx=>by rw[Nat.add_sub_cancel,i]at hx;cases hx;exact n
 have a:∀x∈(l.drop (k+1)).take (k+1-(k+1)),Cp x=true:=λx hx=>by rw[Nat.sub_self]at hx;simp at hx
 cases h with
 |none h=>
  have e:min l.length k=k:=by omega
  rw[e];exact .some (by omega) (AG _) h (λx hx=>by rw[i]at hx;cases hx;exact n) o a
 |some y w r s m u=>
  have e:min f k=f:=by omega
  rw[e];exact .some (by omega) (AG _) r s o a
theorem WU{l:List UInt8}{f t:Nat}(h:Wm l l.length f t):Bi l=if t<=f then[]else(l.drop f).take (t-f):=by
 cases h with
 |none h=>
  rw[AJ (AY _)];rw[AU]at h;exact U4 h
 |some m u s n i o=>
  rw[AI (by omega)];have e:l=l.take f++(l.drop f).take (t-f)++(l.drop t).take (l.length-t):=by
   have e1:(l.drop t).take (l.length-t)=l.drop t:=BP (by rw[DN];omega);have e2:l.drop t=(l.drop f).drop (t-f):=by rw[List.drop_drop];congr 1;omega
   rw[e1,e2,Bw,Av,Av]
  conv=>lhs;rw[e]
  refine Q9 s o (λc a=>n c ?_) (λc a=>i c ?_) ?_
  .rw[List.head?_take,AI (by omega),List.head?_drop]at a;exact a
  .rw[List.getLast?_eq_getElem?,At,DN,List.getElem?_take]at a;rw[AJ (by omega),List.getElem?_drop]at a;have d:f+(min (t-f) (l.length-f)-1)=t-1:=by omega
   rw[d]at a;exact a
  intro r;have:=congrArg Dw r;rw[At,DN]at this;simp at this;omega
theorem I6{l:List UInt8}(h:Dc l):BG (Bi l)=BG l:=RA λc t e=>by rw[<-QK (h c t).2];exact e
theorem I7(l:List UInt8):∀c∈Bi l,c∈l:=λc e=>by
 unfold Bi at e;have t:=(List.dropWhile_suffix _).subset (CA.1 e);exact(List.dropWhile_suffix _).subset (CA.1 t)
theorem Ke(l:List UInt8):(Bi l).length<=l.length:=by
 unfold Bi;rw[EF];refine AH (List.dropWhile_suffix _).length_le ?_;rw[EF];exact(List.dropWhile_suffix _).length_le
theorem S9(l:List UInt8)(x:UInt8)(m:List UInt8)(h:Bi l=x::m):Cp x=false:=by
 unfold Bi at h;obtain⟨D,e⟩:∃D,D=l.dropWhile Cp:=⟨_,rfl⟩;rw[<-e]at h;have a:(D.reverse.dropWhile Cp).reverse<+:D:=by
  obtain⟨r,hr⟩:=List.dropWhile_suffix Cp (l:=D.reverse);refine⟨r.reverse,?_⟩;rw[<-List.reverse_append,hr,CO]
 rw[h]at a;obtain⟨r,hr⟩:=a;have o:D.head? =some x:=by rw[<-hr];rfl
 have t:=List.head?_dropWhile_not Cp l;rw[<-e,o]at t;simpa using t
theorem TC:∀(l e:List UInt8),e≠[]->Ie e l≠[]:=by
 intro l;induction l with
 |nil=>intro e h;rw[Ie,AI h];simp
 |cons c l a=>
  intro e h;by_cases t:Gm c=true
  .rw[IX l t,AI h];simp
  rw[G_ l (by simpa using t)];exact a _ (by simp)
theorem IW{l:List UInt8}(h:Dc l):Bi l=[]↔BG l=[]:=by
 rw[<-I6 h];constructor
 .intro e;rw[e];rfl
 intro e;cases ht:Bi l with
 |nil=>rfl
 |cons x m=>
  exfalso;rw[ht]at e;have hx:=S9 l x m ht;have t:x∈l:=I7 l x (by rw[ht];simp);rw[QK (h x t).2]at hx;unfold BG at e;rw[G_ m hx]at e;exact TC m ([]++[x]) (by simp) e
def OR(r:Nat):Bool:=(decide (9<=r)&&decide (r<=13))||r==32||r==133||r==160||r==5760||(decide (8192<=r)&&decide (r<=8202))||r==8232||r==8233||r==8239||r==8287||r==12288
theorem Mb(r:Nat):OR r=true↔(9<=r/\r<=13)\/r=32\/r=133\/r=160\/r=5760\/(8192<=r/\r<=8202)\/r=8232\/r=8233\/r=8239\/r=8287\/r=12288:=by
 simp[OR,or_assoc]
theorem Pq(r:Nat)(w:AB)(h:OR r=true):AX AC 128 #[.int .i32 r] w λe w'=>e= .returned (.bool true)/\w=w':=by
 have a:(r=9\/r=10\/r=11\/r=12\/r=13)\/(8192<=r/\r<=8202)\/r=32\/r=133\/r=160\/r=5760\/r=8232\/r=8233\/r=8239\/r=8287\/r=12288:=by
  rw[Mb]at h;omega
 rcases a with(rfl|rfl|rfl|rfl|rfl)|a|rfl|rfl|rfl|rfl|rfl|rfl|rfl|rfl|rfl
 case inr.inl=>
  obtain⟨q,k⟩:=a;have p:((r:Int)==9)=false:=CY.2 (by omega);have g:((r:Int)==10)=false:=CY.2 (by omega);have y:((r:Int)==11)=false:=CY.2 (by omega);have f:((r:Int)==12)=false:=CY.2 (by omega);have m:((r:Int)==13)=false:=CY.2 (by omega);have c:((r:Int)==32)=false:=CY.2 (by omega);have u:((r:Int)==133)=false:=CY.2 (by omega);have l:((r:Int)==160)=false:=CY.2 (by omega);have d:((r:Int)==5760)=false:=CY.2 (by omega);have s:((r:Int)==8232)=false:=CY.2 (by omega);have n:((r:Int)==8233)=false:=CY.2 (by omega);have i:((r:Int)==8239)=false:=CY.2 (by omega);have o:((r:Int)==8287)=false:=CY.2 (by omega);have t:((r:Int)==12288)=false:=CY.2 (by omega);have v:decide ((8192:Int)<=(r:Int))=true:=by simp;omega
  have b:decide ((r:Int)<=8202)=true:=by simp;omega
  clear h;go_enter func128,ntmps128;go_wp2;go_ret;exact⟨rfl,rfl⟩
 all_goals
  clear h;go_enter func128,ntmps128;go_wp2;go_ret;exact⟨rfl,rfl⟩
theorem Rm(r:Nat)(w:AB)(h:OR r=false):AX AC 128 #[.int .i32 r] w λe w'=>e= .returned (.bool false)/\w=w':=by
 have d:¬((9<=r/\r<=13)\/r=32\/r=133\/r=160\/r=5760\/(8192<=r/\r<=8202)\/r=8232\/r=8233\/r=8239\/r=8287\/r=12288):=by
  rw[<-Mb,h];simp
 have b:((r:Int)==9)=false:=CY.2 (by omega);have p:((r:Int)==10)=false:=CY.2 (by omega);have g:((r:Int)==11)=false:=CY.2 (by omega);have y:((r:Int)==12)=false:=CY.2 (by omega);have f:((r:Int)==13)=false:=CY.2 (by omega);have m:((r:Int)==32)=false:=CY.2 (by omega);have u:((r:Int)==133)=false:=CY.2 (by omega);have l:((r:Int)==160)=false:=CY.2 (by omega);have s:((r:Int)==5760)=false:=CY.2 (by omega);have n:((r:Int)==8232)=false:=CY.2 (by omega);have i:((r:Int)==8233)=false:=CY.2 (by omega);have o:((r:Int)==8239)=false:=CY.2 (by omega);have a:((r:Int)==8287)=false:=CY.2 (by omega);have t:((r:Int)==12288)=false:=CY.2 (by omega);clear h;by_cases hr:8192<=r
 .have k:8202<r:=by omega
  have c:decide ((8192:Int)<=(r:Int))=true:=by simp;omega
  have v:decide ((r:Int)<=8202)=false:=by simp;omega
  clear d;go_enter func128,ntmps128;go_wp2;go_ret;exact⟨rfl,rfl⟩
 have c:decide ((8192:Int)<=(r:Int))=false:=by simp;omega
 clear d;go_enter func128,ntmps128;go_wp2;go_ret;exact⟨rfl,rfl⟩
theorem PS{c:UInt8}(h:c.toNat<128):OR c.toNat=Cp c:=by
 have t:=Mb c.toNat;have e:=PT c;cases e1:OR c.toNat<;>cases e2:Cp c
 .rfl
 .exact absurd (t.2 (by have:=e.1 e2;omega)) (by simp[e1])
 .exact absurd (e.2 (by have:=t.1 e1;omega)) (by simp[e2])
 rfl
theorem N8{s:ByteArray}(h:Dc s.data.toList)(a:k<s.size):s[k].toNat<128/\s[k].toNat≠11/\s.data.toList[k]? =some s[k]:=by
 have t:k<s.data.toList.length:=a;have e:s.data.toList[k]=s[k]:=rfl;have:=h _ (AD t);rw[e]at this;exact⟨this.1,this.2,by rw[AK t,e]⟩
theorem JW(s:ByteArray)(T:Dc s.data.toList)(L:s.size<=2147483647)(w:AB):
 AX AC 102 #[.string s] w λe w'=>e= .returned (.string ⟨(Bi s.data.toList).toArray⟩)/\AL w.heap.size w w':=by
 have j:=AA T;clear T;go_enter func102,ntmps102;go_wp2;go_loopw [3,4] (λR y wr=>∃k f t:Nat,k<=s.size/\f<=s.size/\wr=w.iter s k/\R= .int .i64 f/\y= .int .i64 t/\Hid (Wm s.data.toList k f t)) (λ_ _ wr=>s.size-wr.iterPos w.heap.size)
 .exact⟨0,s.size,0,AY _,AG _,rfl,rfl,rfl,.none (by simp)⟩
 obtain⟨k,f,t,C,S,rfl,rfl,rfl,d⟩:=hrel;by_cases a:k<s.size
 .obtain⟨q,-,A⟩:=N8 j.o a;have r:=decode_ascii s k a q;have l:=λv=>run_next_any (P:=AC) w s k v a;rw[r]at l;have i:=PS q;have x:=AA A;obtain⟨c,E⟩:∃c,c=s[k]:=⟨_,rfl⟩;rw[<-E]at l i x q;clear A r E;cases o:Cp c
  .have g:=AA (Rm c.toNat (w.iter s (k+1)) (i.trans o));have h:=AA (XY d.o x.o o);clear i o d;by_cases U:f<=k
   .have em:min f k=f:=by omega
    rw[em]at h;go_wp2_with fail;refine g.o.mono ?_;rintro e z ⟨rfl,rfl⟩;go_wp2;go_loopw [4] (λy b=>y= .int .i64 ((k+1:Nat):Int)/\w.iter s (k+1)=b) (λ_ _=>0)
    .exact⟨by go_num,rfl⟩
    obtain⟨rfl,rfl⟩:=hrel;by_cases u:k+1<s.size
    .obtain⟨I,-,-⟩:=N8 j.o u;have e1:decide ((128:Int)<=((s[k+1].toNat:Nat):Int))=false:=decide_eq_false (by omega);obtain⟨c2,m⟩:∃c2,c2=s[k+1]:=⟨_,rfl⟩;rw[<-m]at e1;go_wp2;go_roundw
     .exact⟨k+1,f,k+1,a,by omega,rfl,by go_num,rfl,h.o⟩
     simp;omega
    go_wp2;go_roundw
    .exact⟨k+1,f,k+1,a,by omega,rfl,by go_num,rfl,h.o⟩
    simp;omega
   have em:min f k=k:=by omega
   rw[em]at h;go_wp2_with fail;refine g.o.mono ?_;rintro e z ⟨rfl,rfl⟩;go_wp2;go_loopw [4] (λy b=>y= .int .i64 ((k+1:Nat):Int)/\w.iter s (k+1)=b) (λ_ _=>0)
   .exact⟨by go_num,rfl⟩
   obtain⟨rfl,rfl⟩:=hrel;by_cases u:k+1<s.size
   .obtain⟨I,-,-⟩:=N8 j.o u;have e1:decide ((128:Int)<=((s[k+1].toNat:Nat):Int))=false:=decide_eq_false (by omega);obtain⟨c2,m⟩:∃c2,c2=s[k+1]:=⟨_,rfl⟩;rw[<-m]at e1;go_wp2;go_roundw
    .exact⟨k+1,k,k+1,a,by omega,rfl,by go_num,rfl,h.o⟩
    simp;omega
   go_wp2;go_roundw
   .exact⟨k+1,k,k+1,a,by omega,rfl,by go_num,rfl,h.o⟩
   simp;omega
  have g:=AA (Pq c.toNat (w.iter s (k+1)) (i.trans o));have h:=AA (XZ d.o x.o o);clear i o d;go_wp2_with fail;refine g.o.mono ?_;rintro e z ⟨rfl,rfl⟩;go_wp2;go_roundw
  .exact⟨k+1,f,t,a,S,rfl,rfl,rfl,h.o⟩
  simp;omega
 have D:k=s.size:=by omega
 subst D;have l:=λv=>run_next_end (P:=AC) w s s.size v a;have O:Hid (AL w.heap.size w (w.iter s s.size)):=Ac;have p:Hid (Bi s.data.toList=if t<=f then[]else(s.data.toList.drop f).take (t-f)):=WU d.o;have ht:t<=s.size:=by cases d.o with
  |none _=>omega
  |some _ H _ _ _ _=>exact H
 clear d;by_cases n:t<=f
 .have N:decide (t<=f)=true:=by simpa using n
  rw[Hid,AJ n]at p;go_wp2;go_ret;exact⟨by rw[p];rfl,O.o⟩
 have N:decide (t<=f)=false:=by simpa using n
 rw[Hid,AI n]at p;go_wp2;go_ret;exact⟨by rw[p,<-KG];rfl,O.o⟩
theorem Hp{s:ByteArray}(h:wr.heap[k]? =some (.stringIter s p)):wr.iterPos k=p:=by
 unfold World.iterPos;rw[h]
def TP(s:ByteArray)(W:AB)(v t:AS)(wr:AB):Prop:=
 ∃(k f:Nat) (e:List (List UInt8)) (a:Option Ai) (c:Nat),k<=s.size/\f<=k/\wr.heap[W.heap.size]? =some (.stringIter s k)/\v= .slice a e.length c/\((f=k/\t= .int .i64 (-1))\/(f<k/\t= .int .i64 (f:Nat)))/\
  Hid (wr.ownsRow (W.heap.size+1) 9 1 (.slice a e.length c) e.length (strs e))/\Hid (BG s.data.toList=e++Ie ((s.data.toList.drop f).take (k-f)) (s.data.toList.drop k))/\e.length<=k/\Hid (AL W.heap.size W wr)/\W.heap.size<wr.heap.size
theorem Qr{e size:Nat}{xs:List AS}(h:w.ownsRow B e size v n xs)(t:k<B)(s:ByteArray)(pos:Nat):(w.iterAt k s pos).ownsRow B e size v n xs:=
 BB h (λb a _=>Lib.iterAt_other w k b s pos (by omega))
theorem It(s:ByteArray)(hA:Dc s.data.toList)(hs:s.size<=2147483647)(w:AB):AX AC 132 #[.string s] w (EG (BG s.data.toList) w):=by
 obtain⟨i0,N,et,ee,Z⟩:=D6 Tryz.Zj;have ea:s.data.toList.length=s.size:=rfl;have HL:=AA ea;have HA:=AA hA;clear ea hA;go_enter func132,ntmps132;go_wp2;go_loopw [3,4] (λv fr wr=>TP s w v fr wr) (λ_ _ wr=>s.size-wr.iterPos w.heap.size)
 .exact⟨0,0,[],none,0,by omega,by omega,World.iter_heap w s 0,rfl,.inl ⟨rfl,rfl⟩,Aw _ _ _ _,(by simp[Hid,BG]),by simp,Ac,by show _<(Array.push _ _).size;rw[Array.size_push];omega⟩
 obtain⟨k,f,i,a,c,hk,hf,g,rfl,M,x,B,hal,hb,D⟩:=hrel;have O:=AA (Hp g);have HX:Hid (s.extract f k=⟨((s.data.toList.drop f).take (k-f)).toArray⟩):=KG s f k;by_cases y:k<s.size
 .obtain⟨h1,es,h3⟩:=N8 HA.o y;have U:=λty=>Lib.run_next_ascii_at (P:=AC) wr w.heap.size s k ty g y h1;have b:=(PS h1).trans (QK es);have z:=Lib.iterAt_heap wr w.heap.size s k (k+1) g;have F:=Lib.below_iterAt hb.o (k:=w.heap.size) (AG _) s (k+1);have L:=Qr x.o (k:=w.heap.size) (by omega) s (k+1);have n:w.heap.size<(wr.iterAt w.heap.size s (k+1)).heap.size:=by rw[Lib.iterAt_size];exact D
  have E:=AA (λh=>LG (l:=s.data.toList) hf (by have:=HL.o;omega) h B.o);have I:=AA (λh=>Pz (l:=s.data.toList) hf h3 h B.o);obtain⟨G,en⟩:∃G,G=wr.iterAt w.heap.size s (k+1):=⟨_,rfl⟩;obtain⟨Q,ei⟩:∃Q,Q=s[k]:=⟨_,rfl⟩;rw[<-en]at U z F L n;rw[<-ei]at U b I h3;have H3:=AA h3;have T:=AA L;have HB:=AA F;have r:=AA z;clear en ei h1 es h3 g x hb L F z D B;cases m:Gm Q
  .have X:=AA (Rm Q.toNat G (b.trans m));have R:=AA (I.o m);clear E I b m;rcases M with⟨rfl,rfl⟩|⟨A,rfl⟩
   .go_wp2_with fail;refine X.o.mono ?_;rintro e w1 ⟨rfl,rfl⟩;go_wp2;go_roundw
    .exact⟨f+1,f,i,a,c,y,by omega,r.o,rfl,.inr ⟨by omega,rfl⟩,T.o,R.o,by omega,HB.o,n⟩
    rw[O.o,Hp r.o];omega
   go_wp2_with fail;refine X.o.mono ?_;rintro e w1 ⟨rfl,rfl⟩;go_wp2;go_roundw
   .exact⟨k+1,f,i,a,c,y,by omega,r.o,rfl,.inr ⟨by omega,rfl⟩,T.o,R.o,by omega,HB.o,n⟩
   rw[O.o,Hp r.o];omega
  have X:=AA (Pq Q.toNat G (b.trans m));have R:=AA (E.o (λd K=>by rw[H3.o]at K;cases K;exact m));clear E I b m;rcases M with⟨rfl,rfl⟩|⟨A,rfl⟩
  .rw[AI (Nat.lt_irrefl _)]at R;go_wp2_with fail;refine X.o.mono ?_;rintro e w1 ⟨rfl,rfl⟩;go_wp2;go_roundw
   .exact⟨f+1,f+1,i,a,c,y,by omega,r.o,rfl,.inl ⟨rfl,rfl⟩,T.o,R.o,by omega,HB.o,n⟩
   rw[O.o,Hp r.o];omega
  rw[AJ A]at R;go_wp2_with fail;refine X.o.mono ?_;rintro e w1 ⟨rfl,rfl⟩;obtain⟨W2,hW2⟩:∃W2,W2=G.alloc (.cells #[.string (s.extract f k)] 9):=⟨_,rfl⟩;go_wp2_with(at_builtin;refine wpList_append_own _ rfl _ _ 43 rfl (w.heap.size+1) 9 i0 (.string ⟨#[]⟩) 1 16 underlying43 N et ee Z rfl (by decide) _ _ _ rfl (T.o.alloc _) ⟨G.heap.size,0,none⟩ 1 1 [.string (s.extract f k)] rfl rfl (cell_one_new _ _ _) (by intro u V;simp at V;subst V;rfl) (by unfold maxLen;omega) (by omega) (by simp;omega) ?_);intro v' H t o _;obtain⟨J,c3,p⟩:=OU t;rw[p]at t|-;have eo:some w.heap.size≠(AO a i.length c).ownBlock:=λe=>by have:=(T.o.lt _ e.symm).1;omega
  have j:AL w.heap.size w H:=(HB.o.alloc (Ca n) _).grown o (by simp;omega) (λq hq=>by have:=(T.o.lt q hq).1;omega);have C:H.heap[w.heap.size]? =some (.stringIter s (k+1)):=by
   rw[o.block _ (by simp;omega) eo,B5 _ _ _ n];exact r.o
  have hs3:w.heap.size<H.heap.size:=(AE.1 C).1;have W:Hid (H.ownsRow (w.heap.size+1) 9 1 (.slice J (i.length+1) c3) (i.length+1) (strs (i++[(s.data.toList.drop f).take (k-f)]))):=by
   rw[Hid,JV,<-HX.o];exact t
  have eh:=AA C;have Y:=AA j;clear t o p eo j C hW2;go_wp2;go_roundw
  .exact⟨k+1,k+1,_,J,c3,y,by omega,eh.o,by rw[AN];rfl,.inl ⟨rfl,rfl⟩,by rw[AN];exact W.o,R.o,by rw[AN];simp;omega,Y.o,hs3⟩
  rw[O.o,Hp eh.o];omega
 have ek:k=s.size:=by omega
 subst ek;have U:=λty=>Lib.run_next_end_at (P:=AC) wr w.heap.size s s.size ty g (by omega);have S:=LG (l:=s.data.toList) hf (by have:=HL.o;omega) (λd K=>by rw[List.getElem?_eq_none (by have:=HL.o;omega)]at K;cases K) B.o;have HE:Hid (BG s.data.toList=if f<s.size then i++[(s.data.toList.drop f).take (s.size-f)]else i):=by
  have e0:s.data.toList.drop (s.size+1)=[]:=List.drop_of_length_le (by have:=HL.o;omega);rw[Hid,S,e0,Nat.sub_self,BM,show Ie [] []=[]from rfl,Ey]
 have T:=AA x.o;clear g S B;rcases M with⟨rfl,rfl⟩|⟨A,rfl⟩
 .rw[AI (Nat.lt_irrefl _)]at HE;go_wp2;go_ret;unfold EG;rw[HE.o];exact⟨a,c,rfl,Bf T.o (Nat.le_succ _),hb.o⟩
 rw[AJ A]at HE;go_wp2_with(at_builtin;refine wpList_append_own _ rfl _ _ 43 rfl (w.heap.size+1) 9 i0 (.string ⟨#[]⟩) 1 16 underlying43 N et ee Z rfl (by decide) _ _ _ rfl (T.o.alloc _) ⟨wr.heap.size,0,none⟩ 1 1 [.string (s.extract f s.size)] rfl rfl (cell_one_new _ _ _) (by intro u V;simp at V;subst V;rfl) (by unfold maxLen;omega) (by omega) (by simp;omega) ?_);intro v' H t o _;obtain⟨J,c3,p⟩:=OU t;rw[p]at t|-;have j:AL w.heap.size w H:=(hb.o.alloc (Ca D) _).grown o (by simp;omega) (λq hq=>by have:=(T.o.lt q hq).1;omega);have W:Hid (H.ownsRow (w.heap.size+1) 9 1 (.slice J (i.length+1) c3) (i.length+1) (strs (i++[(s.data.toList.drop f).take (s.size-f)]))):=by
  rw[Hid,JV,<-HX.o];exact t
 have Y:=AA j;clear t o p j;go_wp2;go_ret;unfold EG;rw[HE.o,AN];exact⟨J,c3,rfl,Bf W.o (Nat.le_succ _),Y.o⟩
def Uw(s:List UInt8)(a:Nat)(p:List UInt8):Bool:=decide (a+p.length<=s.length)&&((s.drop a).take p.length==p)
theorem YU{s p:List UInt8}(h:∀j,j<k->j+p.length<=s.length->Uw s j p=false)(a:s.length<k+p.length):Cf s p=false:=by
 rw[Bool.eq_false_iff];intro q;obtain⟨A,B,e⟩:=(FP s p).1 q;have t:A.length+p.length<=s.length:=by rw[e];simp
 have:=h A.length (by omega) t;unfold Uw at this;rw[decide_eq_true t,Bool.true_and,CY]at this;apply this;rw[e,Bw,List.drop_left,List.take_left]
theorem YV{s p:List UInt8}(h:Uw s k p=true):Cf s p=true:=by
 unfold Uw at h;rw[Bool.and_eq_true,beq_iff_eq]at h;replace h:=h.2;refine(FP s p).2 ⟨s.take k,(s.drop k).drop p.length,?_⟩;rw[Bw];conv=>rhs;rhs;lhs;rw[<-h]
 rw[Av,Av]
def R4(s p:ByteArray)(w:AB)(e:Bx)(w':AB):Prop:=∃z:Int,e= .returned (.int .i64 z)/\decide (0<=z)=Cf s.data.toList p.data.toList/\(∀i:Nat,z=i->Lib.index s.data.toList p.data.toList=i)/\(z<0->z= -1)/\w=w'
theorem Rx(s p:ByteArray)(y:s.size<=4294967296)(g:p.size<=4294967296)(w:AB):
 AX AC 134 #[.string s,.string p] w (R4 s p w):=by
 have n:Hid (s.data.toList.length=s.size/\p.data.toList.length=p.size):=⟨rfl,rfl⟩;go_enter func134,ntmps134;go_wp2;go_loopw [5] (λx wr=>∃k:Nat,k<=s.size+1/\x= .int .i64 k/\Hid (∀j,j<k->j+p.data.toList.length<=s.data.toList.length->Uw s.data.toList j p.data.toList=false)/\w=wr) (λx _=>s.size+1-(Aa x).toNat)
 .exact⟨0,AY _,rfl,(λj h=>by omega),rfl⟩
 obtain⟨k,b,rfl,t,rfl⟩:=hrel;by_cases f:k+p.size<=s.size
 .have o:Hid (((s.extract k (k+p.size)).toList==p.toList)=Uw s.data.toList k p.data.toList):=by
   rw[Hid,Q7,Q7,Lib.extract_data,Fu];unfold Uw;have:=n.o;rw[decide_eq_true (by omega),Bool.true_and,this.2]
  cases a:Uw s.data.toList k p.data.toList
  .have m:Hid (∀j,j<k+1->j+p.data.toList.length<=s.data.toList.length->Uw s.data.toList j p.data.toList=false):=by
    intro j l c;by_cases e:j=k
    .subst e;exact a
    exact t.o j (by omega) c
   have hx:=o.o.trans a;clear t a o;go_wp2;go_roundw
   .exact⟨k+1,by omega,by go_num,m.o,by trivial⟩
   simp[Aa];omega
  have r:=AA (YV a);have d:Hid (Lib.index s.data.toList p.data.toList=k):=by
   have u:=n.o;refine Lib.index_first (by omega) ?_ (λj l=> ?_)
   .rw[Lib.occAt_iff_take _ _ _ (by omega)];unfold Uw at a;rw[Bool.and_eq_true]at a;exact a.2
   rw[Lib.occAt_iff_take _ _ _ (by omega)];have:=t.o j l (by omega);unfold Uw at this;rw[decide_eq_true (by omega),Bool.true_and]at this;exact this
  have hx:=o.o.trans a;clear t a o;go_wp2;go_ret;exact⟨k,rfl,by rw[r.o];simp,(λi h=>by rw[d.o];exact h),(λh=>by omega),rfl⟩
 have r:=AA (YU t.o (by have:=n.o;omega));clear t;go_wp2;go_ret;exact⟨-1,rfl,by rw[r.o];rfl,(λi h=>by omega),(λ_=>rfl),rfl⟩
theorem Om(s p:ByteArray)(a:s.size<=4294967296)(o:p.size<=4294967296)(w:AB):
 AX AC 106 #[.string s,.string p] w λe w'=>e= .returned (.bool (Cf s.data.toList p.data.toList))/\w=w':=by
 go_enter func106,ntmps106;go_wp2_with fail;refine(Rx s p a o w).mono ?_;rintro e n ⟨z,rfl,t,_,_,rfl⟩;have i:=AA t;clear t;go_wp2;go_ret;exact⟨by rw[<-i.o];rfl,rfl⟩
theorem Tryz.aG:(Tryz.prog.info? 5).map (λi=>(i.zero,i.size,i.bytes))=some (some (.int .u8 0),1,1):=by kernel_rfl
theorem Fh(l m:List UInt8):Gn (l++m)=Gn l++Gn m:=by simp[Gn]
theorem Ti{l:List UInt8}{a:AB}(h:Lib.OwnBuf B 5 v l.length (Gn l) a w)(e:l≠[]):(convert 167 9 v).run AC w= .ok (.string ⟨l.toArray⟩) w:=by
 have o:0<l.length:=Bg.2 e;rcases h.1.2 with⟨_,n⟩|⟨g,cap,i,s,rfl,_⟩
 .omega
 refine run_convert_bytes_back (P:=AC) w 167 9 5 ⟨g,0,none⟩ cap l underlying167 underlying5 ES λj t=> ?_;exact h.1.cells (g:=g) (by simp[A6]) j (.int .u8 (l[j].toNat:Int)) (by simp[Gn,AK t])
theorem Uk{old new:List UInt8}(a:new.length<=old.length):∀(f:Nat) (s:List UInt8),(Gj old new f s).length<=s.length:=by
 intro f;induction f with
 |zero=>intro s;exact AG _
 |succ f e=>
  intro s;unfold Gj;by_cases h:Lib.index s old<0
  .rw[AJ h];exact AG _
  rw[AI h];obtain⟨B,e1,e2⟩:=Iv (s:=s) (old:=old) (by omega);rw[e2];have o:=e B;have t:=congrArg Dw e1;simp only[AN]at t|-;omega
theorem I4(s old new:ByteArray)(hs:s.size<=2147483647)(ho:0<old.size)(hoz:old.size<=2147483647)(hn:new.size<=old.size)(F:s.data.toList≠[])(C:new.data.toList≠[])(w:AB):
 AX AC 108 #[.string s,.string old,.string new] w λe w'=>e= .returned (.string ⟨(Gj old.data.toList new.data.toList (s.size+1) s.data.toList).toArray⟩)/\AL w.heap.size w w':=by
 obtain⟨X,c,A,T,E⟩:=D6 Tryz.aG;have L:old.data.toList.length=old.size:=rfl;have M:new.data.toList.length=new.size:=rfl;have D:s.data.toList.length=s.size:=rfl;obtain⟨R,hR⟩:∃R,R=Gj old.data.toList new.data.toList (s.size+1) s.data.toList:=⟨_,rfl⟩;rw[<-hR];have HR:=AA hR;have HO:=AA L;have HN:=AA M;have HS:=AA D;have HNe:=AA F;have G:=AA C;clear hR L M D F C;go_enter func108,ntmps108;go_wp2;go_loopw [0,7] (λJ v wr=>∃(rest:ByteArray) (t:List UInt8) (j:Nat),J= .string rest/\rest.size<j/\Hid (t++Gj old.data.toList new.data.toList j rest.data.toList=R)/\t.length+rest.size<=s.size/\(t≠[]\/rest=s)/\Hid (Lib.OwnBuf w.heap.size 5 v t.length (Gn t) w wr)) (λJ _ _=>match J with| .string x=>x.size|_=>0)
 .exact⟨s,[],s.size+1,rfl,by omega,by rw[Hid,BY];exact HR.o.symm,by simp,.inr rfl,World.ownsRowF_of (Aw _ _ _ _),AW _ _,AG _⟩
 obtain⟨rest,t,j,rfl,hfu,f,hle,O,m⟩:=hrel;have HIx:=AA (Rx rest old (by omega) (by omega) wr);go_wp2_with fail;refine HIx.o.mono ?_;rintro e w1 ⟨z,rfl,u,l,b,rfl⟩;have K:=AA f.o;have P:=AA m.o;by_cases Z:z<0
 .have U:Lib.index rest.data.toList old.data.toList<0:=by
   have h1:Cf rest.data.toList old.data.toList=false:=by rw[<-u];exact decide_eq_false (by omega)
   exact PL h1
  have Q:Hid (t++rest.data.toList=R):=by
   obtain⟨f2,rfl⟩:∃f2,j=f2+1:=⟨j-1,by omega⟩;have:=K.o;unfold Gj at this;rw[AJ U]at this;exact this
  have g:Hid (t++rest.data.toList≠[]):=by
   rcases O with h|h
   .intro e;exact h (List.append_eq_nil_iff.1 e).1
   intro e;exact HNe.o (by rw[<-h];exact(List.append_eq_nil_iff.1 e).2)
  have ez:decide (z<0)=true:=decide_eq_true Z;have W:rest.data.toList.length=rest.size:=rfl;have HL0:=AA W;clear U u l b f m O Z W;go_wp2_with(at_builtin;refine Lib.wpList_append_text rfl _ _ 167 9 rfl w.heap.size 5 X underlying167 ES c A T E _ t.length (Gn t) rfl w P.o rest rfl (by omega) ?_);intro v' w' N;have d:Lib.OwnBuf w.heap.size 5 v' (t++rest.data.toList).length (Gn (t++rest.data.toList)) w w':=by
   rw[Fh,AN,HL0.o];exact N
  have hcv:=Ti d g.o;rw[Q.o]at hcv;have HBe:Hid (AL w.heap.size w w'):=N.2.1;clear N d;go_wp2;go_ret;exact⟨rfl,HBe.o⟩
 obtain⟨i,rfl⟩:∃i:Nat,z=i:=⟨z.toNat,by omega⟩;have I:=l i rfl;obtain⟨B,e1,e2⟩:=Iv (s:=rest.data.toList) (old:=old.data.toList) (by omega);rw[I,Int.toNat_natCast]at e1 e2;have r:rest.data.toList.length=rest.size:=rfl;have q:=congrArg Dw e1;simp only[AN,At,r,HO.o]at q;have hi1:i+old.size<=rest.size:=by
  rcases Be rest.size i with h|h
  .have h0:rest.data.toList.take i=rest.data.toList:=BP (by rw[r];omega);rw[h0]at e1;have:=congrArg Dw e1;simp only[AN,r,HO.o]at this;omega
  omega
 have ez:decide ((i:Int)<0)=false:=decide_eq_false (by omega);have S:Hid ((rest.extract 0 i).data.toList=rest.data.toList.take i/\(rest.extract 0 i).size=i):=by
  constructor
  .rw[KG];simp
  rw[ByteArray.size_extract];omega
 have HD:Hid ((rest.extract (i+old.size) rest.size).data.toList=B/\(rest.extract (i+old.size) rest.size).size=rest.size-(i+old.size)):=by
  constructor
  .rw[KG];show(rest.data.toList.drop (i+old.size)).take _=B;rw[HO.o]at e2;rw[BP (by rw[DN,r];omega)];exact e2
  rw[ByteArray.size_extract];omega
 obtain⟨f2,rfl⟩:∃f2,j=f2+1:=⟨j-1,by omega⟩;have o:Hid ((t++(rest.extract 0 i).data.toList++new.data.toList)++Gj old.data.toList new.data.toList f2 (rest.extract (i+old.size) rest.size).data.toList=R):=by
  have:=K.o;unfold Gj at this;rw[AI (by omega),I,Int.toNat_natCast,e2]at this;rw[Hid,S.o.1,HD.o.1,<-this];simp
 have g:Hid (t++(rest.extract 0 i).data.toList++new.data.toList≠[]):=by
  intro e;exact G.o (List.append_eq_nil_iff.1 e).2
 have hts:=S.o.2;have hds:=HD.o.2;clear I e1 e2 q u l b f m O Z r;obtain⟨H,k⟩:∃H,H=rest.extract 0 i:=⟨_,rfl⟩;rw[<-k]at S o g hts;obtain⟨p,y⟩:∃p,p=rest.extract (i+old.size) rest.size:=⟨_,rfl⟩;rw[<-y]at HD o hds;subst k;subst y;go_wp2_with(at_builtin;refine Lib.wpList_append_text rfl _ _ 167 9 rfl w.heap.size 5 X underlying167 ES c A T E _ t.length (Gn t) rfl w P.o (rest.extract 0 i) rfl (by omega) ?_);intro v1 w1 Y;have V:Hid (Lib.OwnBuf w.heap.size 5 v1 (t++(rest.extract 0 i).data.toList).length (Gn (t++(rest.extract 0 i).data.toList)) w w1):=by
  rw[Hid,Fh,AN,show(rest.extract 0 i).data.toList.length=i from S.o.2];exact Y
 obtain⟨a,n⟩:∃a,a=t++(rest.extract 0 i).data.toList:=⟨_,rfl⟩;have hl2:a.length=t.length+i:=by rw[n,AN,show(rest.extract 0 i).data.toList.length=i from S.o.2]
 rw[<-n]at V o g;clear Y n;go_wp2_with(at_builtin;refine Lib.wpList_append_text rfl _ _ 167 9 rfl w.heap.size 5 X underlying167 ES c A T E _ _ (Gn a) rfl w V.o new rfl (by omega) ?_);intro v2 w2 d;have HB2:Hid (Lib.OwnBuf w.heap.size 5 v2 (a++new.data.toList).length (Gn (a++new.data.toList)) w w2):=by
  have e:(a++new.data.toList).length=a.length+new.size:=AN;rw[Hid,Fh _ new.data.toList,e,hl2];exact d
 clear d;go_wp2;go_roundw
 .exact⟨rest.extract (i+old.size) rest.size,a++new.data.toList,f2,rfl,by omega,o.o,by rw[AN];have h2:new.data.toList.length=new.size:=rfl;omega,.inl (by intro e;exact G.o (List.append_eq_nil_iff.1 e).2),HB2.o⟩
 simp only[ByteArray.size_extract];omega
def NC(c:UInt8):Bool:=decide (c.toNat=9)||decide (c.toNat=13)||decide (c.toNat=10)
def Ot(c:UInt8):UInt8:=if NC c=true then 32 else c
theorem WT{c:UInt8}(h:NC c=true):Ot c=32:=AJ h
theorem XX(c:UInt8)(h:NC c=false):Ot c=c:=AI (by simp[h])
theorem Mc(c:UInt8):NC c=true↔c.toNat=9\/c.toNat=13\/c.toNat=10:=by
 unfold NC;simp[or_assoc]
def YL(s:ByteArray):ByteArray:=⟨(s.data.toList.map Ot).toArray⟩
def L5(s:ByteArray)(k j:Nat):UInt8:=if j<k then Ot (s.data.toList.getD j 0)else s.data.toList.getD j 0
def QG(s:ByteArray)(B k:Nat)(w:AB):Prop:=
 (∀j,j<s.size->w.cell? ⟨B,j,none⟩=some (.int .u8 ((L5 s k j).toNat:Int)))/\(∀j,j<s.size->w.frozen? ⟨B,j,none⟩=false)
theorem Ua(s:ByteArray)(w:AB)(c:Nat):QG s w.heap.size 0 ((w.alloc (.cells (bytesRow s c) 5 ((bytesRow s c).size,(bytesRow s c).size+1))).drew):=by
 have t:∀j,j<s.size->j<(bytesRow s c).size:=by intro j e;simp[bytesRow];have:s.data.size=s.size:=rfl;omega
 refine⟨λj e=> ?_,λj e=> ?_⟩
 .show(w.alloc _).cell? _=_;rw[BI];have h:j<s.data.size:=e;simp[bytesRow,Array.getElem?_append,e,L5]
 show(w.alloc _).frozen? _=_;rw[World.frozen?_alloc_mark];have:=t j e;simp;omega
theorem PY(s:ByteArray)(k j:Nat):L5 s (k+1) j=if j=k then Ot (s.data.toList.getD j 0)else L5 s k j:=by
 unfold L5;by_cases h:j=k
 .subst h;simp
 rw[AI h];by_cases e:j<k
 .rw[AJ e,AJ (by omega)]
 rw[AI e,AI (by omega)]
theorem Sf{s:ByteArray}(h:QG s B k w)(t:NC (L5 s k k)=false):QG s B (k+1) w:=by
 refine⟨λj a=> ?_,h.2⟩;rw[h.1 j a,PY];by_cases e:j=k
 .subst e;rw[AJ rfl];have:L5 s j j=s.data.toList.getD j 0:=by simp[L5]
  rw[this]at t|-;rw[XX _ t]
 rw[AI e]
theorem Ub{s:ByteArray}(h:QG s B k w)(o:k<s.size)(a:NC (L5 s k k)=true):
 QG s B (k+1) (w.setCell ⟨B,k,none⟩ (.int .u8 32)):=by
 refine⟨λj t=> ?_,λj t=>by rw[World.frozen?_setCell];exact h.2 j t⟩;rw[PY];by_cases e:j=k
 .subst e;rw[AJ rfl,World.cell?_setCell_same _ _ _ (by rw[h.1 j t])];have e2:L5 s j j=s.data.toList.getD j 0:=by simp[L5]
  rw[e2]at a;rw[WT a];rfl
 rw[AI e,World.cell?_setCell_other _ _ _ _ (by simp)];exact h.1 j t
theorem Se{P:Program}{t a e:Dk}{s:ByteArray}(h:QG s B k w)(u:s.size<=k)(cap:Nat)
 (n:P.underlying t=some (.slice e))(r:P.underlying e=some (.int .u8))(d:P.underlying a=some .string):
 (convert t a (.slice (some ⟨B,0,none⟩) s.size cap)).run P w= .ok (.string (YL s)) w:=by
 have i:(s.data.toList.map Ot).length=s.size:=by simp
 have:=run_convert_bytes_back (P:=P) w t a e ⟨B,0,none⟩ cap (s.data.toList.map Ot) n r d (by
  intro j o;rw[i]at o;have l:s.data[j]? =some s.data[j]:=Array.getElem?_eq_getElem o;rw[Ba,By];rw[h.1 j o];simp[L5,show j<k by omega];rw[l];rfl)
 rw[i]at this;exact this
theorem M'(s:ByteArray)(w:AB)(q:s.size<=2147483647):
 AX AC 133 #[.string s] w λe w'=>e= .returned (.string (YL s))/\AL w.heap.size w w':=by
 have y:=λw=>run_bytes_of_string (P:=AC) w 9 167 5 s ES underlying167 underlying5;go_enter func133,ntmps133;go_wp2;go_loopw [10] (λi wr=>∃k:Nat,k<=s.size/\i= .int .i64 k/\QG s w.heap.size k wr/\w.heap.size<wr.heap.size/\AL w.heap.size w wr) (λi _=>s.size-(Aa i).toNat)
 .exact⟨0,AY _,rfl,Ua s w _,by simp,((AW _ _).alloc (AG _) _).drew⟩
 obtain⟨k,j,rfl,t,u,m⟩:=hrel;by_cases a:k<s.size
 .have z:wr.cell? ⟨w.heap.size,k,none⟩=some (.int .u8 ((L5 s k k).toNat:Int)):=t.1 k a;have x:wr.frozen? ⟨w.heap.size,k,none⟩=false:=t.2 k a;have l:=Mc (L5 s k k);have p:=AA t;have b:=AA m;clear t m;cases ht:NC (L5 s k k)
  .have f:=AA (Sf p.o ht);rw[ht]at l;have v:¬((L5 s k k).toNat=9\/(L5 s k k).toNat=13\/(L5 s k k).toNat=10):=λh=>by cases l.2 h
   have r:(((L5 s k k).toNat:Int)==9)=false:=CY.2 (by omega);have n:(((L5 s k k).toNat:Int)==13)=false:=CY.2 (by omega);have o:(((L5 s k k).toNat:Int)==10)=false:=CY.2 (by omega);clear l v ht;go_wp2;go_roundw
   .exact⟨k+1,by omega,by go_num,f.o,u,b.o⟩
   simp[Aa];omega
  have f:=AA (Ub p.o a ht);have d:=l.1 ht;have c:∃r n o:Bool,(((L5 s k k).toNat:Int)==9)=r/\(((L5 s k k).toNat:Int)==13)=n/\(((L5 s k k).toNat:Int)==10)=o/\((r=true/\n=false/\o=false)\/(r=false/\n=true/\o=false)\/(r=false/\n=false/\o=true)):=by
   refine⟨_,_,_,rfl,rfl,rfl,?_⟩;rcases d with d|d|d<;>rw[d]<;>decide
  clear l d ht;obtain⟨r,n,o,e1,e2,E,c⟩:=c;rcases c with⟨rfl,rfl,rfl⟩|⟨rfl,rfl,rfl⟩|⟨rfl,rfl,rfl⟩;all_goals
   go_wp2;go_roundw
   .exact⟨k+1,by omega,by go_num,f.o,by simpa using u,b.o.setCell (AG _) _⟩
   simp[Aa];omega
 have g:=Se t (by omega) (grownCap w s.size 0 5) underlying167 underlying5 ES;go_wp2;go_ret;exact⟨rfl,m⟩
def FD:ByteArray:=⟨#[99,108,97,115,115]⟩
def GP(l:List At2):List At2:=if B8 l FD<l.length then l else l++[⟨FD,⟨#[]⟩⟩]
def KD(l:List At2):ByteArray:=if h:B8 l FD<l.length then l[B8 l FD].val else⟨#[]⟩
def DQ(l:List At2):ByteArray:=YL ((⟨#[32]⟩:ByteArray)++KD l++(⟨#[32]⟩:ByteArray))
theorem Gg{e:Dk}{b:Option Nat}(h:AL w.heap.size w N):Lib.OthersKept e b w N:=λk o t _ _=>(h.block k (AE.1 t).1).trans t
theorem L0(l:List At2):B8 (GP l) FD<(GP l).length/\(GP l).length<=l.length+1/\∀h:B8 (GP l) FD<(GP l).length,(GP l)[B8 (GP l) FD].val=KD l:=by
 unfold GP KD;by_cases h:B8 l FD<l.length
 .simp only[AJ h,dif_pos h];exact⟨h,by omega,λ_=>trivial⟩
 simp only[AI h,dif_neg h];have t:∀x∈l,(x.key.toList==FD.toList)=false:=λx hx=>by
  rw[Bool.eq_false_iff];intro e;exact h (IH hx (beq_iff_eq.1 e))
 have a:B8 (l++[⟨FD,⟨#[]⟩⟩]) FD=l.length:=by
  unfold B8;rw[List.findIdx_append,List.findIdx_eq_length_of_false t];simp[List.findIdx_cons]
 refine⟨by rw[a];simp,by simp,λo=> ?_⟩;simp only[a];simp
theorem Vf(l:List At2)(v:ByteArray):Cu (GP l) FD v=Cu l FD v:=by
 obtain⟨t,-,-⟩:=L0 l;rw[KY t];unfold GP at t|-;by_cases h:B8 l FD<l.length
 .simp only[AJ h];rw[KY h]
 simp only[AI h]at t|-;have o:B8 (l++[⟨FD,⟨#[]⟩⟩]) FD=l.length:=by
  have a:∀x∈l,(x.key.toList==FD.toList)=false:=λx hx=>by
   rw[Bool.eq_false_iff];intro e;exact h (IH hx (beq_iff_eq.1 e))
  unfold B8;rw[List.findIdx_append,List.findIdx_eq_length_of_false a];simp[List.findIdx_cons]
 rw[Mt h];simp only[o];simp
def G9(l:List At2)(X:List UInt8):List At2:=if Bi X=[]then F7 (GP l) FD else Cu l FD ⟨(Bi X).toArray⟩
theorem NT.tr{a:AB}(_h:NT g w a)(k:NT g a M)(t:AL w.heap.size w a)(n:g<w.heap.size):NT g w M:=by
 have i:rowAt a g=rowAt w g:=Ce (t.block g n);exact⟨k.os.trans t.os,k.tape.trans t.tape,k.output.trans t.output,AH t.size k.size,λb o r s=>by
  rw[k.block b (AR o t.size) r (by rw[i];exact s)];exact t.block b o,λb e=>(k.rw b e).imp (λh=>by rw[<-i];exact h) (λh=>AH t.size h)⟩
theorem NT.two{t:AB}(h:NT g w t)(k:NT g t M):NT g w M:=
 ⟨k.os.trans h.os,k.tape.trans h.tape,k.output.trans h.output,AH h.size k.size,λb i o a=>by
  rw[k.block b (AR i h.size) o (λe=>by
   rcases h.rw b e with q|q
   .exact a q
   omega)]
  exact h.block b i o a,λb e=>by
  rcases k.rw b e with q|q
  .exact h.rw b q
  exact .inr (AH h.size q)⟩
theorem Fi(l:List At2)(hl:l.length<=900)(hv:(KD l).size<=2147483000)(g:Nat)(w:AB)(h5:z[5]? =some (.int .u32 3))(hBw:B<=w.heap.size)(h:J0 z B l g w):
 AX AC 105 #[.pointer (some ⟨g,0,none⟩)] w λe w'=>∃ab cap r,e= .returned (.tuple #[.string (DQ l),.pointer (some ⟨ab,B8 (GP l) FD*3,none⟩)])/\Je z B (GP l) g ab cap r w'/\NT g w w'/\Lib.OthersKept 133 (some g) w w':=by
 have HEl:=AA h;obtain⟨hds,aa,ac,o,f⟩:=h;have O:g<w.heap.size:=(AE.1 o).1;have HP:=AA (KA g B #[] l aa ac FD w (by rw[AZ w _ 9 _ _ _ o,DX hds]) (by omega) O f);have c5:w.cell? ⟨g,5,none⟩=some (.int .u32 3):=by rw[AZ w _ 5 _ _ _ o,WG (by omega)];exact h5
 have G:rowAt w g=(AO aa l.length ac).ownBlock:=by
  unfold rowAt;rw[AZ w _ 9 _ _ _ o,DX hds]
 have F:=AA G;have HBl:=AA o;have HOw:=AA f;have en:Hid (∀W,AX AC 133 #[.string ((⟨#[32]⟩:ByteArray)++KD l++(⟨#[32]⟩:ByteArray))] W λe w'=>e= .returned (.string (DQ l))/\AL W.heap.size W w'):=λW=>M' _ W (by rw[G4,G4];show 1+_+1<=_;omega);obtain⟨-,H,S⟩:=L0 l;clear o f G;go_enter func105,ntmps105;go_wp2_with fail;refine HP.o.mono ?_;rintro e d ⟨h1,et⟩;have a:=AA et;clear et;by_cases hx:B8 l FD<l.length
 .rw[AJ hx]at h1;obtain⟨ab,eo,rfl⟩:=h1;obtain⟨j,cap,r,hB⟩:=HEl.o.blocks (by omega);have M:=hB.below a.o;have he:j=ab:=by
   have e1:=hB.rowAt;rw[F.o,eo]at e1;simpa [A6]using e1.symm
  subst he;have C:GP l=l:=AJ hx;have X:KD l=l[B8 l FD].val:=dif_pos hx;obtain⟨-,-,p2⟩:=M.cell hx;rw[<-X]at p2;have HF:Hid (Je z B (GP l) g j cap r d/\NT g w d/\Lib.OthersKept 133 (some g) w d):=⟨by rw[C];exact M,NT.Yq a.o O,Gg a.o⟩;have es:=AA (en.o d);have T:Hid (B8 (GP l) FD=B8 l FD):=by rw[Hid,C]
  obtain⟨V,hV⟩:∃V,V=KD l:=⟨_,rfl⟩;rw[<-hV]at p2 es hv;clear eo hB M C X S H hV;obtain⟨ix,Q⟩:∃ix,ix=B8 l FD:=⟨_,rfl⟩;rw[<-Q]at p2 hx T|-;clear Q;go_wp2_with fail;refine es.o.mono ?_;rintro e w2 ⟨rfl,k⟩;have Y:Hid (Je z B (GP l) g j cap r w2/\NT g w w2/\Lib.OthersKept 133 (some g) w w2):=⟨HF.o.1.below k,HF.o.2.1.up k O,HF.o.2.2.trans (Gg k)⟩;clear k;go_wp2_with fail;go_ret2;exact⟨j,cap,r,by rw[T.o];rfl,Y.o⟩
 rw[AI hx]at h1;subst h1;have s:=(a.o.block _ O).trans HBl.o;have hg1:g<d.heap.size:=(AE.1 s).1;have y:=BB HOw.o (λb _ hb=>a.o.block b hb);have c9:d.cell? ⟨g,9,none⟩=some (.slice aa l.length ac):=by rw[AZ d _ 9 _ _ _ s,DX hds]
 have HB:=AA s;have HW:=AA y;have E:Hid (GP l=l++[⟨FD,⟨#[]⟩⟩]):=AI hx;have HcV:Hid (KD l=⟨#[]⟩):=dif_neg hx;clear s y;have HNw:Hid ((d.alloc (.cells #[.string ⟨#[]⟩,.string FD,.string ⟨#[]⟩] 133)).heap[d.heap.size]? =some (.cells #[.string ⟨#[]⟩,.string FD,.string ⟨#[]⟩] 133 (0,0))):=Ah d _;have hB1s:B<=d.heap.size:=AH hBw a.o.size;go_wp2_with(at_builtin;refine If rfl _ _ rfl B (.slice aa l.length ac) l rfl (HW.o.alloc _) FD ⟨#[]⟩ d.heap.size 1 rfl HNw.o (by omega) (by simp;omega) ?_);intro D t c p n ea;have U:some g≠(AO aa l.length ac).ownBlock:=λe=>Ax HW.o HB.o (by decide) e.symm;have u:c.heap[g]? =some (.cells (z.push (.slice aa l.length ac)) 101 (0,0)):=by
  rw[n.block g (by simp;omega) U,B5 _ _ _ hg1];exact HB.o
 have ei:NT g w (d.alloc (.cells #[.string ⟨#[]⟩,.string FD,.string ⟨#[]⟩] 133)):=NT.Yq (a.o.alloc a.o.size _) O;have ee:NT g w c:=ei.grown O n (λq A=>⟨.inl (by rw[F.o];exact A),λe=>U (by rw[<-e];exact A.symm)⟩);have e9:=A7 c _ 9 _ _ u;have d9:c.cell? ⟨g,9,none⟩=some (.slice aa l.length ac):=by rw[AZ c _ 9 _ _ _ u,DX hds]
 have R:J0 z B (GP l) g (c.setCell ⟨g,9,none⟩ (.slice D (l.length+1) t)):=by
  rw[E.o];exact LV hds u (by simp) p
 have Z:NT g w (c.setCell ⟨g,9,none⟩ (.slice D (l.length+1) t)):=ee.Zu hds u (λb e=>by
  rcases ea with h|h
  .rw[h]at e;exact .inl (by rw[F.o];exact e)
  rw[h]at e;injection e with e;right;rw[<-e];have:=a.o.size;simp;omega)
 have P:Lib.OthersKept 133 (some g) w (c.setCell ⟨g,9,none⟩ (.slice D (l.length+1) t)):=by
  refine Lib.OthersKept.setCell (Lib.OthersKept.grown ((Gg a.o).alloc _) n λq A=> ?_) ⟨g,9,none⟩ rfl _;rcases HW.o.2 with⟨e,_⟩|⟨ab',cap',eh,hv',_,J,_⟩
  .rw[e]at A;simp[A6]at A
  rw[hv']at A;simp[A6]at A;subst A;exact⟨eh,(0,0),by rw[B5 _ _ _ (AE.1 J).1];exact J⟩
 have HOk:=AA P;have K:(GP l).length=l.length+1:=by rw[E.o];simp
 obtain⟨ab,cap,r,m⟩:=R.blocks (by omega);have hq9:(c.setCell ⟨g,9,none⟩ (.slice D (l.length+1) t)).cell? ⟨g,9,none⟩=some (.slice D (l.length+1) t):=by
  have:=Ao c g 9 _ _ (.slice D (l.length+1) t) u;rw[AZ _ _ 9 _ _ _ this,KW hds,DX hds]
 have L:(c.setCell ⟨g,9,none⟩ (.slice D (l.length+1) t)).cell? ⟨g,9,none⟩=some (.slice (some ⟨ab,0,none⟩) (GP l).length cap):=by
  exact m.c9
 rw[hq9,K]at L;simp only[Option.some.injEq,Value.slice.injEq,true_and]at L;obtain⟨rfl,rfl⟩:=L;have N:B8 (GP l) FD=l.length:=by
  rw[E.o];have hno:∀x∈l,(x.key.toList==FD.toList)=false:=λx hx2=>by
   rw[Bool.eq_false_iff];intro e;exact hx (IH hx2 (beq_iff_eq.1 e))
  unfold B8;rw[List.findIdx_append,List.findIdx_eq_length_of_false hno];simp[List.findIdx_cons]
 obtain⟨-,-,p2⟩:=m.cell (i:=l.length) (by omega);have I:(GP l)[l.length].val=⟨#[]⟩:=by simp only[E.o];simp
 rw[I]at p2;have HEB:=AA m;have HB4:=AA Z;have T:=AA N;have er:Hid (∀W,AX AC 133 #[.string ((⟨#[32]⟩:ByteArray)++(⟨#[]⟩:ByteArray)++(⟨#[32]⟩:ByteArray))] W λe w'=>e= .returned (.string (DQ l))/\AL W.heap.size W w'):=λW=>by
  have:=en.o W;rw[HcV.o]at this;exact this
 have hsz4:g<(c.setCell ⟨g,9,none⟩ (.slice (some ⟨ab,0,none⟩) (l.length+1) t)).heap.size:=(AE.1 m.blk).1;clear p n ea ei u ee U c9 R Z K P m N I H S hv;go_wp2_with fail;go_quiet(fail);go_wp2_with fail;refine(er.o _).mono ?_;rintro e w5 ⟨rfl,v⟩;have Y:Hid (Je z B (GP l) g ab t r w5/\NT g w w5/\Lib.OthersKept 133 (some g) w w5):=⟨(HEB.o.below (BC (AW _ _) nq)).below v,(HB4.o.up (BC (AW _ _) nq) O).up v O,(HOk.o.trans (Gg (BC (AW _ _) nq))).trans (Gg v)⟩;clear v;go_wp2_with fail;go_ret2;exact⟨ab,t,r,by rw[T.o];rfl,Y.o⟩
theorem F9(l:List At2)(F:l.length<=900)(X:ByteArray)(N:Dc X.data.toList)(E:X.size<=2147483647)(g ab cap:Nat)(T:Array AS)(w:AB)(v:Je z B (GP l) g ab cap T w):
 AX AC 107 #[.pointer (some ⟨g,0,none⟩),.pointer (some ⟨ab,B8 (GP l) FD*3,none⟩),.string X] w λe w'=>e= .returned (.tuple #[])/\J0 z B (G9 l X.data.toList) g w'/\NT g w w':=by
 have f:=AA (JW X N E w);have k:g<w.heap.size:=(AE.1 v.blk).1;obtain⟨d,x,-⟩:=L0 l;have i:=AA d;have j:=AA v;have A:Hid (∀W,AL w.heap.size w W->AX AC 101 #[.pointer (some ⟨g,0,none⟩),.string FD] W (J8 z B (F7 (GP l) FD) g W)):=λW R=>Ia (GP l) (by omega) FD g W (v.below R).el;obtain⟨V,b⟩:∃V:ByteArray,V=⟨(Bi X.data.toList).toArray⟩:=⟨_,rfl⟩;rw[<-b]at f;have D:=AA b;have h:V.toList=Bi X.data.toList:=by rw[BU,b]
 have m:=AA h;obtain⟨p,o⟩:∃p,p=B8 (GP l) FD:=⟨_,rfl⟩;have y:=AA o;rw[<-o];clear v d b h N o x;go_enter func107,ntmps107;go_wp2_with fail;refine f.o.mono ?_;rintro e n ⟨rfl,c⟩;have t:=AA c;clear c;cases q:V.toList.isEmpty
 .have r:¬Bi X.data.toList=[]:=λe=>by rw[m.o,e]at q;cases q
  have a:=j.o.below t.o;obtain⟨H,p1,p2⟩:=a.cell i.o;have f2:n.frozen? ⟨ab,B8 (GP l) FD*3+2,none⟩=false:=A7 n ab _ _ _ a.row;have U:Hid (J0 z B (G9 l X.data.toList) g (n.setCell ⟨ab,p*3+2,none⟩ (.string V))/\NT g w (n.setCell ⟨ab,p*3+2,none⟩ (.string V))):=by
   refine⟨?_,(NT.Yq t.o k).setRow (.inl j.o.rowAt) (λe=>j.o.ne e.symm) _ _⟩;rw[G9,AI r,<-Vf,KY i.o,y.o,<-D.o];exact Mu a i.o V
  generalize (GP l)[B8 (GP l) FD].val=Y at p2;rw[<-y.o]at p2 f2;clear r a H p1;go_wp2_with fail
  go_end0;exact⟨rfl,U.o⟩
 have s:Bi X.data.toList=[]:=by rw[<-m.o];simpa using q
 have O:=AA (A.o n t.o);have L:Hid (G9 l X.data.toList=F7 (GP l) FD):=by rw[Hid,G9,AJ s]
 clear s;go_wp2_with fail;refine O.o.mono ?_;rintro e M ⟨rfl,S,u⟩;have C:=AA S;have I:=AA u;clear S u;go_wp2_with fail;refine bodyPost_ret (results_none rfl _ _ _) rfl ?_;exact⟨rfl,by rw[L.o];exact C.o,(NT.Yq t.o k).tr I.o t.o k⟩
def IA(c:List UInt8):Prop:=c≠[]/\∀x∈c,33<=x.toNat/\x.toNat<=126
theorem IA.cn{c:List UInt8}(h:IA c):CN c:=⟨h.1,λx hx=>by
 have:=h.2 x hx;cases e:Gm x
 .rfl
 have:=(L7 x).1 e;omega⟩
theorem IA.asc{c:List UInt8}(h:IA c):Dc c:=λx hx=>by have:=h.2 x hx;omega
theorem MK{a b:List UInt8}(o:Dc a)(t:Dc b):Dc (a++b):=λc e=>by
 rcases AV.1 e with h|h
 .exact o c h
 exact t c h
theorem NP:Dc [32]:=λc e=>by rw[AP]at e;subst e;decide
theorem N9{a b:List UInt8}(h:Dc b)(e:∀c∈a,c∈b):Dc a:=λc t=>h c (e c t)
theorem Ph{old new:List UInt8}:∀(f:Nat) (s:List UInt8),∀c∈Gj old new f s,c∈s\/c∈new:=by
 intro f;induction f with
 |zero=>intro s c e;exact .inl e
 |succ f a=>
  intro s c e;unfold Gj at e;by_cases h:Lib.index s old<0
  .rw[AJ h]at e;exact .inl e
  rw[AI h]at e;rcases AV.1 e with e|e
  .rcases AV.1 e with e|e
   .exact .inl (Ci e)
   exact .inr e
  rcases a _ c e with t|t
  .exact .inl (List.mem_of_mem_drop t)
  exact .inr t
theorem Js:∀(ns:List (List UInt8)),(∀c∈ns,CN c)->BG (EE ns [32])=ns:=by
 intro ns;induction ns with
 |nil=>intro _;rfl
 |cons a ns t=>
  intro h;have e:=h a (by simp);have o:=λx hx=>h x (Ab _ hx);cases ns with
  |nil=>
   have:EE [a] [32]=a:=by simp[EE,List.intercalate]
   rw[this];exact Er e.ws e.ne
  |cons b ns=>
   have:EE (a::b::ns) [32]=a++32::EE (b::ns) [32]:=by simp[EE,List.intercalate]
   rw[this,DZ (by decide),Er e.ws e.ne,t o];rfl
theorem UD:∀(ns:List (List UInt8)),∀x∈EE ns [32],x=32\/∃c∈ns,x∈c:=by
 intro ns;induction ns with
 |nil=>intro x hx;simp[EE,List.intercalate]at hx
 |cons a ns e=>
  intro x hx;cases ns with
  |nil=>
   have:EE [a] [32]=a:=by simp[EE,List.intercalate]
   rw[this]at hx;exact .inr ⟨a,by simp,hx⟩
  |cons b ns=>
   have:EE (a::b::ns) [32]=a++32::EE (b::ns) [32]:=by simp[EE,List.intercalate]
   rw[this]at hx;rcases AV.1 hx with h|h
   .exact .inr ⟨a,by simp,h⟩
   rcases BQ.1 h with h|h
   .exact .inl h
   rcases e x h with h|⟨c,t,hx⟩
   .exact .inl h
   exact .inr ⟨c,Ab _ t,hx⟩
theorem Md{ns:List (List UInt8)}(h:∀c∈ns,IA c):Dc (EE ns [32]):=λx hx=>by
 rcases UD ns x hx with t|⟨c,e,hx⟩
 .subst t;decide
 exact(h c e).asc x hx
def BZ(x:ByteArray):List UInt8:=x.data.toList
theorem Mo{l:List (List UInt8)}(h:w.ownsRow B 9 1 (.slice a n c) n (strs l))(y:Lib.OthersKept 133 (some g) w N)(p:∃m,w.heap[g]? =some (.cells m 101 (0,0)))(i:Nat)(u:i<l.length):∃b,a=some ⟨b,0,none⟩/\b<N.heap.size/\N.cell? ⟨b,i,none⟩=some (.string ⟨l[i].toArray⟩):=by
 have k:l.length=n:=by have:=h.1;rw[Cz]at this;omega
 rcases h.2 with⟨_,q⟩|⟨o,cap,v,f,_,r,_⟩
 .omega
 cases f
 have d:some o≠some g:=λe=>by
  cases e
  obtain⟨m,t⟩:=p;rw[r]at t;simp at t
 have s:=y o _ r d (λc j e=>by simp at e);refine⟨o,rfl,(AE.1 s).1,?_⟩;have t:=h.cells (g:=o) rfl i (.string ⟨l[i].toArray⟩) (by rw[AK (by rw[Cz];exact u),JU u]);rw[Ba,By]at t;rw[Am (a:=⟨o,i,none⟩) (s.trans r.symm)];exact t
theorem Ek(x:ByteArray):((⟨#[32]⟩:ByteArray)++x++(⟨#[32]⟩:ByteArray)).size=x.size+2:=by
 rw[G4,G4];show 1+x.size+1=_;omega
theorem Gc(x:ByteArray):((⟨#[32]⟩:ByteArray)++x++(⟨#[32]⟩:ByteArray)).data.toList=blk x.data.toList:=by
 simp[blk]
theorem Mv(T:ByteArray)(l:List (List UInt8))(W:AB)(h:AX AC 132 #[.string T] W (EG l W)):AX AC 104 #[.string T] W (EG l W):=by
 have s:=AA h;clear h;go_enter func104,ntmps104;go_wp2_with fail;refine s.o.mono ?_;rintro e r ⟨a,c,rfl,n,i⟩;have o:=AA n;have t:=AA i;clear n i;go_wp2;go_ret;exact⟨a,c,rfl,o.o,t.o⟩
def Km(how:Nat)(X c:List UInt8):List UInt8:=if how=0 then MG X c else if how=1 then I5 X c else Gj (blk c) [32] (X.length+1) X
def CX(how:Nat)(X:List UInt8)(ns:List (List UInt8)):List UInt8:=ns.foldl (Km how) X
theorem Kq(how:Nat)(X:List UInt8)(ns:List (List UInt8))(c:List UInt8):CX how X (ns++[c])=Km how (CX how X ns) c:=by simp[CX]
theorem Rd{old new:List UInt8}(e:new≠[]):∀(f:Nat) (s:List UInt8),s≠[]->Gj old new f s≠[]
 |0,s,h=>h
 |f+1,s,h=>by
  unfold Gj;split
  .exact h
  simp[e]
theorem S5{how:Nat}{X c:List UInt8}(o:Dc c)(h:Dc X):Dc (Km how X c)/\(Km how X c).length<=X.length+c.length+1/\(X≠[]->Km how X c≠[]):=by
 have hr:Dc (Gj (blk c) [32] (X.length+1) X)/\(Gj (blk c) [32] (X.length+1) X).length<=X.length+c.length+1:=by
  refine⟨λz a=> ?_,?_⟩
  .rcases Ph _ _ z a with q|q
   .exact h z q
   exact NP z q
  have:=Uk (old:=blk c) (new:=[32]) (by unfold blk;simp) (X.length+1) X;omega
 have t:Dc (X++c++[32]):=MK (MK h o) NP;unfold Km;split
 .unfold MG;split
  .exact⟨h,by omega,λe=>e⟩
  exact⟨t,by simp;omega,λe=>by simp⟩
 split
 .unfold I5;split
  .exact⟨hr.1,hr.2,λe=>Rd (by simp) _ _ e⟩
  exact⟨t,by simp;omega,λe=>by simp⟩
 exact⟨hr.1,hr.2,λe=>Rd (by simp) _ _ e⟩
theorem KZ(c:List UInt8)(ns:List (List UInt8)):(Dv (c::ns)).length=c.length+1+(Dv ns).length:=by
 unfold Dv;rw[A_,AN,Ak]
theorem Ga{how:Nat}:∀{ns:List (List UInt8)} {X:List UInt8},Dc X->(∀c∈ns,Dc c)->Dc (CX how X ns)/\(CX how X ns).length<=X.length+(Dv ns).length/\(X≠[]->CX how X ns≠[])
 |[],X,h,_=>⟨h,Nat.le_add_right _ _,λe=>e⟩
 |c::ns,X,h,t=>by
  obtain⟨s,d,n⟩:=S5 (how:=how) (t c Af) h;obtain⟨i,r,o⟩:=Ga (how:=how) s (λy a=>t y (Ab _ a));refine⟨i,?_,λe=>o (n e)⟩;show(CX how (Km how X c) ns).length<=_;have e:=KZ c ns;rw[e];omega
theorem Me(ns:List (List UInt8)):(EE ns [32]).length<=(Dv ns).length:=by
 have key:∀l:List (List UInt8),([32].intercalate l:List UInt8).length<=(Dv l).length:=by
  intro l;induction l with
  |nil=>exact AG _
  |cons c l t=>
   rw[KZ];cases l with
   |nil=>
    have e:([32].intercalate [c]:List UInt8)=c:=(by simp[List.intercalate]);rw[e];omega
   |cons d l=>
    have e:([32].intercalate (c::d::l):List UInt8)=c++[32]++[32].intercalate (d::l):=(by simp[List.intercalate]);rw[e,AN,AN];have:([32]:List UInt8).length=1:=rfl;omega
 exact key ns
theorem L6(ns:List (List UInt8)):ns.length<=(Dv ns).length/\∀c∈ns,c.length<=(Dv ns).length:=by
 induction ns with
 |nil=>exact⟨AG _,λc h=>by cases h⟩
 |cons a l t=>
  have e:=KZ a l;refine⟨by rw[e,Ak];omega,λc h=> ?_⟩;rw[e];rcases BQ.1 h with rfl|h
  .omega
  have:=t.2 c h;omega
theorem NT.own(m:J0 z B l g w)(c:NT g w N){e size:Nat}{xs:List AS}(o:w.ownsRow A e size v k xs)(y:e≠101)(f:e≠133):N.ownsRow A e size v k xs:=by
 obtain⟨hds,aa,ac,t,a⟩:=m;refine Cv o λb r h=>c.block b h (λe1=> ?_) (λe1=> ?_)
 .subst e1;exact Ax o t y r
 have n:rowAt w g=(AO aa l.length ac).ownBlock:=by
  unfold rowAt;rw[AZ w _ 9 _ _ _ t,DX hds]
 rw[n]at e1;rcases a.2 with⟨i,_⟩|⟨p,u,d,i,_,s,_⟩
 .rw[i]at e1;simp[A6]at e1
 have q:p=b:=by rw[i]at e1;simpa [A6]using e1
 subst q;exact Ax o s f r
theorem NT.ag{a:AB}(h:NT g w a)(t:AL a.heap.size a M)(i:g<a.heap.size):NT g w M:=
 ⟨t.os.trans h.os,t.tape.trans h.tape,t.output.trans h.output,AH h.size t.size,λb o s n=>(t.block b (AR o h.size)).trans (h.block b o s n),λb e=>h.rw b (by rw[<-Ce (t.block g i)];exact e)⟩
theorem OC(nm:List ByteArray)(hnm:nm≠[])(hN:∀x∈nm,IA (BZ x))(hsp:(Dv (nm.map BZ)).length<=5000000)(bk o c:Nat)(hc:nm.length<=c)(hxn:Y.Nodup)(hxl:Y.length<=100000)(hx:∀x∈Y,x<s.N/\(s.nd x).kind=3/\(s.nd x).attrs.length<=900/\(KD (s.nd x).attrs).size<=100000000/\Dc (BZ (DQ (s.nd x).attrs))/\(DQ (s.nd x).attrs).size<=100000002/\BZ (DQ (s.nd x).attrs)≠[]){C:Nat}{bl:Nat->Nat}(hP:Br s.F (λi=>i<s.N) s.nd B bl V w)(hBC:B<=C)(hC:C<=w.heap.size)(D g:Nat)(K:Option Ai)(hsel:GJ bl Y D g K w)
 (q:∀(j:Nat) x,nm[j]? =some x->w.cell? ⟨bk,o+j,none⟩=some (.string x))(hbk:bk<w.heap.size):
 AX AC 81 #[.pointer (some ⟨g,0,none⟩),.slice (some ⟨bk,o,none⟩) nm.length c] w (Bk g (Ew s.N B C bl w (DV (λl=>G9 l (CX 0 (BZ (DQ l)) (nm.map BZ))) s Y))):=by
 have P:∀y∈nm.map BZ,IA y:=λy r=>by
  obtain⟨x,hx,rfl⟩:=BL.1 r;exact hN x hx
 obtain⟨J,hJ⟩:∃J:ByteArray,J=⟨(EE (nm.map BZ) [32]).toArray⟩:=⟨_,rfl⟩;have N:J.data.toList=EE (nm.map BZ) [32]:=by rw[hJ]
 have hJl:J.size<=5000000:=by
  have m:J.size=J.data.toList.length:=rfl;rw[m,N];have:=Me (nm.map BZ);omega
 obtain⟨hsl1,hsl2⟩:=L6 (nm.map BZ);rw[Aq]at hsl1;have S:Dc J.data.toList:=by rw[N];exact Md λy r=>P y r
 have hJw:BG J.data.toList=nm.map BZ:=by rw[N];exact Js _ λy r=>(P y r).cn
 obtain⟨T,hT⟩:∃T:ByteArray,T=⟨(Bi J.data.toList).toArray⟩:=⟨_,rfl⟩;have I:T.data.toList=Bi J.data.toList:=by rw[hT]
 have hTA:Dc T.data.toList:=by rw[I];exact N9 S (I7 _)
 have hTw:BG T.data.toList=nm.map BZ:=by rw[I,I6 S,hJw]
 have hTl:T.size<=5000000:=by
  have m:T.size=T.data.toList.length:=rfl;have:=Ke J.data.toList;have h3:J.size=J.data.toList.length:=rfl;rw[m,I];omega
 have hTe:T.toList.isEmpty=false:=by
  cases e:T.toList.isEmpty
  .rfl
  rw[BU,I,List.isEmpty_iff,IW S,hJw,List.map_eq_nil_iff]at e;exact absurd e hnm
 have M:AX AC 103 #[.slice (some ⟨bk,o,none⟩) nm.length c,.string ⟨#[32]⟩] w λe w'=>e= .returned (.string J)/\AL w.heap.size w w':=by
  have:=Tryz.strings_Join bk o c nm ⟨#[32]⟩ w q hbk (by omega) hc (by
   have m:J.size=J.data.toList.length:=rfl;rw[N]at m;show(EE (nm.map BZ) [32]).length<=_;omega)
  rw[hJ];exact this
 have HJn:=AA M;have HTr:Hid (∀W,AX AC 102 #[.string J] W λe w'=>e= .returned (.string T)/\AL W.heap.size W w'):=λW=>by rw[hT];exact JW J S (by omega) W
 have HFl:Hid (∀W,AX AC 132 #[.string T] W (EG (nm.map BZ) W)):=λW=>by rw[<-hTw];exact It T hTA (by omega) W
 have HGs:Hid (∀W,AX AC 104 #[.string T] W (EG (nm.map BZ) W)):=λW=>Mv T (nm.map BZ) W (HFl.o W);obtain⟨a1,c1,R,hsb,hD,hown⟩:=hsel;have HI0:Hid (∀W,AL w.heap.size w W->LJ s B C bl w s Y D g a1 K R c1 V W):=λW hb=>LJ.up ⟨PA.refl (n:=s.N) rfl hP,hsb,hown⟩ hb hC;have hxpos:0<nm.length:=Bg.2 hnm;have HN:=AA hN;have HXs:=AA hx;have HXn:=AA hxn;have HF:Hid (∀X k,Dc X->Dc (CX 0 X ((nm.map BZ).take k))/\(CX 0 X ((nm.map BZ).take k)).length<=X.length+5000000/\(X≠[]->CX 0 X ((nm.map BZ).take k)≠[])):=λX k hX=>by
  obtain⟨b1,b2,b3⟩:=Ga (how:=0) (ns:=(nm.map BZ).take k) hX (λy r=>(P y (Ci r)).asc);have h1:=Ka (nm.map BZ) k;exact⟨b1,by omega,b3⟩
 have HYs:Hid (∀y∈nm,y.size<=5000000):=λy r=>by
  have h1:=hsl2 (BZ y) (BK r);have m:y.size=(BZ y).length:=rfl;omega
 have hnl:nm.length<=5000000:=by omega
 clear M q hP hsb hown hN P hx hxn hsl1 hsl2 S hJw hTA hTw I N hT hJ hsp;go_enter func81,ntmps81;go_wp2_with fail;refine HJn.o.mono ?_;rintro e w1 ⟨rfl,hb1⟩;have HB1:=AA hb1;have HTr1:=AA (HTr.o w1);clear hb1;go_wp2_with fail;refine HTr1.o.mono ?_;rintro e w2 ⟨rfl,hb2⟩;have HB2:=AA (BT HB1.o hb2);have HGs2:=AA (HGs.o w2);clear hb2;go_wp2_with fail;refine HGs2.o.mono ?_;rintro e w3 ⟨at_,ct,rfl,U,hb3⟩;have HB3:=AA (BT HB2.o hb3);have HO3:=AA U;clear hb3 U;obtain⟨z0,-,-⟩:=(HI0.o w3 HB3.o).sel.cells;go_wp2;go_loopw [26] (λv wr=>∃(i:Nat) (a:Nat->Dn),i<=Y.length/\v= .int .i64 i/\Hid (LJ s B C bl w (DV (λl=>G9 l (CX 0 (BZ (DQ l)) (nm.map BZ))) s (Y.take i)) Y D g a1 K R c1 a wr)/\Hid (wr.ownsRow w2.heap.size 9 1 (.slice at_ (nm.map BZ).length ct) (nm.map BZ).length (strs (nm.map BZ)))) (λv _=>Y.length-(Aa v).toNat)
 .exact⟨0,V,AY _,rfl,HI0.o w3 HB3.o,HO3.o⟩
 obtain⟨i,a,hi,rfl,hI,hO⟩:=hrel;obtain⟨z,rfl⟩:∃W:AB,W=wr:=⟨_,rfl⟩;clear z0;by_cases O:i<Y.length
 case neg=>
  have e:i=Y.length:=by omega
  subst e;have HFin:Hid (Ew s.N B C bl w (DV (λl=>G9 l (CX 0 (BZ (DQ l)) (nm.map BZ))) s Y) z):=by
   have:=hI.o.pa;rw[AU]at this;exact⟨bl,a,this⟩
  clear hI hO;go_wp2;go_ret;exact⟨rfl,HFin.o⟩
 obtain⟨b0,o0,rfl,hbB,hcR⟩:=hI.o.aS.at_ (by rw[AM];omega);have g1:=hcR i (by rw[AM];exact O);rw[A5 O]at g1;obtain⟨q1,q2,q3,q4,q5,q6,q7⟩:=HXs.o Y[i] (AD O);obtain⟨e1,e2⟩:=Hf (f:=λl=>G9 l (CX 0 (BZ (DQ l)) (nm.map BZ))) (s:=s) HXn.o O;obtain⟨k1,k2,k3⟩:=Ej (f:=λl=>G9 l (CX 0 (BZ (DQ l)) (nm.map BZ))) (Y.take i) s;have hE:=hI.o.pa.prog.aY (x:=Y[i]) (by rw[k2];exact q1) (by rw[e2];exact q2);rw[e2]at hE;have h5:(P8 bl (a Y[i]))[5]? =some (.int .u32 3):=by
  have hty:(a Y[i]).typ=3:=by
   rw[(hI.o.pa.prog.self Y[i] (by rw[k2];exact q1)).typ,e2,q2];rfl
  show some (Value.int .u32 (a Y[i]).typ)=_;rw[hty]
 have hBr:B<=z.heap.size:=AH hBC (AH hC hI.o.pa.turn.size);have Q:Hid (∀W2,J0 (P8 bl (a Y[i])) B (G9 (s.nd Y[i]).attrs (CX 0 (BZ (DQ (s.nd Y[i]).attrs)) (nm.map BZ))) (bl Y[i]) W2->NT (bl Y[i]) z W2->(∃st2,LJ s B C bl w (DV (λl=>G9 l (CX 0 (BZ (DQ l)) (nm.map BZ))) s (Y.take (i+1))) Y D g (some ⟨b0,o0,none⟩) K R c1 st2 W2)/\W2.ownsRow w2.heap.size 9 1 (.slice at_ (nm.map BZ).length ct) (nm.map BZ).length (strs (nm.map BZ))):=λW2 h1 m=>by
  refine⟨?_,NT.own hE m hO.o (by decide) (by decide)⟩;rw[e1];exact hI.o.next hC k2 q1 (by rw[e2];exact q2) h1 m
 obtain⟨l,hl⟩:∃l,l=(s.nd Y[i]).attrs:=⟨_,rfl⟩;rw[<-hl]at hE Q q3 q4 q5 q6 q7;obtain⟨hd,hhd⟩:∃hd,hd=P8 bl (a Y[i]):=⟨_,rfl⟩;rw[<-hhd]at hE Q h5;obtain⟨F,hpb⟩:∃F,F=bl Y[i]:=⟨_,rfl⟩;rw[<-hpb]at g1 Q hE;have HGc3:=AA (Fi l q3 (by omega) F z h5 hBr hE);have HBk:Hid (∃cs,z.heap[F]? =some (.cells cs 101 (0,0))):=by
  obtain⟨_,aa,ac,hblk,_⟩:=hE;exact⟨_,hblk⟩
 have HSc:Hid (∀X:ByteArray,Dc X.data.toList->X.size<=2147483647->∀ab cap H W,Je hd B (GP l) F ab cap H W->AX AC 107 #[.pointer (some ⟨F,0,none⟩),.pointer (some ⟨ab,B8 (GP l) FD*3,none⟩),.string X] W λe w'=>e= .returned (.tuple #[])/\J0 hd B (G9 l X.data.toList) F w'/\NT F W w'):=λX h1 m ab cap H W h3=>F9 l q3 X h1 m F ab cap H W h3;have HStA:Hid (∀k,Dc (CX 0 (BZ (DQ l)) ((nm.map BZ).take k))/\(CX 0 (BZ (DQ l)) ((nm.map BZ).take k)).length<=100000002+5000000/\CX 0 (BZ (DQ l)) ((nm.map BZ).take k)≠[]):=λk=>by
  obtain⟨f1,f2,f3⟩:=HF.o (BZ (DQ l)) k q5;have m:(BZ (DQ l)).length=(DQ l).size:=rfl;exact⟨f1,by omega,f3 q7⟩
 have HO:=AA hO.o;clear hcR e1 e2 k1 k2 k3 hhd hpb hl hI hE h5 q2 q5 q7;go_wp2_with fail;refine HGc3.o.mono ?_;rintro e w4 ⟨ab,cap,H,rfl,hB4,hbg4,L⟩;have HEB:=AA hB4;have HBg4:=AA hbg4;have HOk:=AA L;obtain⟨ix,hix⟩:∃ix,ix=B8 (GP l) FD*3:=⟨_,rfl⟩;rw[<-hix];have HIx:=AA hix;have HRow:Hid (∀i,(hi:i<(nm.map BZ).length)->∃b,at_=some ⟨b,0,none⟩/\b<w4.heap.size/\w4.cell? ⟨b,i,none⟩=some (.string ⟨(nm.map BZ)[i].toArray⟩)):=λi hi=>Mo HO.o L HBk.o i hi;have hXA0:CX 0 (BZ (DQ l)) ((nm.map BZ).take 0)=(DQ l).data.toList:=rfl;have HX0:=AA hXA0;have hlm:(nm.map BZ).length=nm.length:=Aq _;have HLm:=AA hlm;try rw[hlm]
 clear hB4 hbg4 L hix hXA0 hlm hO g1;go_wp2;go_loopw [9,37] (λxv v wr=>∃(k:Nat) (X:ByteArray),k<=nm.length/\v= .int .i64 k/\xv= .string X/\Hid (X.data.toList=CX 0 (BZ (DQ l)) ((nm.map BZ).take k))/\Hid (AL w4.heap.size w4 wr)) (λ_ v _=>nm.length-(Aa v).toNat)
 .exact⟨0,DQ l,by omega,rfl,rfl,HX0.o.symm,AW _ _⟩
 obtain⟨k,X,hk,rfl,rfl,A,t⟩:=hrel;obtain⟨hA1,hA2,hA3⟩:=HStA.o k;have hXz:X.size<=100000002+5000000:=by
  have m:X.size=X.data.toList.length:=rfl;rw[m,A.o];exact hA2
 by_cases h:k<nm.length
 .have hk2:k<(nm.map BZ).length:=by rw[HLm.o];exact h
  obtain⟨b,hab,hbl,u⟩:=HRow.o k hk2;cases hab
  have et:=(t.o.cell (p:=⟨b,k,none⟩) hbl).trans u;obtain⟨y,r⟩:∃y:ByteArray,y=nm[k]:=⟨_,rfl⟩;have hyb:(⟨((nm.map BZ)[k]'hk2).toArray⟩:ByteArray)=y:=by rw[r];simp[BZ]
  rw[hyb]at et;have hyn:=HN.o y (by rw[r];exact AD h);have hys:=HYs.o y (by rw[r];exact AD h);have d:(nm.map BZ).take (k+1)=(nm.map BZ).take k++[BZ y]:=by
   rw[AF hk2];simp[r]
  have HNy:Hid (∀Z:ByteArray,Z.data.toList=Km 0 X.data.toList (BZ y)->Z.data.toList=CX 0 (BZ (DQ l)) ((nm.map BZ).take (k+1))):=λZ hZ=>by
   rw[d,Kq,<-A.o];exact hZ
  have HCon:Hid (∀W,AX AC 106 #[.string X,.string ((⟨#[32]⟩:ByteArray)++y++(⟨#[32]⟩:ByteArray))] W λe w'=>e= .returned (.bool (Cf X.data.toList (blk (BZ y))))/\W=w'):=λW=>by
   have:=Om X ((⟨#[32]⟩:ByteArray)++y++(⟨#[32]⟩:ByteArray)) (by omega) (by rw[Ek];omega) W;rw[Gc]at this;exact this
  have HBw:=AA t.o;have ee:=AA (HCon.o wr);cases E:Cf X.data.toList (blk (BZ y))
  .rw[E]at ee;have HZ:Hid ((X++(y++(⟨#[32]⟩:ByteArray))).data.toList=CX 0 (BZ (DQ l)) ((nm.map BZ).take (k+1))):=HNy.o _ (by
    have e:Km 0 X.data.toList (BZ y)=X.data.toList++BZ y++[32]:=(by unfold Km MG;rw[AJ rfl,E];rfl);rw[e];simp[BZ])
   clear hA1 hA2 hA3 A t u hyb hyn d E r;go_wp2_with fail;refine ee.o.mono ?_;rintro e w5 ⟨rfl,rfl⟩;go_wp2;go_roundw
   .exact⟨k+1,_,h,by go_num,rfl,HZ.o,HBw.o⟩
   simp[Aa];omega
  rw[E]at ee;have HZ:Hid (X.data.toList=CX 0 (BZ (DQ l)) ((nm.map BZ).take (k+1))):=HNy.o _ (by
   unfold Km MG;rw[AJ rfl,E];rfl)
  clear hA1 hA2 hA3 A t u hyb hyn d E r;go_wp2_with fail;refine ee.o.mono ?_;rintro e w5 ⟨rfl,rfl⟩;go_wp2;go_roundw
  .exact⟨k+1,X,h,by go_num,rfl,HZ.o,HBw.o⟩
  simp[Aa];omega
 have ek:k=nm.length:=by omega
 subst ek;have hft:(nm.map BZ).take nm.length=nm.map BZ:=BP (by rw[HLm.o];omega);rw[hft]at hA1;have G:=A.o;rw[hft]at G;have HScl:=AA (HSc.o X (by rw[G];exact hA1) (by omega) ab cap H wr (HEB.o.below t.o));rw[G,<-HIx.o]at HScl;have HBf:Hid (NT F z wr):=HBg4.o.ag t.o (AE.1 HEB.o.blk).1;clear A t hA1 hA2 hA3 hft G;go_wp2_with fail;refine HScl.o.mono ?_;rintro e w6 ⟨rfl,hE6,hb6⟩;obtain⟨⟨st2,hI2⟩,hO2⟩:=Q.o w6 hE6 (HBf.o.two hb6);have HI2:=AA hI2;have HO2:=AA hO2;clear hE6 hb6 hI2 hO2;go_wp2;go_roundw
 .exact⟨i+1,st2,O,by go_num,HI2,HO2⟩
 simp[Aa];omega
theorem Lo(nm:List ByteArray)(hnm:nm≠[])(hN:∀x∈nm,IA (BZ x))(hsp:(Dv (nm.map BZ)).length<=5000000)(bk o c:Nat)(hc:nm.length<=c)(hxn:Y.Nodup)(hxl:Y.length<=100000)(hx:∀x∈Y,x<s.N/\(s.nd x).kind=3/\(s.nd x).attrs.length<=900/\(KD (s.nd x).attrs).size<=100000000/\Dc (BZ (DQ (s.nd x).attrs))/\(DQ (s.nd x).attrs).size<=100000002/\BZ (DQ (s.nd x).attrs)≠[]){C:Nat}{bl:Nat->Nat}(hP:Br s.F (λi=>i<s.N) s.nd B bl V w)(hBC:B<=C)(hC:C<=w.heap.size)(D g:Nat)(K:Option Ai)(hsel:GJ bl Y D g K w)
 (u:∀(j:Nat) x,nm[j]? =some x->w.cell? ⟨bk,o+j,none⟩=some (.string x))(hbk:bk<w.heap.size):
 AX AC 82 #[.pointer (some ⟨g,0,none⟩),.slice (some ⟨bk,o,none⟩) nm.length c] w (Bk g (Ew s.N B C bl w (DV (λl=>G9 l (CX 2 (BZ (DQ l)) (nm.map BZ))) s Y))):=by
 have P:∀y∈nm.map BZ,IA y:=λy h=>by
  obtain⟨x,hx,rfl⟩:=BL.1 h;exact hN x hx
 obtain⟨J,hJ⟩:∃J:ByteArray,J=⟨(EE (nm.map BZ) [32]).toArray⟩:=⟨_,rfl⟩;have A:J.data.toList=EE (nm.map BZ) [32]:=by rw[hJ]
 have hJl:J.size<=5000000:=by
  have r:J.size=J.data.toList.length:=rfl;rw[r,A];have:=Me (nm.map BZ);omega
 obtain⟨hsl1,hsl2⟩:=L6 (nm.map BZ);rw[Aq]at hsl1;have O:Dc J.data.toList:=by rw[A];exact Md λy h=>P y h
 have hJw:BG J.data.toList=nm.map BZ:=by rw[A];exact Js _ λy h=>(P y h).cn
 obtain⟨T,hT⟩:∃T:ByteArray,T=⟨(Bi J.data.toList).toArray⟩:=⟨_,rfl⟩;have E:T.data.toList=Bi J.data.toList:=by rw[hT]
 have hTA:Dc T.data.toList:=by rw[E];exact N9 O (I7 _)
 have hTw:BG T.data.toList=nm.map BZ:=by rw[E,I6 O,hJw]
 have hTl:T.size<=5000000:=by
  have r:T.size=T.data.toList.length:=rfl;have:=Ke J.data.toList;have h3:J.size=J.data.toList.length:=rfl;rw[r,E];omega
 have hTe:T.toList.isEmpty=false:=by
  cases e:T.toList.isEmpty
  .rfl
  rw[BU,E,List.isEmpty_iff,IW O,hJw,List.map_eq_nil_iff]at e;exact absurd e hnm
 have U:AX AC 103 #[.slice (some ⟨bk,o,none⟩) nm.length c,.string ⟨#[32]⟩] w λe M=>e= .returned (.string J)/\AL w.heap.size w M:=by
  have:=Tryz.strings_Join bk o c nm ⟨#[32]⟩ w u hbk (by omega) hc (by
   have r:J.size=J.data.toList.length:=rfl;rw[A]at r;show(EE (nm.map BZ) [32]).length<=_;omega)
  rw[hJ];exact this
 have HJn:=AA U;have HTr:Hid (∀W,AX AC 102 #[.string J] W λe M=>e= .returned (.string T)/\AL W.heap.size W M):=λW=>by rw[hT];exact JW J O (by omega) W
 have HFl:Hid (∀W,AX AC 132 #[.string T] W (EG (nm.map BZ) W)):=λW=>by rw[<-hTw];exact It T hTA (by omega) W
 have HGs:Hid (∀W,AX AC 104 #[.string T] W (EG (nm.map BZ) W)):=λW=>Mv T (nm.map BZ) W (HFl.o W);obtain⟨a1,c1,N,hsb,hD,hown⟩:=hsel;have HI0:Hid (∀W,AL w.heap.size w W->LJ s B C bl w s Y D g a1 K N c1 V W):=λW hb=>LJ.up ⟨PA.refl (n:=s.N) rfl hP,hsb,hown⟩ hb hC;have hxpos:0<nm.length:=Bg.2 hnm;have HN:=AA hN;have HXs:=AA hx;have HXn:=AA hxn;have HF:Hid (∀X k,Dc X->Dc (CX 2 X ((nm.map BZ).take k))/\(CX 2 X ((nm.map BZ).take k)).length<=X.length+5000000/\(X≠[]->CX 2 X ((nm.map BZ).take k)≠[])):=λX k hX=>by
  obtain⟨b1,b2,b3⟩:=Ga (how:=2) (ns:=(nm.map BZ).take k) hX (λy h=>(P y (Ci h)).asc);have h1:=Ka (nm.map BZ) k;exact⟨b1,by omega,b3⟩
 have HYs:Hid (∀y∈nm,y.size<=5000000):=λy h=>by
  have h1:=hsl2 (BZ y) (BK h);have r:y.size=(BZ y).length:=rfl;omega
 have hnl:nm.length<=5000000:=by omega
 clear U u hP hsb hown hN P hx hxn hsl1 hsl2 O hJw hTA hTw E A hT hJ hsp;go_enter func82,ntmps82;go_wp2_with fail;refine HJn.o.mono ?_;rintro e w1 ⟨rfl,hb1⟩;have HB1:=AA hb1;have HTr1:=AA (HTr.o w1);clear hb1;go_wp2_with fail;refine HTr1.o.mono ?_;rintro e w2 ⟨rfl,hb2⟩;have HB2:=AA (BT HB1.o hb2);have HGs2:=AA (HGs.o w2);clear hb2;go_wp2_with fail;refine HGs2.o.mono ?_;rintro e w3 ⟨at_,ct,rfl,R,hb3⟩;have HB3:=AA (BT HB2.o hb3);have HO3:=AA R;clear hb3 R;obtain⟨z0,-,-⟩:=(HI0.o w3 HB3.o).sel.cells;go_wp2;go_loopw [28] (λv wr=>∃(i:Nat) (a:Nat->Dn),i<=Y.length/\v= .int .i64 i/\Hid (LJ s B C bl w (DV (λl=>G9 l (CX 2 (BZ (DQ l)) (nm.map BZ))) s (Y.take i)) Y D g a1 K N c1 a wr)/\Hid (wr.ownsRow w2.heap.size 9 1 (.slice at_ (nm.map BZ).length ct) (nm.map BZ).length (strs (nm.map BZ)))) (λv _=>Y.length-(Aa v).toNat)
 .exact⟨0,V,AY _,rfl,HI0.o w3 HB3.o,HO3.o⟩
 obtain⟨i,a,hi,rfl,hI,hO⟩:=hrel;obtain⟨m,rfl⟩:∃W:AB,W=wr:=⟨_,rfl⟩;clear z0;by_cases z:i<Y.length
 case neg=>
  have e:i=Y.length:=by omega
  subst e;have HFin:Hid (Ew s.N B C bl w (DV (λl=>G9 l (CX 2 (BZ (DQ l)) (nm.map BZ))) s Y) m):=by
   have:=hI.o.pa;rw[AU]at this;exact⟨bl,a,this⟩
  clear hI hO;go_wp2;go_ret;exact⟨rfl,HFin.o⟩
 obtain⟨b0,o0,rfl,hbB,hcR⟩:=hI.o.aS.at_ (by rw[AM];omega);have g1:=hcR i (by rw[AM];exact z);rw[A5 z]at g1;obtain⟨q1,q2,q3,q4,q5,q6,q7⟩:=HXs.o Y[i] (AD z);obtain⟨e1,e2⟩:=Hf (f:=λl=>G9 l (CX 2 (BZ (DQ l)) (nm.map BZ))) (s:=s) HXn.o z;obtain⟨k1,k2,k3⟩:=Ej (f:=λl=>G9 l (CX 2 (BZ (DQ l)) (nm.map BZ))) (Y.take i) s;have hE:=hI.o.pa.prog.aY (x:=Y[i]) (by rw[k2];exact q1) (by rw[e2];exact q2);rw[e2]at hE;have h5:(P8 bl (a Y[i]))[5]? =some (.int .u32 3):=by
  have hty:(a Y[i]).typ=3:=by
   rw[(hI.o.pa.prog.self Y[i] (by rw[k2];exact q1)).typ,e2,q2];rfl
  show some (Value.int .u32 (a Y[i]).typ)=_;rw[hty]
 have hBr:B<=m.heap.size:=AH hBC (AH hC hI.o.pa.turn.size);have Q:Hid (∀W2,J0 (P8 bl (a Y[i])) B (G9 (s.nd Y[i]).attrs (CX 2 (BZ (DQ (s.nd Y[i]).attrs)) (nm.map BZ))) (bl Y[i]) W2->NT (bl Y[i]) m W2->(∃st2,LJ s B C bl w (DV (λl=>G9 l (CX 2 (BZ (DQ l)) (nm.map BZ))) s (Y.take (i+1))) Y D g (some ⟨b0,o0,none⟩) K N c1 st2 W2)/\W2.ownsRow w2.heap.size 9 1 (.slice at_ (nm.map BZ).length ct) (nm.map BZ).length (strs (nm.map BZ))):=λW2 h1 r=>by
  refine⟨?_,NT.own hE r hO.o (by decide) (by decide)⟩;rw[e1];exact hI.o.next hC k2 q1 (by rw[e2];exact q2) h1 r
 obtain⟨l,hl⟩:∃l,l=(s.nd Y[i]).attrs:=⟨_,rfl⟩;rw[<-hl]at hE Q q3 q4 q5 q6 q7;obtain⟨hd,hhd⟩:∃hd,hd=P8 bl (a Y[i]):=⟨_,rfl⟩;rw[<-hhd]at hE Q h5;obtain⟨F,hpb⟩:∃F,F=bl Y[i]:=⟨_,rfl⟩;rw[<-hpb]at g1 Q hE;have HGc3:=AA (Fi l q3 (by omega) F m h5 hBr hE);have HBk:Hid (∃cs,m.heap[F]? =some (.cells cs 101 (0,0))):=by
  obtain⟨_,aa,ac,hblk,_⟩:=hE;exact⟨_,hblk⟩
 have HSc:Hid (∀X:ByteArray,Dc X.data.toList->X.size<=2147483647->∀ab cap I W,Je hd B (GP l) F ab cap I W->AX AC 107 #[.pointer (some ⟨F,0,none⟩),.pointer (some ⟨ab,B8 (GP l) FD*3,none⟩),.string X] W λe M=>e= .returned (.tuple #[])/\J0 hd B (G9 l X.data.toList) F M/\NT F W M):=λX h1 r ab cap I W h3=>F9 l q3 X h1 r F ab cap I W h3;have HStA:Hid (∀k,Dc (CX 2 (BZ (DQ l)) ((nm.map BZ).take k))/\(CX 2 (BZ (DQ l)) ((nm.map BZ).take k)).length<=100000002+5000000/\CX 2 (BZ (DQ l)) ((nm.map BZ).take k)≠[]):=λk=>by
  obtain⟨f1,f2,f3⟩:=HF.o (BZ (DQ l)) k q5;have r:(BZ (DQ l)).length=(DQ l).size:=rfl;exact⟨f1,by omega,f3 q7⟩
 have HO:=AA hO.o;clear hcR e1 e2 k1 k2 k3 hhd hpb hl hI hE h5 q2 q5 q7;go_wp2_with fail;refine HGc3.o.mono ?_;rintro e w4 ⟨ab,cap,I,rfl,hB4,hbg4,S⟩;have HEB:=AA hB4;have HBg4:=AA hbg4;have HOk:=AA S;obtain⟨ix,hix⟩:∃ix,ix=B8 (GP l) FD*3:=⟨_,rfl⟩;rw[<-hix];have HIx:=AA hix;have HRow:Hid (∀i,(hi:i<(nm.map BZ).length)->∃b,at_=some ⟨b,0,none⟩/\b<w4.heap.size/\w4.cell? ⟨b,i,none⟩=some (.string ⟨(nm.map BZ)[i].toArray⟩)):=λi hi=>Mo HO.o S HBk.o i hi;have hXA0:CX 2 (BZ (DQ l)) ((nm.map BZ).take 0)=(DQ l).data.toList:=rfl;have HX0:=AA hXA0;have hlm:(nm.map BZ).length=nm.length:=Aq _;have HLm:=AA hlm;try rw[hlm]
 clear hB4 hbg4 S hix hXA0 hlm hO g1;go_wp2;go_loopw [10,42] (λxv v wr=>∃(k:Nat) (X:ByteArray),k<=nm.length/\v= .int .i64 k/\xv= .string X/\Hid (X.data.toList=CX 2 (BZ (DQ l)) ((nm.map BZ).take k))/\Hid (AL w4.heap.size w4 wr)) (λ_ v _=>nm.length-(Aa v).toNat)
 .exact⟨0,DQ l,by omega,rfl,rfl,HX0.o.symm,AW _ _⟩
 obtain⟨k,X,hk,rfl,rfl,q,t⟩:=hrel;obtain⟨hA1,hA2,hA3⟩:=HStA.o k;have hXz:X.size<=100000002+5000000:=by
  have r:X.size=X.data.toList.length:=rfl;rw[r,q.o];exact hA2
 by_cases d:k<nm.length
 .have hk2:k<(nm.map BZ).length:=by rw[HLm.o];exact d
  obtain⟨b,hab,hbl,L⟩:=HRow.o k hk2;cases hab
  have ee:=(t.o.cell (p:=⟨b,k,none⟩) hbl).trans L;obtain⟨y,h⟩:∃y:ByteArray,y=nm[k]:=⟨_,rfl⟩;have hyb:(⟨((nm.map BZ)[k]'hk2).toArray⟩:ByteArray)=y:=by rw[h];simp[BZ]
  rw[hyb]at ee;have hyn:=HN.o y (by rw[h];exact AD d);have hys:=HYs.o y (by rw[h];exact AD d);have H:(nm.map BZ).take (k+1)=(nm.map BZ).take k++[BZ y]:=by
   rw[AF hk2];simp[h]
  have HNy:Hid (∀Z:ByteArray,Z.data.toList=Km 2 X.data.toList (BZ y)->Z.data.toList=CX 2 (BZ (DQ l)) ((nm.map BZ).take (k+1))):=λZ hZ=>by
   rw[H,Kq,<-q.o];exact hZ
  have HCon:Hid (∀W,AX AC 106 #[.string X,.string ((⟨#[32]⟩:ByteArray)++y++(⟨#[32]⟩:ByteArray))] W λe M=>e= .returned (.bool (Cf X.data.toList (blk (BZ y))))/\W=M):=λW=>by
   have:=Om X ((⟨#[32]⟩:ByteArray)++y++(⟨#[32]⟩:ByteArray)) (by omega) (by rw[Ek];omega) W;rw[Gc]at this;exact this
  have HBw:=AA t.o;have hXne:X.data.toList≠[]:=by rw[q.o];exact hA3
  have HRp:Hid (∀W,AX AC 108 #[.string X,.string ((⟨#[32]⟩:ByteArray)++y++(⟨#[32]⟩:ByteArray)),.string ⟨#[32]⟩] W λe M=>e= .returned (.string ⟨(Km 2 X.data.toList (BZ y)).toArray⟩)/\AL W.heap.size W M):=λW=>by
   have:=I4 X ((⟨#[32]⟩:ByteArray)++y++(⟨#[32]⟩:ByteArray)) ⟨#[32]⟩ (by omega) (by rw[Ek];omega) (by rw[Ek];omega) (by rw[Ek];show 1<=_;omega) hXne (by simp) W;rw[Gc]at this;exact this
  have HRw:=AA (HRp.o wr);have HZ:Hid ((⟨(Km 2 X.data.toList (BZ y)).toArray⟩:ByteArray).data.toList=CX 2 (BZ (DQ l)) ((nm.map BZ).take (k+1))):=HNy.o _ (by simp);clear hA1 hA2 hA3 q t L hyb hyn H h hXne;go_wp2_with fail;refine HRw.o.mono ?_;rintro e w5 ⟨rfl,hb5⟩;have HB5:=AA (BT HBw.o hb5);clear hb5;go_wp2;go_roundw
  .exact⟨k+1,_,d,by go_num,rfl,HZ.o,HB5.o⟩
  simp[Aa];omega
 have ek:k=nm.length:=by omega
 subst ek;have hft:(nm.map BZ).take nm.length=nm.map BZ:=BP (by rw[HLm.o];omega);rw[hft]at hA1;have G:=q.o;rw[hft]at G;have HScl:=AA (HSc.o X (by rw[G];exact hA1) (by omega) ab cap I wr (HEB.o.below t.o));rw[G,<-HIx.o]at HScl;have HBf:Hid (NT F m wr):=HBg4.o.ag t.o (AE.1 HEB.o.blk).1;clear q t hA1 hA2 hA3 hft G;go_wp2_with fail;refine HScl.o.mono ?_;rintro e w6 ⟨rfl,hE6,hb6⟩;obtain⟨⟨st2,hI2⟩,hO2⟩:=Q.o w6 hE6 (HBf.o.two hb6);have HI2:=AA hI2;have HO2:=AA hO2;clear hE6 hb6 hI2 hO2;go_wp2;go_roundw
 .exact⟨i+1,st2,z,by go_num,HI2,HO2⟩
 simp[Aa];omega
theorem Lp(nm:List ByteArray)(hnm:nm≠[])(hN:∀x∈nm,IA (BZ x))(hsp:(Dv (nm.map BZ)).length<=5000000)(bk o c:Nat)(hc:nm.length<=c)(hxn:Y.Nodup)(hxl:Y.length<=100000)(hx:∀x∈Y,x<s.N/\(s.nd x).kind=3/\(s.nd x).attrs.length<=900/\(KD (s.nd x).attrs).size<=100000000/\Dc (BZ (DQ (s.nd x).attrs))/\(DQ (s.nd x).attrs).size<=100000002/\BZ (DQ (s.nd x).attrs)≠[]){C:Nat}{bl:Nat->Nat}(hP:Br s.F (λi=>i<s.N) s.nd B bl V w)(hBC:B<=C)(hC:C<=w.heap.size)(D g:Nat)(ee:Option Ai)(hsel:GJ bl Y D g ee w)
 (z:∀(j:Nat) x,nm[j]? =some x->w.cell? ⟨bk,o+j,none⟩=some (.string x))(hbk:bk<w.heap.size):
 AX AC 83 #[.pointer (some ⟨g,0,none⟩),.slice (some ⟨bk,o,none⟩) nm.length c] w (Bk g (Ew s.N B C bl w (DV (λl=>G9 l (CX 1 (BZ (DQ l)) (nm.map BZ))) s Y))):=by
 have Q:∀y∈nm.map BZ,IA y:=λy d=>by
  obtain⟨x,hx,rfl⟩:=BL.1 d;exact hN x hx
 obtain⟨J,hJ⟩:∃J:ByteArray,J=⟨(EE (nm.map BZ) [32]).toArray⟩:=⟨_,rfl⟩;have S:J.data.toList=EE (nm.map BZ) [32]:=by rw[hJ]
 have hJl:J.size<=5000000:=by
  have q:J.size=J.data.toList.length:=rfl;rw[q,S];have:=Me (nm.map BZ);omega
 obtain⟨hsl1,hsl2⟩:=L6 (nm.map BZ);rw[Aq]at hsl1;have H:Dc J.data.toList:=by rw[S];exact Md λy d=>Q y d
 have hJw:BG J.data.toList=nm.map BZ:=by rw[S];exact Js _ λy d=>(Q y d).cn
 obtain⟨T,hT⟩:∃T:ByteArray,T=⟨(Bi J.data.toList).toArray⟩:=⟨_,rfl⟩;have N:T.data.toList=Bi J.data.toList:=by rw[hT]
 have hTA:Dc T.data.toList:=by rw[N];exact N9 H (I7 _)
 have hTw:BG T.data.toList=nm.map BZ:=by rw[N,I6 H,hJw]
 have hTl:T.size<=5000000:=by
  have q:T.size=T.data.toList.length:=rfl;have:=Ke J.data.toList;have h3:J.size=J.data.toList.length:=rfl;rw[q,N];omega
 have hTe:T.toList.isEmpty=false:=by
  cases e:T.toList.isEmpty
  .rfl
  rw[BU,N,List.isEmpty_iff,IW H,hJw,List.map_eq_nil_iff]at e;exact absurd e hnm
 have F:AX AC 103 #[.slice (some ⟨bk,o,none⟩) nm.length c,.string ⟨#[32]⟩] w λe G=>e= .returned (.string J)/\AL w.heap.size w G:=by
  have:=Tryz.strings_Join bk o c nm ⟨#[32]⟩ w z hbk (by omega) hc (by
   have q:J.size=J.data.toList.length:=rfl;rw[S]at q;show(EE (nm.map BZ) [32]).length<=_;omega)
  rw[hJ];exact this
 have HJn:=AA F;have HTr:Hid (∀W,AX AC 102 #[.string J] W λe G=>e= .returned (.string T)/\AL W.heap.size W G):=λW=>by rw[hT];exact JW J H (by omega) W
 have HFl:Hid (∀W,AX AC 132 #[.string T] W (EG (nm.map BZ) W)):=λW=>by rw[<-hTw];exact It T hTA (by omega) W
 have HGs:Hid (∀W,AX AC 104 #[.string T] W (EG (nm.map BZ) W)):=λW=>Mv T (nm.map BZ) W (HFl.o W);obtain⟨a1,c1,L,hsb,hD,hown⟩:=hsel;have HI0:Hid (∀W,AL w.heap.size w W->LJ s B C bl w s Y D g a1 ee L c1 V W):=λW hb=>LJ.up ⟨PA.refl (n:=s.N) rfl hP,hsb,hown⟩ hb hC;have hxpos:0<nm.length:=Bg.2 hnm;have HN:=AA hN;have HXs:=AA hx;have HXn:=AA hxn;have HF:Hid (∀X k,Dc X->Dc (CX 1 X ((nm.map BZ).take k))/\(CX 1 X ((nm.map BZ).take k)).length<=X.length+5000000/\(X≠[]->CX 1 X ((nm.map BZ).take k)≠[])):=λX k hX=>by
  obtain⟨b1,b2,b3⟩:=Ga (how:=1) (ns:=(nm.map BZ).take k) hX (λy d=>(Q y (Ci d)).asc);have h1:=Ka (nm.map BZ) k;exact⟨b1,by omega,b3⟩
 have HYs:Hid (∀y∈nm,y.size<=5000000):=λy d=>by
  have h1:=hsl2 (BZ y) (BK d);have q:y.size=(BZ y).length:=rfl;omega
 have hnl:nm.length<=5000000:=by omega
 clear F z hP hsb hown hN Q hx hxn hsl1 hsl2 H hJw hTA hTw N S hT hJ hsp;go_enter func83,ntmps83;go_wp2_with fail;refine HJn.o.mono ?_;rintro e w1 ⟨rfl,hb1⟩;have HB1:=AA hb1;have HTr1:=AA (HTr.o w1);clear hb1;go_wp2_with fail;refine HTr1.o.mono ?_;rintro e w2 ⟨rfl,hb2⟩;have HB2:=AA (BT HB1.o hb2);have HGs2:=AA (HGs.o w2);clear hb2;go_wp2_with fail;refine HGs2.o.mono ?_;rintro e w3 ⟨at_,ct,rfl,M,hb3⟩;have HB3:=AA (BT HB2.o hb3);have HO3:=AA M;clear hb3 M;obtain⟨z0,-,-⟩:=(HI0.o w3 HB3.o).sel.cells;go_wp2;go_loopw [27] (λv wr=>∃(i:Nat) (a:Nat->Dn),i<=Y.length/\v= .int .i64 i/\Hid (LJ s B C bl w (DV (λl=>G9 l (CX 1 (BZ (DQ l)) (nm.map BZ))) s (Y.take i)) Y D g a1 ee L c1 a wr)/\Hid (wr.ownsRow w2.heap.size 9 1 (.slice at_ (nm.map BZ).length ct) (nm.map BZ).length (strs (nm.map BZ)))) (λv _=>Y.length-(Aa v).toNat)
 .exact⟨0,V,AY _,rfl,HI0.o w3 HB3.o,HO3.o⟩
 obtain⟨i,a,hi,rfl,hI,hO⟩:=hrel;obtain⟨E,rfl⟩:∃W:AB,W=wr:=⟨_,rfl⟩;clear z0;by_cases I:i<Y.length
 case neg=>
  have e:i=Y.length:=by omega
  subst e;have HFin:Hid (Ew s.N B C bl w (DV (λl=>G9 l (CX 1 (BZ (DQ l)) (nm.map BZ))) s Y) E):=by
   have:=hI.o.pa;rw[AU]at this;exact⟨bl,a,this⟩
  clear hI hO;go_wp2;go_ret;exact⟨rfl,HFin.o⟩
 obtain⟨b0,o0,rfl,hbB,hcR⟩:=hI.o.aS.at_ (by rw[AM];omega);have g1:=hcR i (by rw[AM];exact I);rw[A5 I]at g1;obtain⟨q1,q2,q3,q4,q5,q6,q7⟩:=HXs.o Y[i] (AD I);obtain⟨e1,e2⟩:=Hf (f:=λl=>G9 l (CX 1 (BZ (DQ l)) (nm.map BZ))) (s:=s) HXn.o I;obtain⟨k1,k2,k3⟩:=Ej (f:=λl=>G9 l (CX 1 (BZ (DQ l)) (nm.map BZ))) (Y.take i) s;have hE:=hI.o.pa.prog.aY (x:=Y[i]) (by rw[k2];exact q1) (by rw[e2];exact q2);rw[e2]at hE;have h5:(P8 bl (a Y[i]))[5]? =some (.int .u32 3):=by
  have hty:(a Y[i]).typ=3:=by
   rw[(hI.o.pa.prog.self Y[i] (by rw[k2];exact q1)).typ,e2,q2];rfl
  show some (Value.int .u32 (a Y[i]).typ)=_;rw[hty]
 have hBr:B<=E.heap.size:=AH hBC (AH hC hI.o.pa.turn.size);have et:Hid (∀W2,J0 (P8 bl (a Y[i])) B (G9 (s.nd Y[i]).attrs (CX 1 (BZ (DQ (s.nd Y[i]).attrs)) (nm.map BZ))) (bl Y[i]) W2->NT (bl Y[i]) E W2->(∃st2,LJ s B C bl w (DV (λl=>G9 l (CX 1 (BZ (DQ l)) (nm.map BZ))) s (Y.take (i+1))) Y D g (some ⟨b0,o0,none⟩) ee L c1 st2 W2)/\W2.ownsRow w2.heap.size 9 1 (.slice at_ (nm.map BZ).length ct) (nm.map BZ).length (strs (nm.map BZ))):=λW2 h1 q=>by
  refine⟨?_,NT.own hE q hO.o (by decide) (by decide)⟩;rw[e1];exact hI.o.next hC k2 q1 (by rw[e2];exact q2) h1 q
 obtain⟨l,hl⟩:∃l,l=(s.nd Y[i]).attrs:=⟨_,rfl⟩;rw[<-hl]at hE et q3 q4 q5 q6 q7;obtain⟨hd,hhd⟩:∃hd,hd=P8 bl (a Y[i]):=⟨_,rfl⟩;rw[<-hhd]at hE et h5;obtain⟨P,hpb⟩:∃P,P=bl Y[i]:=⟨_,rfl⟩;rw[<-hpb]at g1 et hE;have HGc3:=AA (Fi l q3 (by omega) P E h5 hBr hE);have HBk:Hid (∃cs,E.heap[P]? =some (.cells cs 101 (0,0))):=by
  obtain⟨_,aa,ac,hblk,_⟩:=hE;exact⟨_,hblk⟩
 have HSc:Hid (∀X:ByteArray,Dc X.data.toList->X.size<=2147483647->∀ab cap R W,Je hd B (GP l) P ab cap R W->AX AC 107 #[.pointer (some ⟨P,0,none⟩),.pointer (some ⟨ab,B8 (GP l) FD*3,none⟩),.string X] W λe G=>e= .returned (.tuple #[])/\J0 hd B (G9 l X.data.toList) P G/\NT P W G):=λX h1 q ab cap R W h3=>F9 l q3 X h1 q P ab cap R W h3;have HStA:Hid (∀k,Dc (CX 1 (BZ (DQ l)) ((nm.map BZ).take k))/\(CX 1 (BZ (DQ l)) ((nm.map BZ).take k)).length<=100000002+5000000/\CX 1 (BZ (DQ l)) ((nm.map BZ).take k)≠[]):=λk=>by
  obtain⟨f1,f2,f3⟩:=HF.o (BZ (DQ l)) k q5;have q:(BZ (DQ l)).length=(DQ l).size:=rfl;exact⟨f1,by omega,f3 q7⟩
 have HO:=AA hO.o;clear hcR e1 e2 k1 k2 k3 hhd hpb hl hI hE h5 q2 q5 q7;go_wp2_with fail;refine HGc3.o.mono ?_;rintro e w4 ⟨ab,cap,R,rfl,hB4,hbg4,U⟩;have HEB:=AA hB4;have HBg4:=AA hbg4;have HOk:=AA U;obtain⟨ix,hix⟩:∃ix,ix=B8 (GP l) FD*3:=⟨_,rfl⟩;rw[<-hix];have HIx:=AA hix;have HRow:Hid (∀i,(hi:i<(nm.map BZ).length)->∃b,at_=some ⟨b,0,none⟩/\b<w4.heap.size/\w4.cell? ⟨b,i,none⟩=some (.string ⟨(nm.map BZ)[i].toArray⟩)):=λi hi=>Mo HO.o U HBk.o i hi;have hXA0:CX 1 (BZ (DQ l)) ((nm.map BZ).take 0)=(DQ l).data.toList:=rfl;have HX0:=AA hXA0;have hlm:(nm.map BZ).length=nm.length:=Aq _;have HLm:=AA hlm;try rw[hlm]
 clear hB4 hbg4 U hix hXA0 hlm hO g1;go_wp2;go_loopw [9,38] (λxv v wr=>∃(k:Nat) (X:ByteArray),k<=nm.length/\v= .int .i64 k/\xv= .string X/\Hid (X.data.toList=CX 1 (BZ (DQ l)) ((nm.map BZ).take k))/\Hid (AL w4.heap.size w4 wr)) (λ_ v _=>nm.length-(Aa v).toNat)
 .exact⟨0,DQ l,by omega,rfl,rfl,HX0.o.symm,AW _ _⟩
 obtain⟨k,X,hk,rfl,rfl,O,t⟩:=hrel;obtain⟨hA1,hA2,hA3⟩:=HStA.o k;have hXz:X.size<=100000002+5000000:=by
  have q:X.size=X.data.toList.length:=rfl;rw[q,O.o];exact hA2
 by_cases r:k<nm.length
 .have hk2:k<(nm.map BZ).length:=by rw[HLm.o];exact r
  obtain⟨b,hab,hbl,m⟩:=HRow.o k hk2;cases hab
  have eo:=(t.o.cell (p:=⟨b,k,none⟩) hbl).trans m;obtain⟨y,d⟩:∃y:ByteArray,y=nm[k]:=⟨_,rfl⟩;have hyb:(⟨((nm.map BZ)[k]'hk2).toArray⟩:ByteArray)=y:=by rw[d];simp[BZ]
  rw[hyb]at eo;have hyn:=HN.o y (by rw[d];exact AD r);have hys:=HYs.o y (by rw[d];exact AD r);have u:(nm.map BZ).take (k+1)=(nm.map BZ).take k++[BZ y]:=by
   rw[AF hk2];simp[d]
  have HNy:Hid (∀Z:ByteArray,Z.data.toList=Km 1 X.data.toList (BZ y)->Z.data.toList=CX 1 (BZ (DQ l)) ((nm.map BZ).take (k+1))):=λZ hZ=>by
   rw[u,Kq,<-O.o];exact hZ
  have HCon:Hid (∀W,AX AC 106 #[.string X,.string ((⟨#[32]⟩:ByteArray)++y++(⟨#[32]⟩:ByteArray))] W λe G=>e= .returned (.bool (Cf X.data.toList (blk (BZ y))))/\W=G):=λW=>by
   have:=Om X ((⟨#[32]⟩:ByteArray)++y++(⟨#[32]⟩:ByteArray)) (by omega) (by rw[Ek];omega) W;rw[Gc]at this;exact this
  have HBw:=AA t.o;have ea:=AA (HCon.o wr);cases h:Cf X.data.toList (blk (BZ y))
  .rw[h]at ea;have HZ:Hid ((X++(y++(⟨#[32]⟩:ByteArray))).data.toList=CX 1 (BZ (DQ l)) ((nm.map BZ).take (k+1))):=HNy.o _ (by
    have e:Km 1 X.data.toList (BZ y)=X.data.toList++BZ y++[32]:=by unfold Km I5;rw[AI (by decide),AJ rfl,h];rfl
    rw[e];simp[BZ])
   clear hA1 hA2 hA3 O t m hyb hyn u h d;go_wp2_with fail;refine ea.o.mono ?_;rintro e w5 ⟨rfl,rfl⟩;go_wp2;go_roundw
   .exact⟨k+1,_,r,by go_num,rfl,HZ.o,HBw.o⟩
   simp[Aa];omega
  rw[h]at ea;have hXne:X.data.toList≠[]:=λe=>by
   rw[e]at h;obtain⟨A,B,e2⟩:=(FP _ _).1 h;have:=congrArg Dw e2;simp[blk]at this
  have HRp:Hid (∀W,AX AC 108 #[.string X,.string ((⟨#[32]⟩:ByteArray)++y++(⟨#[32]⟩:ByteArray)),.string ⟨#[32]⟩] W λe G=>e= .returned (.string ⟨(Km 1 X.data.toList (BZ y)).toArray⟩)/\AL W.heap.size W G):=λW=>by
   have:=I4 X ((⟨#[32]⟩:ByteArray)++y++(⟨#[32]⟩:ByteArray)) ⟨#[32]⟩ (by omega) (by rw[Ek];omega) (by rw[Ek];omega) (by rw[Ek];show 1<=_;omega) hXne (by simp) W;rw[Gc]at this;have e:Km 1 X.data.toList (BZ y)=Gj (blk (BZ y)) [32] (X.size+1) X.data.toList:=by
    unfold Km I5;rw[AI (by decide),AJ rfl,h];rfl
   rw[e];exact this
  have HRw:=AA (HRp.o wr);have HZ:Hid ((⟨(Km 1 X.data.toList (BZ y)).toArray⟩:ByteArray).data.toList=CX 1 (BZ (DQ l)) ((nm.map BZ).take (k+1))):=HNy.o _ (by simp);clear hA1 hA2 hA3 O t m hyb hyn u h d hXne;go_wp2_with fail;refine ea.o.mono ?_;rintro e w5 ⟨rfl,rfl⟩;go_wp2_with fail;refine HRw.o.mono ?_;rintro e w5 ⟨rfl,hb5⟩;have HB5:=AA (BT HBw.o hb5);clear hb5;go_wp2;go_roundw
  .exact⟨k+1,_,r,by go_num,rfl,HZ.o,HB5.o⟩
  simp[Aa];omega
 have ek:k=nm.length:=by omega
 subst ek;have hft:(nm.map BZ).take nm.length=nm.map BZ:=BP (by rw[HLm.o];omega);rw[hft]at hA1;have K:=O.o;rw[hft]at K;have HScl:=AA (HSc.o X (by rw[K];exact hA1) (by omega) ab cap R wr (HEB.o.below t.o));rw[K,<-HIx.o]at HScl;have HBf:Hid (NT P E wr):=HBg4.o.ag t.o (AE.1 HEB.o.blk).1;clear O t hA1 hA2 hA3 hft K;go_wp2_with fail;refine HScl.o.mono ?_;rintro e w6 ⟨rfl,hE6,hb6⟩;obtain⟨⟨st2,hI2⟩,hO2⟩:=et.o w6 hE6 (HBf.o.two hb6);have HI2:=AA hI2;have HO2:=AA hO2;clear hE6 hb6 hI2 hO2;go_wp2;go_roundw
 .exact⟨i+1,st2,I,by go_num,HI2,HO2⟩
 simp[Aa];omega
structure PG(r:Nat)(s:bY):Prop where
 fst:Df r s
 nds:∀i,i<s.N->G' (s.nd i)/\(CU (s.nd i)).length<=2000
def Lj(s:bY)(xs:List Nat):Prop:=∀x∈xs,(s.nd x).kind=3/\(s.nd x).attrs.length<=900
def QB(s:bY)(xs:List Nat)(nm:List ByteArray):Prop:=nm≠[]/\(∀x∈nm,IA (BZ x))/\(Dv (nm.map BZ)).length<=5000000/\
 ∀x∈xs,(KD (s.nd x).attrs).size<=100000000/\Dc (BZ (DQ (s.nd x).attrs))/\(DQ (s.nd x).attrs).size<=100000002/\BZ (DQ (s.nd x).attrs)≠[]
inductive Et(s:bY)(xs ws:List Nat)(ky vl:ByteArray)(nm:List ByteArray):Int->bY->Prop
 |p1:Dl 1 s xs ws->(Bl 1 s xs ws xs.length).op=false->Et s xs ws ky vl nm 1 (Bl 1 s xs ws xs.length)
 |p2:Dl 2 s xs ws->(CV 2 s xs ws xs.length).op=false->Et s xs ws ky vl nm 2 (CV 2 s xs ws xs.length)
 |p3:Dl 3 s xs ws->(CV 3 s xs ws xs.length).op=false->Et s xs ws ky vl nm 3 (CV 3 s xs ws xs.length)
 |p4:Dl 4 s xs ws->(Bl 4 s xs ws xs.length).op=false->Et s xs ws ky vl nm 4 (Bl 4 s xs ws xs.length)
 |p5:Dl 3 s xs ws->(CV 3 s xs ws xs.length).op=false->(∃h,(CV 3 s xs ws xs.length).F.Ok (λi=>i<(CV 3 s xs ws xs.length).N) h)->s.N<=(CV 3 s xs ws xs.length).N->Et s xs ws ky vl nm 5 (LZ s xs ws)
 |p6:Et s xs ws ky vl nm 6 {s with F:=CB s.F xs}
 |p7:Et s xs ws ky vl nm 7 {s with F:=B_ s.F xs}
 |p8:(∀x∈xs,Fe s x)->Et s xs ws ky vl nm 8 (E5 s (Cm s.F xs))
 |p9 (wi:Nat) (s2:bY):ws=[wi]->EX s wi (xs.map λx=>[x]) s2->s2.op=false->Et s xs ws ky vl nm 9 s2
 |p10 (wi:Nat):ws=[wi]->J1 s xs wi->(C5 s (xs.headD 0) wi).op=false->Et s xs ws ky vl nm 10 (GO s xs wi)
 |p11 (wi:Nat) (s2:bY):ws=[wi]->EX s wi (xs.map s.F.kids) s2->s2.op=false->Et s xs ws ky vl nm 11 s2
 |p12:Lj s xs->Et s xs ws ky vl nm 12 (DV (λl=>Cu l ky vl) s xs)
 |p13:Lj s xs->Et s xs ws ky vl nm 13 (DV (λl=>F7 l ky) s xs)
 |p14:Lj s xs->QB s xs nm->Et s xs ws ky vl nm 14 (DV (λl=>G9 l (CX 0 (BZ (DQ l)) (nm.map BZ))) s xs)
 |p15:Lj s xs->QB s xs nm->Et s xs ws ky vl nm 15 (DV (λl=>G9 l (CX 2 (BZ (DQ l)) (nm.map BZ))) s xs)
 |p16:Lj s xs->QB s xs nm->Et s xs ws ky vl nm 16 (DV (λl=>G9 l (CX 1 (BZ (DQ l)) (nm.map BZ))) s xs)
def W_(w:AB)(g:Nat)(V:Array AS)(Q:AB->Prop):Prop:=AX AC 50 #[.pointer (some ⟨g,0,none⟩),.agg V] w (λe t=>e= .returned (.bool true)/\Q t)
def W9(w:AB)(g:Nat)(V:Array AS):Prop:=AX AC 50 #[.pointer (some ⟨g,0,none⟩),.agg V] w (λe t=>e= .returned (.bool false)/\AL w.heap.size w t)
def TU(w:AB)(g:Nat)(V:Array AS)(a:Option Ai)(m c:Nat)(Q:AB->Prop):Prop:=AX AC 51 #[.pointer (some ⟨g,0,none⟩),.agg V,.slice a m c] w (λe t=>e= .returned (.bool true)/\Q t)
def DS(w:AB)(g:Nat)(V:Array AS)(a:Option Ai)(m c:Nat)(Q:AB->Prop):Prop:=
 W_ w g V Q\/(W9 w g V/\∀e,AL w.heap.size w e->TU e g V a m c Q)
theorem Ew.back{C:Nat}{a:AB}{s2:bY}(o:s.N=n)(d:Br s.F (λi=>i<s.N) s.nd B Z V w)(r:AL w.heap.size w a)(l:C<=w.heap.size)(h:Ew n B C Z a s2 M):Ew n B C Z w s2 M:=by
 obtain⟨t,e,h⟩:=h;have u:=(PA.refl (C:=C) o d).up r l;subst o;exact⟨t,e,u.trans h (AG _)⟩
structure Kl(s:bY)(xs ws:List Nat)(B C:Nat)(bl:Nat->Nat)(st:Nat->Dn)(D g:Nat)(doc:Option Ai)(a:Option Ai)(c:Nat)(nm:List ByteArray)(la:Option Ai)(w:AB):Prop where
 prog:Br s.F (λi=>i<s.N) s.nd B bl st w
 le:C<=w.heap.size
 sel:Fw bl xs D g doc w
 row:w.ownsRow C 70 1 (.slice a ws.length c) ws.length (Ad bl ws)
 dis:∀b,(AO a ws.length c).ownBlock=some b->b<D
 names:B6 w w.heap.size la (nm.map Value.string)
theorem Kl.up{C:Nat}{D:Nat}{nm:List ByteArray}{la:Option Ai}{o:AB}(h:Kl s Y J B C Z V D g L a c nm la w)(e:AL w.heap.size w o):Kl s Y J B C Z V D g L a c nm la o:=by
 refine⟨h.prog.kept e,AH h.le e.size,h.sel.kept e,BB h.row (λb _ t=>e.block b t),h.dis,h.names.up e⟩
theorem Kl.gb{C:Nat}{D:Nat}{nm:List ByteArray}{la:Option Ai}(h:Kl s Y J B C Z V D g L a c nm la w)(h0:J≠[]):
 ∃gb,a=some ⟨gb,0,none⟩/\C<=gb/\gb<D/\w.cell? ⟨gb,0,none⟩=some (.pointer (some ⟨Z (J.headD 0),0,none⟩))/\gb<w.heap.size:=by
 have n:=Bg.2 h0;rcases h.row.2 with⟨-,e⟩|⟨gb,cap,t,e,e1,e2,m,u,l,i⟩
 .omega
 injection e with o d r;subst o;refine⟨gb,rfl,e1,h.dis gb rfl,?_,(AE.1 e2).1⟩;rw[AZ w gb 0 _ _ _ e2];have q:(t.toList.take (J.length*1))[0]? =(Ad Z J)[0]? :=by rw[i]
 rw[List.getElem?_take,AJ (by omega),Array.getElem?_toList]at q;obtain⟨x,Y,rfl⟩:∃x Y,J=x::Y:=by cases J with|nil=>exact absurd rfl h0|cons x Y=>exact⟨x,Y,rfl⟩
 rw[q];rfl
theorem LA{e:Nat}{xs:List AS}(h:w.ownsRow A e k (.slice a n c) n xs){gb:Nat}(t:gb<A):(AO a n c).ownBlock≠some gb:=λq=>by
 have:=(h.lt gb q).1;omega
theorem Br.k5{B:Nat}{bl:Nat->Nat}{st:Nat->Dn}{w:AB}(h:Br F S H B bl st w)(hx:S x)(e:(H x).kind=3):w.cell? ⟨bl x,5,none⟩=some (.int .u32 3):=by
 obtain⟨-,aa,ac,t,-⟩:=h.dom.node x hx;rw[AZ w _ _ _ _ _ t];show some (Value.int .u32 _)=_;have q:=(h.self x hx).typ;rw[e]at q;rw[q];rfl
section
variable {r:Nat} {s:bY} {xs ws:List Nat} {ky vl:ByteArray} {nm:List ByteArray} {B C:Nat} {bl:Nat->Nat} {st:Nat->Dn} {D g:Nat} {doc a la:Option Ai} {c lc:Nat} {w:AB}
theorem Gi{s2:bY}{V:Array AS}{on wi i:AS}(l:V=BW U on wi ky vl i)(o:U≠12/\U≠13/\U≠14/\U≠15/\U≠16)(S:Kl s xs ws B C bl st D g doc a c nm la w)
 (h:∀t,Kl s xs ws B C bl st D g doc a c nm la t->TU t g V a ws.length c (Ew s.N B C bl t s2)):DS w g V a ws.length c (Ew s.N B C bl w s2):=by
 subst l;exact .inr ⟨Qk w g U on wi i ky vl o,λd n=>(h d (S.up n)).mono λe u k=>⟨k.1,Ew.back rfl S.prog n S.le k.2⟩⟩
theorem Bk.back(S:Kl s xs ws B C bl st D g doc a c nm la w){t:AB}(o:AL w.heap.size w t){s2:bY}{e:Bx}(h:Bk g (Ew s.N B C bl t s2) e N):Bk g (Ew s.N B C bl w s2) e N:=
 h.mono λ_ k=>Ew.back rfl S.prog o S.le k
theorem RQ(S:Kl s xs ws B C bl st D g doc a c nm la w)(f:PG r s)(hx:∀x∈xs,x<r)(l:xs.length<=100000)(u:Lj s xs):
 ∀t,AL w.heap.size w t->AX AC 80 #[.pointer (some ⟨g,0,none⟩)] t (λe w'=>e= .returned (.bool true)/\w'=t):=by
 intro t m;have o:=S.up m;obtain⟨p,c1,i,d,b,n⟩:=o.sel.toW;obtain⟨v,c2,e,e2,y⟩:=B6.own n;cases e
 exact Vo g xs bl p c1 l t d.cells.1 y λx h=>o.prog.k5 (AR (hx x h) f.fst.le) (u x h).1
theorem Bk.Y2(S:Kl s xs ws B C bl st D g doc a c nm la w){e:AB}(t:AL w.heap.size w e){s2:bY}{f:FuncId}{vs:Array AS}(h:Kl s xs ws B C bl st D g doc a c nm la e->AX AC f vs e (Bk g (Ew s.N B C bl e s2))):AX AC f vs e (Bk g (Ew s.N B C bl w s2)):=
 (h (S.up t)).mono λ_ _ k=>Bk.back S t k
theorem YW(e:PG r s)(hx:∀x∈xs,x<r)(p:∀x∈ws,x<r)(t:xs.Nodup)(d:ws.Nodup)(n:xs≠[])(f:B<=C)(S:Kl s xs ws B C bl st D g doc a c nm la w)(on wi:AS)(b:Dl 1 s xs ws)(u:(Bl 1 s xs ws xs.length).op=false):
 DS w g (BW 1 on wi ky vl (.slice la nm.length lc)) a ws.length c (Ew s.N B C bl w (Bl 1 s xs ws xs.length)):=by
 have hr:=e.fst.le;have l:=e.fst.r2;have j:∀x∈xs,x<s.N:=λx h=>AR (hx x h) hr;have q:xs.length<=200:=AH (BH t hx) l;have z:∀i,i<s.N->G' (s.nd i):=λi h=>(e.nds i h).1;have m:∀i,i<s.N->(CU (s.nd i)).length<=2000:=λi h=>(e.nds i h).2;refine Gi rfl (by decide) S λy k=> ?_;exact V3 y g on wi _ ky vl a _ c λE v=>Bk.Y2 k v (λo=>X' e.fst m hx p t d n b u o.prog f o.le D g doc o.sel.toW a c o.row)
theorem YZ(e:PG r s)(hx:∀x∈xs,x<r)(p:∀x∈ws,x<r)(t:xs.Nodup)(d:ws.Nodup)(n:xs≠[])(f:B<=C)(S:Kl s xs ws B C bl st D g doc a c nm la w)(on wi:AS)(b:Dl 4 s xs ws)(u:(Bl 4 s xs ws xs.length).op=false):
 DS w g (BW 4 on wi ky vl (.slice la nm.length lc)) a ws.length c (Ew s.N B C bl w (Bl 4 s xs ws xs.length)):=by
 have hr:=e.fst.le;have l:=e.fst.r2;have j:∀x∈xs,x<s.N:=λx h=>AR (hx x h) hr;have q:xs.length<=200:=AH (BH t hx) l;have z:∀i,i<s.N->G' (s.nd i):=λi h=>(e.nds i h).1;have m:∀i,i<s.N->(CU (s.nd i)).length<=2000:=λi h=>(e.nds i h).2;refine Gi rfl (by decide) S λy k=> ?_;exact V6 y g on wi _ ky vl a _ c λE v=>Bk.Y2 k v (λo=>YA e.fst m hx p t d n b u o.prog f o.le D g doc o.sel.toW a c o.row)
theorem YX(o:PG r s)(hx:∀x∈xs,x<r)(A:∀x∈ws,x<r)(n:xs.Nodup)(f:ws.Nodup)(m:xs≠[])(k:B<=C)(S:Kl s xs ws B C bl st D g doc a c nm la w)(on wi:AS)(j:Dl 2 s xs ws)(p:(CV 2 s xs ws xs.length).op=false):
 DS w g (BW 2 on wi ky vl (.slice la nm.length lc)) a ws.length c (Ew s.N B C bl w (CV 2 s xs ws xs.length)):=by
 have hr:=o.fst.le;have y:=o.fst.r2;have u:∀x∈xs,x<s.N:=λx h=>AR (hx x h) hr;have R:xs.length<=200:=AH (BH n hx) y;have b:∀i,i<s.N->G' (s.nd i):=λi h=>(o.nds i h).1;have v:∀i,i<s.N->(CU (s.nd i)).length<=2000:=λi h=>(o.nds i h).2;refine Gi rfl (by decide) S λE z=> ?_;refine V4 E g on wi _ ky vl a _ c λU O=>Bk.Y2 z O (λt=> ?_)
 clear z S b u;obtain⟨gb,rfl,N,I,Y,W⟩:=t.gb j.1;obtain⟨H,c1,d,T,F,q⟩:=t.sel.toW;obtain⟨L,l⟩:=KQ t.row;exact(Vz o.fst v hx A n f m j p t.prog (AH k t.le) g doc d H c1 D T q gb (LA q I) c t.row).mono λe M h=>h.pa rfl t.prog l t.le N
theorem YY(o:PG r s)(hx:∀x∈xs,x<r)(A:∀x∈ws,x<r)(n:xs.Nodup)(f:ws.Nodup)(m:xs≠[])(k:B<=C)(S:Kl s xs ws B C bl st D g doc a c nm la w)(on wi:AS)(j:Dl 3 s xs ws)(p:(CV 3 s xs ws xs.length).op=false):
 DS w g (BW 3 on wi ky vl (.slice la nm.length lc)) a ws.length c (Ew s.N B C bl w (CV 3 s xs ws xs.length)):=by
 have hr:=o.fst.le;have y:=o.fst.r2;have u:∀x∈xs,x<s.N:=λx h=>AR (hx x h) hr;have R:xs.length<=200:=AH (BH n hx) y;have b:∀i,i<s.N->G' (s.nd i):=λi h=>(o.nds i h).1;have v:∀i,i<s.N->(CU (s.nd i)).length<=2000:=λi h=>(o.nds i h).2;refine Gi rfl (by decide) S λE z=> ?_;refine V5 E g on wi _ ky vl a _ c λU O=>Bk.Y2 z O (λt=> ?_)
 clear z S b u;obtain⟨gb,rfl,N,I,Y,W⟩:=t.gb j.1;obtain⟨H,c1,d,T,F,q⟩:=t.sel.toW;obtain⟨L,l⟩:=KQ t.row;exact(Ra o.fst v hx A n f m j p t.prog (AH k t.le) g doc d H c1 D T q gb (LA q I) c t.row).mono λe M h=>h.pa rfl t.prog l t.le N
theorem Ya(t:PG r s)(hx:∀x∈xs,x<r)(I:∀x∈ws,x<r)(o:xs.Nodup)(u:ws.Nodup)(l:xs≠[])(k:B<=C)(S:Kl s xs ws B C bl st D g doc a c nm la w)(on wi:AS)(j:Dl 3 s xs ws)(f:(CV 3 s xs ws xs.length).op=false)(y:∃h,(CV 3 s xs ws xs.length).F.Ok (λi=>i<(CV 3 s xs ws xs.length).N) h)(b:s.N<=(CV 3 s xs ws xs.length).N):
 DS w g (BW 5 on wi ky vl (.slice la nm.length lc)) a ws.length c (Ew s.N B C bl w (LZ s xs ws)):=by
 have hr:=t.fst.le;have m:=t.fst.r2;have d:∀x∈xs,x<s.N:=λx h=>AR (hx x h) hr;have U:xs.length<=200:=AH (BH o hx) m;have p:∀i,i<s.N->G' (s.nd i):=λi h=>(t.nds i h).1;have v:∀i,i<s.N->(CU (s.nd i)).length<=2000:=λi h=>(t.nds i h).2;refine Gi rfl (by decide) S λT z=> ?_;refine V7 T g on wi _ ky vl a _ c λF N=>Bk.Y2 z N (λe=> ?_)
 clear z S p d;obtain⟨gb,rfl,R,H,Y,W⟩:=e.gb j.1;obtain⟨L,c1,n,O,A,q⟩:=e.sel.toW;obtain⟨M,E⟩:=KQ e.row;exact YB t.fst v hx I o u l j f y b e.prog k e.le g doc n L c1 D O A q gb R (LA q H) c e.row
theorem Yb(e:PG r s)(hx:∀x∈xs,x<r)(j:∀x∈ws,x<r)(o:xs.Nodup)(p:ws.Nodup)(y:xs≠[])(k:B<=C)(S:Kl s xs ws B C bl st D g doc a c nm la w)(on wi:AS):
 DS w g (BW 6 on wi ky vl (.slice la nm.length lc)) a ws.length c (Ew s.N B C bl w ({s with F:=CB s.F xs})):=by
 have hr:=e.fst.le;have d:=e.fst.r2;have n:∀x∈xs,x<s.N:=λx h=>AR (hx x h) hr;have f:xs.length<=200:=AH (BH o hx) d;have b:∀i,i<s.N->G' (s.nd i):=λi h=>(e.nds i h).1;have v:∀i,i<s.N->(CU (s.nd i)).length<=2000:=λi h=>(e.nds i h).2;refine Gi rfl (by decide) S λl m=> ?_;exact V8 l g on wi _ ky vl a _ c λq u=>Bk.Y2 m u (λt=>Wt e.fst n (by omega) t.prog t.le D g doc t.sel.toW)
theorem Yd(e:PG r s)(hx:∀x∈xs,x<r)(z:∀x∈ws,x<r)(o:xs.Nodup)(q:ws.Nodup)(k:xs≠[])(m:B<=C)(S:Kl s xs ws B C bl st D g doc a c nm la w)(on wi:AS)(y:∀x∈xs,Fe s x):
 DS w g (BW 8 on wi ky vl (.slice la nm.length lc)) a ws.length c (Ew s.N B C bl w (E5 s (Cm s.F xs))):=by
 have hr:=e.fst.le;have d:=e.fst.r2;have n:∀x∈xs,x<s.N:=λx h=>AR (hx x h) hr;have v:xs.length<=200:=AH (BH o hx) d;have l:∀i,i<s.N->G' (s.nd i):=λi h=>(e.nds i h).1;have u:∀i,i<s.N->(CU (s.nd i)).length<=2000:=λi h=>(e.nds i h).2;refine Gi rfl (by decide) S λf b=> ?_;exact V_ f g on wi _ ky vl a _ c λj p=>Bk.Y2 b p (λt=>YD e.fst l u (by omega) (λx h=>⟨n x h,y x h⟩) t.prog m t.le D g doc t.sel.toW)
theorem Ye(e:PG r s)(hx:∀x∈xs,x<r)(z:∀x∈ws,x<r)(o:xs.Nodup)(H:ws.Nodup)(N:xs≠[])(b:B<=C)(S:Kl s xs ws B C bl st D g doc a c nm la w)(on wi:AS)(y:Nat)(s2:bY)(j:ws=[y])(T:EX s y (xs.map λx=>[x]) s2)(u:s2.op=false):
 DS w g (BW 9 on wi ky vl (.slice la nm.length lc)) a ws.length c (Ew s.N B C bl w (s2)):=by
 have hr:=e.fst.le;have l:=e.fst.r2;have n:∀x∈xs,x<s.N:=λx h=>AR (hx x h) hr;have I:xs.length<=200:=AH (BH o hx) l;have m:∀i,i<s.N->G' (s.nd i):=λi h=>(e.nds i h).1;have p:∀i,i<s.N->(CU (s.nd i)).length<=2000:=λi h=>(e.nds i h).2;refine Gi rfl (by decide) S λq v=> ?_;subst j;obtain⟨gb,rfl,U,L,O,A⟩:=v.gb (by simp);have d:y<s.N:=AR (z y (by simp)) hr;exact V' q g on wi _ ky vl gb 0 c _ O A λk E=>Wh k g on wi _ ky vl _ λR f=>Bk.Y2 v (BT E f) (λt=>YE e.fst p m (by omega) n d T u t.prog b t.le D g doc t.sel.toW)
theorem Xy(e:PG r s)(hx:∀x∈xs,x<r)(q:∀x∈ws,x<r)(o:xs.Nodup)(N:ws.Nodup)(I:xs≠[])(f:B<=C)(S:Kl s xs ws B C bl st D g doc a c nm la w)(on wi:AS)(y:Nat)(k:ws=[y])(z:J1 s xs y)(d:(C5 s (xs.headD 0) y).op=false):
 DS w g (BW 10 on wi ky vl (.slice la nm.length lc)) a ws.length c (Ew s.N B C bl w (GO s xs y)):=by
 have hr:=e.fst.le;have n:=e.fst.r2;have O:∀x∈xs,x<s.N:=λx h=>AR (hx x h) hr;have A:xs.length<=200:=AH (BH o hx) n;have l:∀i,i<s.N->G' (s.nd i):=λi h=>(e.nds i h).1;have m:∀i,i<s.N->(CU (s.nd i)).length<=2000:=λi h=>(e.nds i h).2;refine Gi rfl (by decide) S λv p=> ?_;subst k;obtain⟨gb,rfl,U,L,T,E⟩:=p.gb (by simp);have H:y<s.N:=AR (q y (by simp)) hr;exact UY v g on wi _ ky vl gb 0 c _ T E λb j=>VF b g on wi _ ky vl _ λR u=>Bk.Y2 p (BT j u) (λt=>Qx e.fst m l z d t.prog f t.le D g doc t.sel.toW)
theorem Xz(e:PG r s)(hx:∀x∈xs,x<r)(z:∀x∈ws,x<r)(t:xs.Nodup)(H:ws.Nodup)(N:xs≠[])(b:B<=C)(S:Kl s xs ws B C bl st D g doc a c nm la w)(on wi:AS)(y:Nat)(s2:bY)(j:ws=[y])(T:EX s y (xs.map s.F.kids) s2)(u:s2.op=false):
 DS w g (BW 11 on wi ky vl (.slice la nm.length lc)) a ws.length c (Ew s.N B C bl w (s2)):=by
 have hr:=e.fst.le;have l:=e.fst.r2;have n:∀x∈xs,x<s.N:=λx h=>AR (hx x h) hr;have I:xs.length<=200:=AH (BH t hx) l;have m:∀i,i<s.N->G' (s.nd i):=λi h=>(e.nds i h).1;have p:∀i,i<s.N->(CU (s.nd i)).length<=2000:=λi h=>(e.nds i h).2;refine Gi rfl (by decide) S λq v=> ?_;subst j;obtain⟨gb,rfl,U,L,O,A⟩:=v.gb (by simp);have d:y<s.N:=AR (z y (by simp)) hr;exact UZ q g on wi _ ky vl gb 0 c _ O A λk E=>VG k g on wi _ ky vl _ λR f=>Bk.Y2 v (BT E f) (λo=>XQ e.fst p m (by omega) n t d T u o.prog b o.le D g doc o.sel.toW)
theorem Yc(t:PG r s)(hx:∀x∈xs,x<r)(T:∀x∈ws,x<r)(d:xs.Nodup)(b:ws.Nodup)(p:xs≠[])(j:B<=C)(S:Kl s xs ws B C bl st D g doc a c nm la w)(on wi:AS):
 DS w g (BW 7 on wi ky vl (.slice la nm.length lc)) a ws.length c (Ew s.N B C bl w ({s with F:=B_ s.F xs})):=by
 have hr:=t.fst.le;have u:=t.fst.r2;have l:∀x∈xs,x<s.N:=λx h=>AR (hx x h) hr;have y:xs.length<=200:=AH (BH d hx) u;have v:∀i,i<s.N->G' (s.nd i):=λi h=>(t.nds i h).1;have q:∀i,i<s.N->(CU (s.nd i)).length<=2000:=λi h=>(t.nds i h).2;refine Gi rfl (by decide) S λf n=> ?_;refine V9 f g on wi _ ky vl a _ c λz m=> ?_;have o:=n.up m;exact(YC t.fst l (by omega) o.prog o.le D g doc o.sel).mono λe E k=>⟨k.1,Ew.back rfl n.prog m n.le k.2⟩
theorem X0(t:PG r s)(hx:∀x∈xs,x<r)(j:∀x∈ws,x<r)(e:xs.Nodup)(b:ws.Nodup)(p:xs≠[])(u:B<=C)(S:Kl s xs ws B C bl st D g doc a c nm la w)(on wi:AS)(m:Lj s xs):
 DS w g (BW 12 on wi ky vl (.slice la nm.length lc)) a ws.length c (Ew s.N B C bl w (DV (λl=>Cu l ky vl) s xs)):=by
 have hr:=t.fst.le;have d:=t.fst.r2;have n:∀x∈xs,x<s.N:=λx h=>AR (hx x h) hr;have y:xs.length<=200:=AH (BH e hx) d;have v:∀i,i<s.N->G' (s.nd i):=λi h=>(t.nds i h).1;have k:∀i,i<s.N->(CU (s.nd i)).length<=2000:=λi h=>(t.nds i h).2;exact .inl (UR w g on wi _ ky vl λq f=>Bk.Y2 S f (λo=>XR ky vl e (by omega) (λx h=>⟨n x h,(m x h).1,AH (m x h).2 (by decide)⟩) o.prog u o.le D g doc o.sel.toW))
theorem X3(t:PG r s)(hx:∀x∈xs,x<r)(j:∀x∈ws,x<r)(e:xs.Nodup)(p:ws.Nodup)(y:xs≠[])(k:B<=C)(S:Kl s xs ws B C bl st D g doc a c nm la w)(on wi:AS)(u:Lj s xs):
 DS w g (BW 13 on wi ky vl (.slice la nm.length lc)) a ws.length c (Ew s.N B C bl w (DV (λl=>F7 l ky) s xs)):=by
 have hr:=t.fst.le;have d:=t.fst.r2;have n:∀x∈xs,x<s.N:=λx h=>AR (hx x h) hr;have f:xs.length<=200:=AH (BH e hx) d;have b:∀i,i<s.N->G' (s.nd i):=λi h=>(t.nds i h).1;have v:∀i,i<s.N->(CU (s.nd i)).length<=2000:=λi h=>(t.nds i h).2;exact .inl (US w g on wi _ ky vl λq m=>Bk.Y2 S m (λo=>XS ky e (by omega) (λx h=>⟨n x h,(u x h).1,AH (u x h).2 (by decide)⟩) o.prog o.le D g doc o.sel.toW))
theorem X4(t:PG r s)(hx:∀x∈xs,x<r)(M:∀x∈ws,x<r)(n:xs.Nodup)(H:ws.Nodup)(N:xs≠[])(z:B<=C)(S:Kl s xs ws B C bl st D g doc a c nm la w)(on wi:AS)(y:nm.length<=lc)(u:Lj s xs)(e:QB s xs nm):
 DS w g (BW 14 on wi ky vl (.slice la nm.length lc)) a ws.length c (Ew s.N B C bl w (DV (λl=>G9 l (CX 0 (BZ (DQ l)) (nm.map BZ))) s xs)):=by
 have hr:=t.fst.le;have f:=t.fst.r2;have m:∀x∈xs,x<s.N:=λx h=>AR (hx x h) hr;have I:xs.length<=200:=AH (BH n hx) f;have R:∀i,i<s.N->G' (s.nd i):=λi h=>(t.nds i h).1;have L:∀i,i<s.N->(CU (s.nd i)).length<=2000:=λi h=>(t.nds i h).2;refine .inl (UT w g on wi _ ky vl (RQ S t hx (by omega) u) λU T=>Bk.Y2 S T (λd=> ?_));obtain⟨b,o,k,v,p⟩:=d.names.at_ (by rw[Aq];exact Bg.2 e.1);subst k;exact OC nm e.1 e.2.1 e.2.2.1 b o lc y n (by omega) (λx h=>⟨m x h,(u x h).1,(u x h).2,(e.2.2.2 x h)⟩) d.prog z d.le D g doc d.sel.toW (λj x E=>by
  obtain⟨O,A⟩:=C6.1 E;have q:=p j (by rw[Aq];exact O);rw[q,BD,A]) v
theorem X5(n:PG r s)(hx:∀x∈xs,x<r)(M:∀x∈ws,x<r)(t:xs.Nodup)(H:ws.Nodup)(N:xs≠[])(k:B<=C)(S:Kl s xs ws B C bl st D g doc a c nm la w)(on wi:AS)(f:nm.length<=lc)(z:Lj s xs)(e:QB s xs nm):
 DS w g (BW 15 on wi ky vl (.slice la nm.length lc)) a ws.length c (Ew s.N B C bl w (DV (λl=>G9 l (CX 2 (BZ (DQ l)) (nm.map BZ))) s xs)):=by
 have hr:=n.fst.le;have m:=n.fst.r2;have u:∀x∈xs,x<s.N:=λx h=>AR (hx x h) hr;have I:xs.length<=200:=AH (BH t hx) m;have R:∀i,i<s.N->G' (s.nd i):=λi h=>(n.nds i h).1;have L:∀i,i<s.N->(CU (s.nd i)).length<=2000:=λi h=>(n.nds i h).2;refine .inl (UU w g on wi _ ky vl λU T=>Bk.Y2 S T (λd=> ?_));obtain⟨b,o,v,p,y⟩:=d.names.at_ (by rw[Aq];exact Bg.2 e.1);subst v;exact Lo nm e.1 e.2.1 e.2.2.1 b o lc f t (by omega) (λx h=>⟨u x h,(z x h).1,(z x h).2,(e.2.2.2 x h)⟩) d.prog k d.le D g doc d.sel.toW (λj x E=>by
  obtain⟨O,A⟩:=C6.1 E;have q:=y j (by rw[Aq];exact O);rw[q,BD,A]) p
theorem X6(t:PG r s)(hx:∀x∈xs,x<r)(M:∀x∈ws,x<r)(n:xs.Nodup)(H:ws.Nodup)(N:xs≠[])(z:B<=C)(S:Kl s xs ws B C bl st D g doc a c nm la w)(on wi:AS)(y:nm.length<=lc)(u:Lj s xs)(e:QB s xs nm):
 DS w g (BW 16 on wi ky vl (.slice la nm.length lc)) a ws.length c (Ew s.N B C bl w (DV (λl=>G9 l (CX 1 (BZ (DQ l)) (nm.map BZ))) s xs)):=by
 have hr:=t.fst.le;have f:=t.fst.r2;have m:∀x∈xs,x<s.N:=λx h=>AR (hx x h) hr;have I:xs.length<=200:=AH (BH n hx) f;have R:∀i,i<s.N->G' (s.nd i):=λi h=>(t.nds i h).1;have L:∀i,i<s.N->(CU (s.nd i)).length<=2000:=λi h=>(t.nds i h).2;refine .inl (UV w g on wi _ ky vl (RQ S t hx (by omega) u) λU T=>Bk.Y2 S T (λd=> ?_));obtain⟨b,o,k,v,p⟩:=d.names.at_ (by rw[Aq];exact Bg.2 e.1);subst k;exact Lp nm e.1 e.2.1 e.2.2.1 b o lc y n (by omega) (λx h=>⟨m x h,(u x h).1,(u x h).2,(e.2.2.2 x h)⟩) d.prog z d.le D g doc d.sel.toW (λj x E=>by
  obtain⟨O,A⟩:=C6.1 E;have q:=p j (by rw[Aq];exact O);rw[q,BD,A]) v
end
structure Dh where
 op:Int
 oa:Option Ai
 on:List Int
 oc:Nat
 wa:Option Ai
 wi:List Int
 wc:Nat
 ky:ByteArray
 vl:ByteArray
 la:Option Ai
 nm:List ByteArray
 lc:Nat
def Dh.vv(x:Dh):Array AS:=BW x.op (.slice x.oa x.on.length x.oc) (.slice x.wa x.wi.length x.wc) x.ky x.vl (.slice x.la x.nm.length x.lc)
structure Dh.Ok(x:Dh)(w:AB)(B:Nat):Prop where
 on:Kj w B x.oa x.on
 wi:Kj w B x.wa x.wi
 nm:B6 w B x.la (x.nm.map Value.string)
 cap:x.nm.length<=x.lc
 onl:x.on.length<=2147483647
 wil:x.wi.length<=2147483647
theorem Kj.below{l:List Int}(h:Kj w B a l)(e:AL B w N):Kj N B a l:=⟨h.row.below e,h.len,h.rng⟩
theorem Kj.more{e:Nat}{l:List Int}(h:Kj w B a l)(t:B<=e):Kj w e a l:=⟨h.row.more t,h.len,h.rng⟩
theorem Dh.Ok.below{x:Dh}(h:x.Ok w B)(e:AL B w N):x.Ok N B:=⟨h.on.below e,h.wi.below e,h.nm.below e,h.cap,h.onl,h.wil⟩
structure On(w:AB)(B:Nat)(a:Option Ai)(l:List Dh):Prop where
 row:l=[]\/∃b o,a=some ⟨b,o,none⟩/\b<B/\∀k (h:k<l.length) j v,l[k].vv[j]? =some v->w.cell? ⟨b,o+k*6+j,none⟩=some v
 ok:∀x∈l,x.Ok w B
theorem On.below{l:List Dh}(h:On w B a l)(t:AL B w N):On N B a l:=by
 refine⟨?_,λx hx=>(h.ok x hx).below t⟩;rcases h.row with e|⟨b,o,e,i,r⟩
 .exact .inl e
 exact .inr ⟨b,o,e,i,λk s j v n=>(t.cell (p:=⟨b,_,none⟩) i).trans (r k s j v n)⟩
inductive GY(m:Nat):bY->List Dh->bY->Prop
 |nil (s:bY):GY m s [] s
 |cons {s s1 s2:bY} {x:Dh} {l:List Dh} (xs ws:List Nat):PG m s->GX m x.on xs->GX m x.wi ws->xs≠[]->Et s xs ws x.ky x.vl x.nm x.op s1->s.N<=s1.N->GY m s1 l s2->GY m s (x::l) s2
theorem GY.seq{m:Nat}{s2:bY}{l:List Dh}(h:GY m s l s2):∃f:Nat->bY,f 0=s/\f l.length=s2/\∀k,(e:k<l.length)->∃xs ws,PG m (f k)/\GX m l[k].on xs/\GX m l[k].wi ws/\xs≠[]/\Et (f k) xs ws l[k].ky l[k].vl l[k].nm l[k].op (f (k+1))/\(f k).N<=(f (k+1)).N:=by
 induction h with
 |nil s=>exact⟨λ_=>s,rfl,rfl,λk e=>absurd e (Nat.not_lt_zero _)⟩
 | @cons s s1 s2 x l xs ws r i a d o n _ t=>
   obtain⟨f,f0,f1,f2⟩:=t;refine⟨λk=>match k with|0=>s|k+1=>f k,rfl,f1,λk e=> ?_⟩
   match k,e with
   |0,_=>exact⟨xs,ws,r,i,a,d,by show Et s xs ws _ _ _ _ (f 0);rw[f0];exact o,by show s.N<=(f 0).N;rw[f0];exact n⟩
   |k+1,e=>exact f2 k (by simpa using e)
theorem Vm{s2:bY}{ky vl:ByteArray}{nm:List ByteArray}{C:Nat}{D:Nat}{la:Option Ai}{lc:Nat}
 (u:PG r s)(hx:∀x∈Y,x<r)(l:∀x∈J,x<r)(e:Y.Nodup)(o:J.Nodup)(t:Y≠[])(i:B<=C)(S:Kl s Y J B C Z V D g L a c nm la w)(on wi:AS)(m:nm.length<=lc)(h:Et s Y J ky vl nm U s2):
 DS w g (BW U on wi ky vl (.slice la nm.length lc)) a J.length c (Ew s.N B C Z w s2):=by
 cases h with
 |p1 d n=>exact YW u hx l e o t i S on wi d n
 |p2 d n=>exact YX u hx l e o t i S on wi d n
 |p3 d n=>exact YY u hx l e o t i S on wi d n
 |p4 d n=>exact YZ u hx l e o t i S on wi d n
 |p5 d n q k=>exact Ya u hx l e o t i S on wi d n q k
 |p6=>exact Yb u hx l e o t i S on wi
 |p7=>exact Yc u hx l e o t i S on wi
 |p8 v=>exact Yd u hx l e o t i S on wi v
 |p9 y _ f b n=>exact Ye u hx l e o t i S on wi y _ f b n
 |p10 y f b n=>exact Xy u hx l e o t i S on wi y f b n
 |p11 y _ f b n=>exact Xz u hx l e o t i S on wi y _ f b n
 |p12 d=>exact X0 u hx l e o t i S on wi d
 |p13 d=>exact X3 u hx l e o t i S on wi d
 |p14 d p=>exact X4 u hx l e o t i S on wi m d p
 |p15 d p=>exact X5 u hx l e o t i S on wi m d p
 |p16 d p=>exact X6 u hx l e o t i S on wi m d p
structure VJ(bl:Nat->Nat)(m gw g0 D:Nat)(A:Option Ai)(ca:Nat)(doc:Option Ai)(w:AB):Prop where
 box:w.heap[gw]? =some (.cells #[.slice A m ca,.pointer (some ⟨g0,0,none⟩)] 69 (0,0))
 all:w.ownsRow D 70 1 (.slice A m ca) m (Ad bl (BV m))
 none_:∃prev,DP w g0 none 0 0 doc prev
theorem PA.af{C:Nat}{s0:bY}{t:Nat->Nat}(h:PA n B C Z w s t W wr)(h0:Br s0.F (λi=>i<n) s0.nd B Z V w)(o:w.heap.size<=C){m d l D:Nat}(c:m<=n){A:Option Ai}{u:Nat}(e:VJ Z m d l D A u L w):VJ t m d l D A u L wr:=by
 obtain⟨a,r⟩:=e.none_;refine⟨h.other h0 e.box (by decide) (by decide) (AR (AE.1 e.box).1 o),?_,a,h.other h0 r (by decide) (by decide) (AR r.lt o)⟩;rw[QL h (λx hx=>AR (List.mem_range.1 hx) c)];exact h.own h0 e.all (by decide) (by decide) λg f=>AR (e.all.lt g f).2 o
theorem VJ.below{m i n D:Nat}{A:Option Ai}{s:Nat}(t:VJ Z m i n D A s L w)(a:AL w.heap.size w N):VJ Z m i n D A s L N:=by
 obtain⟨e,o⟩:=t.none_;exact⟨(a.block _ (AE.1 t.box).1).trans t.box,BB t.all (λb _ h=>a.block b h),e,o.below a o.lt⟩
theorem Sx{s2:bY}{ky vl:ByteArray}{nm:List ByteArray}{D:Nat}{la:Option Ai}{lc:Nat}{W w3 d:AB}(on wi:AS){l1 l2:List Int}
 (k:PG r s)(p:GX r l1 Y)(y:GX r l2 J)(u:Y≠[])(l:B<=W.heap.size)(f:nm.length<=lc)(h:Et s Y J ky vl nm U s2)(v:Br s.F (λi=>i<s.N) s.nd B Z V W)(w:AL W.heap.size W w3)(q:W.heap.size<=D)(e:w3.ownsRow D 70 1 (.slice a J.length c) J.length (Ad Z J))
 (o:AL w3.heap.size w3 d)(n:Fw Z Y w3.heap.size g L d)(m:B6 W B la (nm.map Value.string)):
 DS d g (BW U on wi ky vl (.slice la nm.length lc)) a J.length c (Ew s.N B W.heap.size Z d s2):=by
 have t:=BT w o;refine Vm k p.lt y.lt p.asc y.asc u l ⟨v.kept t,t.size,n,BB (Bf e q) (λb _ h=>o.block b h),λb t=>(e.lt b t).2,((m.below (t.mono l)).more (AH l t.size))⟩ on wi f h
theorem Nu{e:Nat->Nat}{o:Nat->Dn}{W u l:AB}{s2:bY}(t:PA n B w.heap.size Z w s e o W)(m:AL W.heap.size W u)(h:Ew s.N B W.heap.size e u s2 l)(c:n<=s.N):∃d i,PA n B w.heap.size Z w s2 d i l:=by
 obtain⟨r,a,f⟩:=Ew.back rfl t.prog m (AG _) h;exact⟨r,a,t.trans (f.low t.turn.size) c⟩
theorem Lc{m:Nat}{s2:bY}{l:List Dh}(hS:GY m s l s2)(hl:l.length<=100000)(hP:Br s.F (λi=>i<s.N) s.nd B Z V w)(hB:B<=w.heap.size)(hm:m<=s.N)(X:m<=200)
 {gw er D:Nat}{A:Option Ai}{ca:Nat}(hW:VJ Z m gw er D A ca L w)(al:Option Ai)(c:Nat)(hR:On w B al l):
 AX AC 26 #[.pointer (some ⟨gw,0,none⟩),.slice al l.length c] w (λe w'=>e= .returned (.bool true)/\Ew s.N B w.heap.size Z w s2 w'):=by
 obtain⟨f,f0,f1,f2⟩:=hS.seq;have hN:∀k,k<=l.length->s.N<=(f k).N:=by
  intro k;induction k with
  |zero=>intro _;rw[f0];exact AG _
  |succ k ih=>
   intro hk;obtain⟨xs,ws,-,-,-,-,-,h⟩:=f2 k (by omega);exact AH (ih (by omega)) h
 have HI:Hid (∃ed J,PA s.N B w.heap.size Z w (f 0) ed J w):=by
  refine⟨Z,V,?_⟩;rw[f0];exact PA.refl rfl hP
 have HP:=AA hP;have hW0:=AA hW;have HRK:=AA hR;have HF2:=AA f2;have HN:=AA hN;have HF1:=AA f1;clear hP hW hR f2 hN f1 f0 hS;go_enter func26,ntmps26;go_wp2;go_loopw [14] (λx wr=>∃k:Nat,k<=l.length/\x= .int .i64 k/\Hid (∃ed J,PA s.N B w.heap.size Z w (f k) ed J wr)) (λx _=>l.length-(Aa x).toNat)
 .exact⟨0,by omega,rfl,HI.o⟩
 obtain⟨k,hk,rfl,eh⟩:=hrel;obtain⟨W,rfl⟩:∃W:AB,W=wr:=⟨_,rfl⟩;by_cases z:k<l.length
 .obtain⟨M,st1,hA⟩:=eh.o;have HA:=AA hA;obtain⟨xs,ws,hG,ho,hw,hx0,hp,hn⟩:=HF2.o k z;have E:=hA.below HP.o hB;have en:=HRK.o.below E;have es:=en.ok _ (AD z);obtain⟨b,o,rfl,hbB,G⟩:∃b o,al=some ⟨b,o,none⟩/\b<B/\∀j v,l[k].vv[j]? =some v->W.cell? ⟨b,o+k*6+j,none⟩=some v:=by
   rcases en.row with e|⟨b,o,e,h1,h2⟩
   .rw[e]at z;exact absurd z (Nat.not_lt_zero _)
   exact⟨b,o,e,h1,h2 k z⟩
  obtain⟨⟨op,oa,on,oc,wa,wi,wc,ky,vl,la,nm,lc⟩,hx⟩:∃x,x=l[k]:=⟨_,rfl⟩;rw[<-hx]at G es ho hw hp;have g0:W.cell? ⟨b,o+k*6,none⟩=some (.int .i64 op):=G 0 _ rfl;have g1:W.cell? ⟨b,o+k*6+1,none⟩=some (.slice oa on.length oc):=G 1 _ rfl;have g2:W.cell? ⟨b,o+k*6+2,none⟩=some (.slice wa wi.length wc):=G 2 _ rfl;have g3:W.cell? ⟨b,o+k*6+3,none⟩=some (.string ky):=G 3 _ rfl;have g4:W.cell? ⟨b,o+k*6+4,none⟩=some (.string vl):=G 4 _ rfl;have g5:W.cell? ⟨b,o+k*6+5,none⟩=some (.slice la nm.length lc):=G 5 _ rfl;have N:=AA es;have HG:=AA hG;have Ho:=AA ho;have Hw:=AA hw;have HX0:=AA hx0;have HPS:=AA hp;have Hn:=AA hn;have HPW:=AA hA.prog;have HW2:=AA (hA.af HP.o (AG _) hm hW0.o);have hmk:=AH hm (HN.o k (by omega));clear G hx hA hG ho hw hx0 hp es en HRK;obtain⟨n,C⟩:∃n,n=W.alloc (.cells #[.int .i64 op,.slice oa on.length oc,.slice wa wi.length wc,.string ky,.string vl,.slice la nm.length lc] 45):=⟨_,rfl⟩;have T:AL W.heap.size W n:=by rw[C];exact Ac
  have hq:n.heap[W.heap.size]? =some (.cells (BW op (.slice oa on.length oc) (.slice wa wi.length wc) ky vl (.slice la nm.length lc)) 45 (0,0)):=by rw[C];exact Ah W _
  have k1:n.cell? ⟨W.heap.size,1,none⟩=some (.slice oa on.length oc):=Aj hq;have k2:n.cell? ⟨W.heap.size,2,none⟩=some (.slice wa wi.length wc):=Aj hq;have I:=AA (HW2.o.below T);have q0:n.cell? ⟨gw,0,none⟩=some (.slice A m ca):=Aj I.o.box;have S:=N.o;obtain⟨a9,c9,O,-,t⟩:=B6.own I.o.all;cases O
  have HT1:=AA (Rq m X M A ca oa oc on xs Ho.o S.onl n.drew (t.up ((AW n.heap.size n).drew)) ((S.on.below (T.drew.mono (AH hB E.size))).more (AH (AH hB E.size) T.size)));have Hb1:=AA T;have eu:=AA E;have Hq:=AA hq;clear S t T E hq;go_wp2_with fail;rw[<-C];clear C;go_region_with (go_at_call 45;refine HT1.o.mono ?_;rintro e y ⟨a2,c2,rfl,R,eo⟩);all_goals
   have F:=AA (BT Hb1.o ((AW n.heap.size n).drew.trans eo));have ef:=AA R;have a:=BT (AW n.heap.size n).drew eo;have q0':y.cell? ⟨gw,0,none⟩=some (.slice A m ca):=by rw[AZ y _ _ _ _ _ (I.o.below a).box];rfl
   have k2':y.cell? ⟨W.heap.size,2,none⟩=some (.slice wa wi.length wc):=by rw[AZ y _ _ _ _ _ ((a.block _ (AE.1 Hq.o).1).trans Hq.o)];rfl
   obtain⟨a9,c9,O,-,t⟩:=B6.own (I.o.below a).all;cases O
   have HT2:=AA (Rq m X M A ca wa wc wi ws Hw.o N.o.wil y.drew (t.up ((AW y.heap.size y).drew)) ((N.o.wi.below (F.o.drew.mono (AH hB eu.o.size))).more (AH (AH hB eu.o.size) F.o.size)));have K:=AA a;clear eo R a t HT1 q0 k1 k2;go_wp2_with fail;go_region_with (go_at_call 45;refine HT2.o.mono ?_;rintro e w3 ⟨a3,c3,rfl,H,ea⟩);all_goals
    have d:=BT F.o ((AW y.heap.size y).drew.trans ea);have r:=BT ((AW y.heap.size y).drew) ea;have ei:=I.o.below (BT K.o r);have q1':w3.cell? ⟨gw,1,none⟩=some (.pointer (some ⟨er,0,none⟩)):=Aj ei.box;obtain⟨prev,hse⟩:=ei.none_;obtain⟨a9,c9,O,-,t⟩:=B6.own (BB ef.o (λb _ h=>r.block b h));cases O
    have HAd:=AA (J9 M _ xs (λx hx=>AR (Ho.o.lt x hx) hmk) Ho.o.asc (AH (BH Ho.o.asc Ho.o.lt) X) a2 c2 er L prev w3 t (HPW.o.kept d).nodes hse);have Q:=AA (λY g (h4:AL w3.heap.size w3 Y) (h5:Fw M xs w3.heap.size g L Y)=>Sx (lc:=lc) (.slice oa on.length oc) (.slice wa wi.length wc) HG.o Ho.o Hw.o HX0.o (AH hB eu.o.size) N.o.cap HPS.o HPW.o d F.o.size H h4 h5 N.o.nm);have HB3:=AA d;have hkq:w3.heap[W.heap.size]? =_:=((BT K.o r).block _ (AE.1 Hq.o).1).trans Hq.o;have el:=AA hkq;clear ea H d r ei hse t HT2 q0' k2' hkq;go_wp2_with fail;refine HAd.o.mono ?_;rintro e Y ⟨g,rfl,P,U⟩;have ec:=AA (Q.o Y g U P);have ee:Y.heap[W.heap.size]? =_:=(U.block _ (AE.1 el.o).1).trans el.o;have HFx:Hid (∀u,AL Y.heap.size Y u->u.cell? ⟨W.heap.size,0,none⟩=some (.int .i64 op)/\u.cell? ⟨W.heap.size,1,none⟩=some (.slice oa on.length oc)/\u.cell? ⟨W.heap.size,2,none⟩=some (.slice wa wi.length wc)/\u.cell? ⟨W.heap.size,3,none⟩=some (.string ky)/\u.cell? ⟨W.heap.size,4,none⟩=some (.string vl)/\u.cell? ⟨W.heap.size,5,none⟩=some (.slice la nm.length lc)):=by
     intro u h5;have q:=(h5.block _ (AE.1 ee).1).trans ee;refine⟨?_,?_,?_,?_,?_,?_⟩<;>(rw[AZ u _ _ _ _ _ q];rfl)
    have HB4:=AA (BT HB3.o U);clear P U ee el q1' HAd Q;obtain⟨y0,y1,y2,y3,y4,y5⟩:=HFx.o Y (AW _ _);rcases ec.o with hM|⟨hM,hV⟩
    .have HM:=AA hM;clear hM ec;go_wp2_with fail;refine HM.o.mono ?_;rintro e u ⟨rfl,p⟩;have HE:=AA (Nu HA.o HB4.o p (HN.o k (by omega)));clear p;go_wp2;go_roundw
     .exact⟨k+1,by omega,by go_num,HE.o⟩
     simp[Aa];omega
    have HM:=AA hM;have HV:=AA hV;clear hM hV ec;go_wp2_with fail;refine HM.o.mono ?_;rintro e u ⟨rfl,et⟩;obtain⟨z0,z1,z2,z3,z4,z5⟩:=HFx.o u et;have HV2:=AA (HV.o u et);clear y0 y1 y2 y3 y4 y5 et;go_wp2_with fail;refine HV2.o.mono ?_;rintro e w6 ⟨rfl,p⟩;have HE:=AA (Nu HA.o HB4.o p (HN.o k (by omega)));clear p z0 z1 z2 z3 z4 z5;go_wp2;go_roundw
    .exact⟨k+1,by omega,by go_num,HE.o⟩
    simp[Aa];omega
 have e:k=l.length:=by omega
 subst e;go_wp2;go_ret;rw[HF1.o]at eh;exact⟨rfl,eh.o⟩
def ET(s:bY)(xs:List Nat):bY:=xs.foldl (CZ 600) s
theorem Io(s:bY)(xs:List Nat)(e:k<xs.length):ET s (xs.take (k+1))=CZ 600 (ET s (xs.take k)) xs[k]:=by
 unfold ET;rw[AF e,List.foldl_append];rfl
def DR(s:bY)(xs:List Nat):List Nat:=(BV xs.length).map λi=>(ET s (xs.take i)).N
theorem Cy(s:bY)(xs:List Nat):(DR s xs).length=xs.length:=by simp[DR]
theorem Kd(s:bY)(xs:List Nat)(e:k<xs.length):(DR s xs)[k]'(by rw[Cy];exact e)=(ET s (xs.take k)).N:=by simp[DR]
structure YJ(s:bY)(h:Nat->Nat)(a:bY)(ha:Nat->Nat):Prop where
 old:Jl s a h ha
 nds:∀y,y<a.N->∃z,z<s.N/\a.nd y=s.nd z
theorem Tk(o:s.F.Ok (λi=>i<s.N) h)(hx:∀x∈Y,x<s.N/\h x<=600):∀k,k<=Y.length->∃r,YJ s h (ET s (Y.take k)) r:=by
 intro k;induction k with
 |zero=>intro _;exact⟨h,Jl.refl o,λy n=>⟨y,n,rfl⟩⟩
 |succ k f=>
  intro b;obtain⟨r,a,u⟩:=f (by omega);obtain⟨l,m⟩:=hx Y[k] (AD (by omega));obtain⟨g,e⟩:=DK 600 (ET s (Y.take k)) r Y[k] a.ok (AR l a.le) (by rw[a.hold _ l];exact m);rw[Io s Y (by omega)];refine⟨g,a.trans e.old,λy n=> ?_⟩;by_cases t:y<(ET s (Y.take k)).N
  .rw[e.ndo y t];exact u y t
  obtain⟨z,w,e2⟩:=e.newn y (by omega) n;obtain⟨c,d,p⟩:=u z w;exact⟨c,d,e2.trans p⟩
theorem O9(o:s.F.Ok (λi=>i<s.N) h)(hx:∀x∈Y,x<s.N/\h x<=600)(l:k<Y.length):(ET s (Y.take k)).N<(ET s (Y.take (k+1))).N:=by
 obtain⟨r,t,d⟩:=Tk o hx k (by omega);obtain⟨a,n⟩:=hx Y[k] (AD (by omega));obtain⟨u,e⟩:=DK 600 (ET s (Y.take k)) r Y[k] t.ok (AR a t.le) (by rw[t.hold _ a];exact n);rw[Io s Y (by omega)];exact e.lt
structure Xd(s:bY)(xs:List Nat)(B:Nat)(bl:Nat->Nat)(w:AB)(k:Nat)(v:AS)(bl':Nat->Nat)(st':Nat->Dn)(wr:AB):Prop where
 pw:PW s.N B bl w (ET s (xs.take k)) bl' st' wr
 row:wr.ownsRow w.heap.size 70 1 v k (Ad bl' ((DR s xs).take k))
theorem Oa(o:s.F.Ok (λi=>i<s.N) h)(hx:∀x∈Y,x<s.N/\h x<=600)(l:k<=Y.length):∀y∈(DR s Y).take k,y<(ET s (Y.take k)).N:=by
 intro y a;obtain⟨j,n,e⟩:=C7.1 a;rw[Cy]at n;rw[<-e,Kd s Y (by omega)];have:∀d,j+d+1<=Y.length->(ET s (Y.take j)).N<(ET s (Y.take (j+d+1))).N:=by
  intro d;induction d with
  |zero=>intro r;exact O9 o hx (by omega)
  |succ d t=>intro r;exact Nat.lt_trans (t (by omega)) (O9 (k:=j+d+1) o hx (by omega))
 have:=this (k-j-1) (by omega)
 rwa [show j+(k-j-1)+1=k by omega]at this
theorem Tn(o:s.F.Ok (λi=>i<s.N) h)(hx:∀x∈Y,x<s.N/\h x<=600)(m:∀i,i<=Y.length->(ET s (Y.take i)).op=false)(f:∀y,y<s.N->(CU (s.nd y)).length<=2000)(p:B<=w.heap.size)(T:k<Y.length)(H:Xd s Y B Z w k v C W wr):
 AX AC 77 #[.pointer (some ⟨Z Y[k],0,none⟩)] wr (λe r=>∃t a,e= .returned (.pointer (some ⟨t (ET s (Y.take k)).N,0,none⟩))/\PW s.N B Z w (ET s (Y.take (k+1))) t a r/\r.ownsRow w.heap.size 70 1 v k (Ad t ((DR s Y).take k))/\wr.heap.size<=r.heap.size):=by
 obtain⟨R,n,E⟩:=Tk o hx k (by omega);obtain⟨l,q⟩:=hx Y[k] (AD (by omega));have e:=Io s Y T;have b:=GQ 600 n.ok H.pw.prog (AH p H.pw.turn.size) (x:=Y[k]) (AR l n.le) (by rw[n.hold _ l];exact q) (by rw[<-e];exact m (k+1) (by omega)) (λy d=>by
  obtain⟨z,j,e⟩:=E y d;rw[e];exact f z j)
 rw[H.pw.old _ l]at b;refine b.mono λD r P=> ?_;rw[<-e]at P;have S:=H.pw.clone n.le P;obtain⟨t,a,rfl,hold,O,hnew,u,g⟩:=P;refine⟨t,a,rfl,⟨O,λy d=>(hold y (AR d n.le)).trans (H.pw.old y d),λy N I=> ?_,GR H.pw.turn u H.pw.old H.pw.new,H.pw.rw.trans g H.pw.turn.size⟩,?_,u.size⟩
 .by_cases e:y<(ET s (Y.take k)).N
  .rw[hold y e];exact H.pw.new y N e
  have:=hnew y (by omega) I;have:=H.pw.turn.size;omega
 rw[show Ad t ((DR s Y).take k)=Ad C ((DR s Y).take k)from List.map_congr_left λx c=>by rw[hold x (Oa o hx (by omega) x c)]];exact u.own H.row λi A=>H.pw.prog.Yw H.row (by decide) i A
theorem PW.grown(H:PW n B Z w s C W wr){xs:List AS}(o:wr.ownsRow w.heap.size 70 1 v k xs)(t:wr.grownBy M v.ownBlock):PW n B Z w s C W M:=by
 refine⟨H.prog.grown o t,H.old,H.new,⟨t.os.trans H.turn.os,t.tape.trans H.turn.tape,t.output.trans H.turn.output,AH H.turn.size t.size,λb i h=> ?_⟩,λy a b e=> ?_⟩
 .rw[t.block b (AR i H.turn.size) (λe=>by have:=(o.lt b e.symm).1;omega)];exact H.turn.block b i h
 refine H.rw y a b ?_;obtain⟨_,aa,ac,r,_⟩:=H.prog.dom.node y a;rw[<-Ce (t.block _ (AE.1 r).1 (λe=>H.prog.Yw o (by decide) y a e.symm))];exact e
theorem MP(o:s.F.Ok (λi=>i<s.N) h)(hx:∀x∈Y,x<s.N/\h x<=600)(hxl:Y.length<=1000)(R:∀i,i<=Y.length->(ET s (Y.take i)).op=false)(C:∀y,y<s.N->(CU (s.nd y)).length<=2000)(Q:Br s.F (λi=>i<s.N) s.nd B Z V w)(ei:B<=w.heap.size)
 {D:Nat}(a:Option Ai)(c:Nat)(t:w.ownsRow D 70 1 (.slice a Y.length c) Y.length (Ad Z Y)):
 AX AC 48 #[.slice a Y.length c] w (λe w'=>∃a2 c2 m d,e= .returned (.slice a2 Y.length c2)/\Xd s Y B Z w Y.length (.slice a2 Y.length c2) m d w'):=by
 have HO:=AA o;have HX:=AA hx;have es:=AA R;have eh:=AA C;have HP:=AA Q;have A:=AA t;have h0:Hid (PW s.N B Z w (ET s (Y.take 0)) Z V w):=⟨Q,λ_ _=>rfl,λy h1 h2=>absurd h2 (Nat.not_lt.2 h1),Al.refl _ _ _,Lm.refl _ _ _⟩;obtain⟨i0,K,ea,et,ee⟩:=D6 Tryz.ZF;obtain⟨n,O⟩:∃n,n=Y.length:=⟨_,rfl⟩;have G:∀w:AB,(Instr.makeSlice 63 (.int .i64 0) (.int .i64 (n:Int))).run AC w= .ok (.slice (some ⟨w.heap.size,0,none⟩) 0 n) (w.alloc (.cells (DG #[.pointer none] n) 70)):=λw=>by
  have h:=G8 (P:=AC) 63 70 i0 (.pointer none) underlying63 K ea .i64 .i64 0 n (by omega) (by rw[ee];omega) (by omega) w;rw[et,Nat.mul_one]at h;exact h
 have U:AL w.heap.size w (w.alloc (.cells (DG #[.pointer none] n) 70)):=Ac;have f:(w.alloc (.cells (DG #[.pointer none] n) 70)).ownsRow w.heap.size 70 1 (.slice (some ⟨w.heap.size,0,none⟩) 0 n) 0 []:=by
  refine⟨rfl,.inr ⟨w.heap.size,n,_,rfl,AG _,Ah w _,AY _,by unfold maxLen;omega,?_,rfl⟩⟩;show(DG #[.pointer none] n).size=_;rw[size_madeCells];omega
 have W:Hid (Xd s Y B Z w 0 (.slice (some ⟨w.heap.size,0,none⟩) 0 n) Z V (w.alloc (.cells (DG #[.pointer none] n) 70))):=⟨h0.o.up U,f⟩;clear o hx R C Q t f U h0;go_enter func48,ntmps48;rw[<-O];have HN:=AA O;clear O;go_wp2;go_loopw [3,11] (λv x wr=>∃k a2 c2 m d,k<=Y.length/\x= .int .i64 (k:Nat)/\v= .slice a2 k c2/\Hid (Xd s Y B Z w k v m d wr)) (λ_ x _=>Y.length-(Aa x).toNat)
 .exact⟨0,some ⟨w.heap.size,0,none⟩,n,Z,V,AY _,rfl,rfl,W.o⟩
 obtain⟨k,a2,c2,m,d,hk,rfl,rfl,I⟩:=hrel;clear W G;have O:=HN.o;subst O;by_cases u:k<Y.length
 .have T:=((I.o.pw.pa (AG _)).own HP.o A.o (by decide) (by decide) (λg hg=>(A.o.lt g hg).2));obtain⟨a9,c9,eo,-,S⟩:=B6.own T;cases eo
  obtain⟨b,q,rfl,hbB,hc⟩:=S.at_ (by rw[AM];omega);have g1:=hc k (by rw[AM];exact u);rw[A5 u]at g1;have X:=AA (Tn HO.o HX.o es.o eh.o ei u I.o);have J:=AA (Kd s Y u);obtain⟨y,hy⟩:∃y,y=Z Y[k]:=⟨_,rfl⟩;rw[<-hy]at g1 X;have hsz:=I.o.pw.turn.size;clear hc T S hy I;go_wp2_with fail;refine X.o.mono ?_;rintro e w2 ⟨E,N,rfl,H,t,hs2⟩;have en:=AA H;have r:=AA t;obtain⟨z,hz⟩:∃z,z=(ET s (Y.take k)).N:=⟨_,rfl⟩;rw[<-hz]at J|-;have hL:((DR s Y).take k).length=k:=by rw[At,Cy];omega
  have F:Hid ((DR s Y).take (k+1)=(DR s Y).take k++[z]):=by
   have:=AF (l:=DR s Y) (i:=k) (by rw[Cy];exact u);rw[J.o]at this;exact this
  obtain⟨L,M⟩:∃L,L=(DR s Y).take k:=⟨_,rfl⟩;rw[<-M]at hL F r;subst hL;clear H t X M hz J;go_wp2_with(at_builtin;refine Db _ rfl (.tmp 15) (.tmp 18) rfl E w.heap.size (.slice a2 L.length c2) L rfl (r.o.alloc _) (some ⟨w2.heap.size,0,none⟩) 1 1 [z] rfl rfl (Iz w2 E z) (by simp;omega) (by simp;omega) ?_);intro a3 c3 w3 p j _;have HE:Hid (Xd s Y B Z w (L.length+1) (.slice a3 (L.length+1) c3) E N w3):=by
   refine⟨(en.o.up ((AW _ _).alloc (AG _) _)).grown (r.o.alloc _) j,?_⟩;rw[F.o];simpa using p
  clear p j;go_wp2;go_roundw
  .exact⟨L.length+1,a3,c3,E,N,by omega,by go_num,rfl,HE⟩
  simp[Aa];omega
 have e:k=Y.length:=by omega
 subst e;go_wp2;go_ret;exact⟨a2,c2,rfl,m,d,I.o⟩
theorem PA.Zu{C:Nat}{t:Nat->Nat}(h:PA n B C Z w s t W wr){j:Nat}{z:Array AS}{T:Dk}(f:wr.heap[g]? =some (.cells z T (0,0)))(x:T≠101)(q:T≠133)(E:C<=g)(v:AS):PA n B C Z w s t W (wr.setCell ⟨g,j,none⟩ v):=by
 have d:∀b,b≠g->(wr.setCell ⟨g,j,none⟩ v).heap[b]? =wr.heap[b]? :=λb a=>heap_setCell_other wr ⟨g,j,none⟩ b v a;have p:Al (λ_=>True) (λ_=>g) wr (wr.setCell ⟨g,j,none⟩ v):=⟨rfl,rfl,rfl,by simp,λb _ r=>d b (r 0 trivial)⟩;have a:∀y,y<s.N->(wr.setCell ⟨g,j,none⟩ v).heap[t y]? =wr.heap[t y]? :=λy o=>by
  obtain⟨_,aa,ac,l,_⟩:=h.prog.dom.node y o;exact d _ (CC l f (λe=>x e.symm))
 refine⟨⟨⟨λi m=> ?_,h.prog.dom.inj,h.prog.dom.Zd a⟩,h.prog.fit,h.prog.self⟩,h.old,h.new,⟨h.turn.os,h.turn.tape,h.turn.output,by simpa using h.turn.size,λb u r=> ?_⟩,λy o b e=> ?_⟩
 .obtain⟨k,aa,ac,l,c⟩:=h.prog.dom.node i m;exact⟨k,aa,ac,(a i m).trans l,p.own c λ_ _=>Ax c f (λe=>q e.symm)⟩
 .rw[d b (by omega)];exact h.turn.block b u r
 exact h.rw y o b (by rw[<-Ce (a y o)];exact e)
def RC(s:bY)(xs:List Nat)(B:Nat)(bl:Nat->Nat)(w:AB)(a:Option Ai)(c:Nat)(w':AB):Prop:=
 ∃e t,PA s.N B w.heap.size bl w (ET s xs) e t w'/\w'.ownsRow w.heap.size 70 1 (.slice a xs.length c) xs.length (Ad e (DR s xs))
theorem N'(o:s.F.Ok (λi=>i<s.N) h)(hx:∀x∈Y,x<s.N/\h x<=600)(N:Y.length<=1000)(v:∀i,i<=Y.length->(ET s (Y.take i)).op=false)(k:∀y,y<s.N->(CU (s.nd y)).length<=2000)(T:Br s.F (λi=>i<s.N) s.nd B Z V w)(j:B<=w.heap.size)
 (D g:Nat)(l:Option Ai)(z:GJ Z Y D g l w):
 AX AC 24 #[.pointer (some ⟨g,0,none⟩)] w (λe w'=>∃F a c,e= .returned (.pointer (some ⟨F,0,none⟩))/\w'.cell? ⟨F,0,none⟩=some (.slice a Y.length c)/\RC s Y B Z w a c w'):=by
 obtain⟨G,c1,P,O,J,L⟩:=z;obtain⟨Q,q1,q2⟩:=O.cells;obtain⟨W,f⟩:∃W,W=w.alloc (.cells #[.slice none 0 0,.pointer l,.pointer none] 66):=⟨_,rfl⟩;have t:AL w.heap.size w W:=by rw[f];exact Ac
 have hsz:W.heap.size=w.heap.size+1:=by rw[f];simp
 have U:W.heap[w.heap.size]? =some (.cells #[.slice none 0 0,.pointer l,.pointer none] 66 (0,0)):=by rw[f];exact Ah w _
 have r0:W.cell? ⟨g,0,none⟩=some (.slice G Y.length c1):=(t.cell (p:=⟨g,0,none⟩) O.lt).trans Q;have S:Hid (AX AC 47 #[.pointer l] w (λe w'=>e= .returned (.pointer (some ⟨w.heap.size,0,none⟩))/\w'=W)):=by
  subst f;go_enter func47,ntmps47;go_wp2;go_ret;exact⟨rfl,rfl⟩
 have R:=AA (MP o hx N v k (T.kept t) (AH j t.size) G c1 (BB L (λb _ h=>t.block b h)));have E:Hid (∀u c2 d r n,Xd s Y B Z W Y.length (.slice u Y.length c2) d r n->n.heap[w.heap.size]? =some (.cells #[.slice none 0 0,.pointer l,.pointer none] 66 (0,0))/\(n.setCell ⟨w.heap.size,0,none⟩ (.slice u Y.length c2)).cell? ⟨w.heap.size,0,none⟩=some (.slice u Y.length c2)/\RC s Y B Z w u c2 (n.setCell ⟨w.heap.size,0,none⟩ (.slice u Y.length c2))):=by
  intro u c2 d r n H;have q:=H.pw.pa (C:=W.heap.size) (AG _);have m:=q.other (T.kept t) U (by decide) (by decide) (by omega);have A:PA s.N B w.heap.size Z w (ET s Y) d r n:=by
   have:=((PA.refl (C:=w.heap.size) rfl T).up t (AG _)).trans (q.low (by omega)) (AG _)
   rwa [AU]at this
  refine⟨m,?_,d,r,A.Zu m (by decide) (by decide) (AG _) _,?_⟩
  .rw[AZ _ _ _ _ _ _ (Ao n w.heap.size 0 _ _ _ m)];rfl
  have hr:=H.row;rw[show(DR s Y).take Y.length=DR s Y from BP (Nat.le_of_eq (Cy s Y))]at hr;have X:∀b,b≠w.heap.size->(n.setCell ⟨w.heap.size,0,none⟩ (.slice u Y.length c2)).heap[b]? =n.heap[b]? :=λb I=>heap_setCell_other n ⟨w.heap.size,0,none⟩ b _ I;exact Bf (Cv hr λb I h=>X b (by have:=(hr.lt b I).1;omega)) (by omega)
 clear o hx v k T O J L t U f j;go_enter func24,ntmps24;go_wp2_with fail;refine S.o.mono ?_;rintro e K ⟨rfl,hw1⟩;subst K;go_wp2_with fail;refine R.o.mono ?_;rintro e n ⟨u,c2,d,r,rfl,H⟩;obtain⟨m,A,M⟩:=E.o u c2 d r n H;have fz:n.frozen? ⟨w.heap.size,0,none⟩=false:=FE m;have f0:n.cell? ⟨w.heap.size,0,none⟩=some (.slice none 0 0):=Aj m;have H3:=AA A;have H4:=AA M;clear m A M H;go_wp2;go_ret;exact⟨_,u,c2,rfl,H3.o,H4.o⟩
def NU(N:Nat)(o:Option Nat):Option Nat:=o.map (·-N)
def Jx(N:Nat)(F:Fo):Fo:=⟨λk=>NU N (F.par (N+k)),λk=>(F.kids (N+k)).map (·-N)⟩
def IU(N:Nat)(a:bY):bY:=⟨Jx N a.F,a.N-N,λk=>a.nd (N+k),a.op⟩
def YK(N:Nat)(d:Dn):Dn:={d with par:=NU N d.par,fst:=NU N d.fst,lst:=NU N d.lst,prv:=NU N d.prv,nxt:=NU N d.nxt}
structure Shut(N:Nat)(F:Fo):Prop where
 par:∀y p,N<=y->F.par y=some p->N<=p
 kids:∀y z,N<=y->z∈F.kids y->N<=z
theorem Jl.shut{a:bY}{r:Nat->Nat}(e:Jl s a h r)(o:s.F.Ok (λi=>i<s.N) h):Shut s.N a.F:=⟨λy p n t=>e.newp o n t,λy z n t=>(e.ZM o n t).1⟩
theorem K1{N:Nat}:∀{l:List Nat} {c:Nat},(∀x∈l,N<=x)->N<=c->EC (l.map (·-N)) (c-N)=NU N (EC l c)
 |[],_,_,_=>rfl
 |x::l,c,t,a=>by
  have hx:=t x (by simp);show(if x-N=c-N then(l.map (·-N)).head? else EC (l.map (·-N)) (c-N))=NU N (if x=c then l.head? else EC l c);by_cases e:x=c
  .rw[AJ (by omega),AJ e,List.head?_map];rfl
  rw[AI (by omega),AI e];exact K1 (λx h=>t x (Ab _ h)) a
theorem Sq{N:Nat}{l:List Nat}(e:∀x∈l,N<=x)(t:N<=c):F6 (l.map (·-N)) (c-N)=NU N (F6 l c):=by
 unfold F6;rw[<-List.map_reverse];exact K1 (λx h=>e x (CA.1 h)) t
theorem Qu{l:List Nat}{z:Nat}(h:F6 l c=some z):z∈l:=CA.1 (IN h)
theorem Ng{N:Nat}:∀{l:List Nat},l.Nodup->(∀x∈l,N<=x)->(l.map (·-N)).Nodup
 |[],_,_=>List.nodup_nil
 |x::l,h,a=>by
  rw[List.map_cons,B4];rw[B4]at h;refine⟨λo=> ?_,Ng h.2 (λy t=>a y (Ab _ t))⟩;obtain⟨y,t,e⟩:=BL.1 o;have n:=a x (by simp);have i:=a y (Ab _ t);exact h.1 (by rw[show x=y by omega];exact t)
theorem Uv{N M:Nat}(r:Shut N F)(o:F.Ok (λi=>i<M) h):(Jx N F).Ok (λi=>i<M-N) (λk=>h (N+k)):=by
 have s:∀p c,c∈(Jx N F).kids p↔(Jx N F).par c=some p:=by
  intro p c;show c∈(F.kids (N+p)).map (·-N)↔NU N (F.par (N+c))=some p;constructor
  .intro u;obtain⟨z,d,e⟩:=BL.1 u;have l:=r.kids (N+p) z (by omega) d;have e2:z=N+c:=by omega
   subst e2;rw[(o.mem _ _).1 d];show some (N+p-N)=_;rw[Fu]
  intro t;unfold NU at t;obtain⟨q,a,e⟩:=Eu.1 t;have l:=r.par (N+c) q (by omega) a;have e2:q=N+p:=by omega
  subst e2;exact BL.2 ⟨N+c,(o.mem _ _).2 a,by omega⟩
 have n:∀p c,(Jx N F).par c=some p->F.par (N+c)=some (N+p):=by
  intro p c t;obtain⟨q,a,e⟩:=Eu.1 (show(F.par (N+c)).map (·-N)=some p from t);have l:=r.par (N+c) q (by omega) a;have e2:q=N+p:=by omega
  rw[<-e2];exact a
 refine⟨λp=> ?_,s,λp c t=> ?_,λp c t=> ?_⟩
 .show((F.kids (N+p)).map (·-N)).Nodup;exact Ng (o.nodup _) (λx hx=>r.kids _ x (by omega) hx)
 .have:=o.dom _ _ (n p c t);omega
 exact o.ht _ _ (n p c t)
theorem Mi{N:Nat}{o:Option Nat}(h:∀x,o=some x->N<=x):Au (λk=>Z (N+k)) (NU N o)=Au Z o:=by
 cases o with
 |none=>rfl
 |some x=>
  have:=h x rfl;show Value.pointer (some ⟨Z (N+(x-N)),0,none⟩)=Value.pointer (some ⟨Z x,0,none⟩);rw[show N+(x-N)=x by omega]
theorem Vr{N:Nat}(n:Shut N F){M:Nat}(o:F.Ok (λi=>i<M) h)(s:N<=i){d:Dn}(a:Il F i d):(∀x,d.par=some x->N<=x)/\(∀x,d.fst=some x->N<=x)/\(∀x,d.lst=some x->N<=x)/\(∀x,d.prv=some x->N<=x)/\∀x,d.nxt=some x->N<=x:=by
 refine⟨λx e=> ?_,λx e=> ?_,λx e=> ?_,λx e=> ?_,λx e=> ?_⟩
 .rw[a.par]at e;exact n.par i x s e
 .rw[a.fst]at e;exact n.kids i x s (List.mem_of_mem_head? e)
 .rw[a.lst]at e;exact n.kids i x s (List.mem_of_getLast? e)
 .cases t:F.par i with
  |none=>rw[(a.root t).1]at e;cases e
  |some p=>rw[(a.sib p t).1]at e;exact n.kids p x (n.par i p s t) (Qu e)
 cases t:F.par i with
 |none=>rw[(a.root t).2]at e;cases e
 |some p=>rw[(a.sib p t).2]at e;exact n.kids p x (n.par i p s t) (IN e)
theorem SI{N:Nat}(r:Shut N F){d:Dn}(a:Il F (N+i) d):Il (Jx N F) i (YK N d):=by
 have o:∀p,(Jx N F).par i=some p->F.par (N+i)=some (N+p):=by
  intro p t;obtain⟨q,n,e⟩:=Eu.1 (show(F.par (N+i)).map (·-N)=some p from t);have u:=r.par (N+i) q (by omega) n;have e2:q=N+p:=by omega
  rw[<-e2];exact n
 refine⟨?_,?_,?_,λh=> ?_,λp t=> ?_⟩
 .show NU N d.par=NU N (F.par (N+i));rw[a.par]
 .show NU N d.fst=((F.kids (N+i)).map (·-N)).head?;rw[a.fst,List.head?_map];rfl
 .show NU N d.lst=((F.kids (N+i)).map (·-N)).getLast?;rw[a.lst,List.getLast?_map];rfl
 .have l:F.par (N+i)=none:=by
   cases t:F.par (N+i)with
   |none=>rfl
   |some p=>
    have h:(F.par (N+i)).map (·-N)=none:=h;rw[t]at h;cases h
  obtain⟨e1,e2⟩:=a.root l;exact⟨by show NU N d.prv=none;rw[e1];rfl,by show NU N d.nxt=none;rw[e2];rfl⟩
 have n:=o p t;obtain⟨e1,e2⟩:=a.sib _ n;have s:∀x∈F.kids (N+p),N<=x:=λx hx=>r.kids _ x (by omega) hx;constructor
 .show NU N d.prv=F6 ((F.kids (N+p)).map (·-N)) i;have:=Sq (c:=N+i) s (by omega);rw[Fu]at this;rw[this,e1]
 show NU N d.nxt=EC ((F.kids (N+p)).map (·-N)) i;have:=K1 (c:=N+i) s (by omega);rw[Fu]at this;rw[this,e2]
theorem Br.second{N:Nat}{a:bY}(o:a.F.Ok (λi=>i<a.N) h)(l:Shut N a.F)(s:Br a.F (λi=>i<a.N) a.nd B Z V w):
 Br (IU N a).F (λi=>i<(IU N a).N) (IU N a).nd B (λk=>Z (N+k)) (λk=>YK N (V (N+k))) w:=by
 have t:∀i,i<(IU N a).N->N+i<a.N:=λi n=>by
  have:i<a.N-N:=n;omega
 refine⟨⟨λi n=> ?_,λi j n d e=> ?_,λi j n d p=>s.dom.sep (N+i) (N+j) (t i n) (t j d) (by omega)⟩,λi n=>SI l (s.fit (N+i) (t i n)),λi n=> ?_⟩
 .obtain⟨m,aa,ac,c,u⟩:=s.dom.node (N+i) (t i n);refine⟨m,aa,ac,?_,u⟩;obtain⟨f1,f2,g,y,f⟩:=Vr l o (show N<=N+i by omega) (s.fit (N+i) (t i n));have e:El (λk=>Z (N+k)) (YK N (V (N+i))) aa ac=El Z (V (N+i)) aa ac:=by
   unfold El YK;rw[Mi f1,Mi f2,Mi g,Mi y,Mi f]
  rw[e];exact c
 .have:=s.dom.inj (N+i) (N+j) (t i n) (t j d) e;omega
 have r:=s.self (N+i) (t i n);exact⟨r.typ,r.dat,r.ats⟩
theorem Br.first{a:bY}{m:Nat->Nat}(e:Jl s a h m)(o:s.F.Ok (λi=>i<s.N) h)(d:Br a.F (λi=>i<a.N) a.nd B Z V w):Br s.F (λi=>i<s.N) s.nd B Z V w:=by
 have n:∀i,i<s.N->i<a.N:=λi t=>AR t e.le;refine⟨⟨λi t=>d.dom.node i (n i t),λi j t l=>d.dom.inj i j (n i t) (n j l),λi j t l=>d.dom.sep i j (n i t) (n j l)⟩,λi t=> ?_,λi t=>by rw[<-e.ndo i t];exact d.self i (n i t)⟩;have r:=d.fit i (n i t);refine⟨by rw[r.par,e.par i t],by rw[r.fst,e.kids i t],by rw[r.lst,e.kids i t],λh=>r.root (by rw[e.par i t];exact h),λp c=> ?_⟩;have u:=(o.dom _ _ c).1;obtain⟨e1,e2⟩:=r.sib p (by rw[e.par i t];exact c);rw[e.kids p u]at e1 e2;exact⟨e1,e2⟩
theorem Br.apart{N:Nat}{a:bY}(f:N<=a.N)(t:Br a.F (λi=>i<a.N) a.nd B Z V w):R' N Z (λk=>k<a.N-N) (λk=>Z (N+k)) w:=by
 intro i m j c;refine⟨λe=> ?_,λg o=>⟨λh=> ?_,λe=> ?_⟩⟩
 .have:=t.dom.inj i (N+j) (by omega) (by omega) e;omega
 .exact t.dom.sep i (N+j) (by omega) (by omega) (by omega) g o h
 obtain⟨_,aa,ac,r,s⟩:=t.dom.node i (by omega);obtain⟨_,u,l,n,d⟩:=t.dom.node (N+j) (by omega);rw[E4 r]at o;exact Ax s n (by decide) (by rw[o,e])
theorem R'.symm{m:Nat}{t:Nat->Nat}{F2:Fo}{nd2:Nat->Nd}{y:Nat}{r:Nat->Dn}(h:R' n Z (λk=>k<m) t w)(f:Br F (λi=>i<n) H B Z V w)(c:Br F2 (λi=>i<m) nd2 y t r w):R' m t (λk=>k<n) Z w:=by
 intro j a i o;refine⟨λe=>(h i o j a).1 e.symm,λg s=>⟨λk=>((h i o j a).2 g k).1 s,λe=> ?_⟩⟩;obtain⟨_,aa,ac,u,l⟩:=c.dom.node j a;obtain⟨_,v,b,d,p⟩:=f.dom.node i o;rw[E4 u]at s;exact Ax l d (by decide) (by rw[s,e])
theorem PA.frame{m A:Nat}{a:Nat->Nat}{s0:bY}{b:Nat->Dn}{F2:Fo}{nd2:Nat->Nd}(h:PA n B w.heap.size Z w s C W wr)(h0:Br s0.F (λi=>i<n) s0.nd B Z V w)(l:Br F2 (λi=>i<m) nd2 A a b w)(p:R' n Z (λk=>k<m) a w):
 Br F2 (λi=>i<m) nd2 A a b wr/\R' s.N C (λk=>k<m) a wr:=by
 have E:∀j,j<m->wr.heap[a j]? =w.heap[a j]? :=λj t=>by
  obtain⟨_,aa,ac,d,y⟩:=l.dom.node j t;exact h.turn.block _ (AE.1 d).1 λi o=>⟨λe=>(p i o j t).1 e.symm,λe=>((p i o j t).2 _ e).2 rfl⟩
 have u:∀j,j<m->∀g,rowAt w (a j)=some g->wr.heap[g]? =w.heap[g]? /\g<w.heap.size:=λj t g r=>by
  obtain⟨_,aa,ac,d,y⟩:=l.dom.node j t;have f:=r;rw[E4 d]at f;have z:=y.lt g f;exact⟨h.turn.block _ z.2 λi o=>⟨λe=>by
   obtain⟨_,H,S,x,_⟩:=h0.dom.node i o;exact Ax y x (by decide) (by rw[f,e]),λe=>((p i o j t).2 g e).1 r⟩,z.2⟩
 have c:∀j,j<m->rowAt wr (a j)=rowAt w (a j):=λj t=>Ce (E j t);refine⟨⟨⟨λj t=> ?_,l.dom.inj,λi j o t q g r=> ?_⟩,l.fit,l.self⟩,λi o j t=> ?_⟩
 .obtain⟨O,aa,ac,d,y⟩:=l.dom.node j t;exact⟨O,aa,ac,(E j t).trans d,Cv y λg r _=>(u j t g (by rw[E4 d];exact r)).1⟩
 .rw[c i o]at r;rw[c j t];exact l.dom.sep i j o t q g r
 obtain⟨_,aa,ac,d,y⟩:=l.dom.node j t;have N:=(AE.1 d).1;refine⟨λe=> ?_,λg r=> ?_⟩
 .by_cases v:i<n
  .rw[h.old i v]at e;exact(p i v j t).1 e
  have:=h.new i (by omega) o;omega
 rw[c j t];rcases h.rw i o g r with⟨T,I⟩|T
 .exact(p i T j t).2 g I
 exact⟨λe=>by have:=(u j t g e).2;omega,by omega⟩
def R_(t:List Nd)(ns:List Nat)(w:AB)(e:Bx)(w':AB):Prop:=
 ∃L h r i s g n,e= .returned (.tuple #[.pointer (some ⟨i,0,none⟩),.pointer (some ⟨g,0,none⟩),.bool true])/\L<w'.heap.size/\Jm t w' w.heap.size L h r/\QH w' i L t.length s/\Fw h ns w.heap.size g n w'/\w.heap.size<=i/\AL w.heap.size w w'/\∃o a,DP w' s none 0 0 o a
theorem NI(a:Option Ai)(c:Nat)(t:List Nd)(E:CQ t)(D:Option Ai)(c2:Nat)(l:List Int)(ns:List Nat)(S:GX t.length l ns)(K:l.length<=2147483647)(w:AB)(h:Gp w w.heap.size a t)(Y:Kj w w.heap.size D l):
 AX AC 23 #[.slice a t.length c,.slice D l.length c2] w (R_ t ns w):=by
 have M:=AA (SD a c t E w h);have J:=AA E;have U:=AA S;have X:=AA Y;have j:=S.len;have z:=AA (show ns.length<=200 by have:=E.le;omega);clear E S h Y j;go_enter func23,ntmps23;go_wp2_with fail;refine M.o.mono ?_;rintro e y ⟨L,T,F,n,R,gd,rfl,G,H,b,W,C,f⟩;have m:n<y.heap.size:=(AE.1 b).1;have I:y.cell? ⟨n,0,none⟩=some (.slice (some ⟨L,0,none⟩) t.length t.length):=AZ y n 0 _ _ _ b;have O:y.cell? ⟨n,1,none⟩=some (.pointer (some ⟨R,0,none⟩)):=AZ y n 1 _ _ _ b;have B:=AA H;have q:=AA f;have A:=AA W;have Q:=AA b;have r:=AA (S7 t J.o.le _ L T F D c2 l ns U.o K y G H (X.o.up f));clear H f W b;go_wp2_with fail;refine r.o.mono ?_;rintro e N ⟨P,c1,rfl,u,o⟩;have k:=AA o;have s:B6 N N.heap.size P (Ad T ns):=by
  obtain⟨a2,c2,V,_,s⟩:=B6.own u;cases V
  exact s
 have HAdd:=AA (J9 T t.length ns U.o.lt U.o.nodup z.o P c1 R _ _ N s (B.o.nodes.kept o) (A.o.below o A.o.lt));replace I:=(o.cell (p:=⟨n,0,none⟩) m).trans I;replace O:=(o.cell (p:=⟨n,1,none⟩) m).trans O;clear u o s;go_wp2_with fail;refine HAdd.o.mono ?_;rintro e Z ⟨g,rfl,d,v⟩;have x:=AA d;have i:=AA (BT k.o v);clear d v I O;go_wp2_with fail;go_ret3;exact⟨L,T,F,n,R,g,_,rfl,AR G i.o.size,B.o.kept i.o,(i.o.block n m).trans Q.o,x.o.base (AH q.o.size k.o.size),C,BT q.o i.o,_,_,A.o.below i.o A.o.lt⟩
theorem LY{a b:Nat}(t:a<=b)(e:b<=c):EP a (b-a)++EP b (c-b)=EP a (c-a):=by
 have:=List.range'_append (s:=a) (m:=b-a) (n:=c-b) (step:=1);rw[Nat.one_mul,show a+(b-a)=b by omega,show b-a+(c-b)=c-a by omega]at this;exact this
def Xi(d:Nat):Prop:=∀(s:bY) (h:Nat->Nat) (x:Nat),s.F.Ok (λi=>i<s.N) h->x<s.N->h x<=d->(CZ d s x).op=false->
    ∃e,Ko s (CZ d s x) h e x/\(CZ d s x).F.all e s.N=EP s.N ((CZ d s x).N-s.N)
theorem Tp(o:s.F.Ok (λi=>i<s.N) h){a b:bY}{r n:Nat->Nat}(t:Ko s a h r x)(L:k<s.N)(d:Ko a b r n k)(U:h k<h x)(A:a.F.all r s.N=EP s.N (a.N-s.N))(C:b.F.all n a.N=EP a.N (b.N-a.N)):
 (b.Yz s.N s.N a.N).F.all n s.N=EP s.N ((b.Yz s.N s.N a.N).N-s.N):=by
 obtain⟨e,j⟩:=Hi t L d U;have S:=t.lt;have q:=d.lt;have f:∀y,y≠s.N->(b.Yz s.N s.N a.N).F.kids y=b.F.kids y:=λy R=>AI R;have v:∀c,c∈a.F.kids s.N->(b.Yz s.N s.N a.N).F.all n c=a.F.all r c:=by
  intro c z;have w:=(t.ok.mem s.N c).1 z;have g:=(t.ok.dom _ _ w).2;unfold Fo.all;rw[d.hold c g];refine Qj (λp c h=>(t.ok.mem p c).1 h) (r c) c λy u=> ?_;have I:y<a.N:=Fo.Up.ZO t.ok u g;have O:y≠s.N:=λe=>by
   subst e;have E:=t.ok.ht _ _ w;rcases Fo.Up.ht t.ok u with m|m
   .rw[<-m]at E;exact absurd E (Nat.lt_irrefl _)
   exact absurd E (Nat.lt_asymm m)
  rw[f y O,d.kids y I]
 have hnew:(b.Yz s.N s.N a.N).F.all n a.N=b.F.all n a.N:=by
  unfold Fo.all;refine Qj (λp c h=>(d.ok.mem p c).1 h) (n a.N) a.N λy u=>f y λe=> ?_;have:a.N<=y:=by
   clear e;induction u with
   |self=>exact AG _
   | @step y p D F M=>
     rcases Be y a.N with h|h
     .have N:=(d.par y h).symm.trans D;have:=(t.ok.dom _ _ N).1;omega
     exact h
  omega
 rw[Fo.all_eq e.ok,j,C9,List.flatMap_singleton,hnew,C];have m:(a.F.kids s.N).flatMap ((b.Yz s.N s.N a.N).F.all n)=(a.F.kids s.N).flatMap (a.F.all r):=by
  have:∀l:List Nat,(∀c∈l,c∈a.F.kids s.N)->l.flatMap ((b.Yz s.N s.N a.N).F.all n)=l.flatMap (a.F.all r):=by
   intro l;induction l with
   |nil=>intro _;rfl
   |cons c l T=>
    intro H;rw[A_,A_,T (λc z=>H c (Ab _ z)),v c (H c (by simp))]
  exact this _ (λ_ h=>h)
 rw[m,<-List.cons_append,<-Fo.all_eq t.ok,A];exact LY (Ca S) (Ca q)
theorem Xu{d:Nat}(j:Xi d)(o:s.F.Ok (λi=>i<s.N) h)(hx:x<s.N)(z:h x<=d+1):∀i,i<=(s.F.kids x).length->(DH d s x i).op=false->∃v,Ko s (DH d s x i) h v x/\(DH d s x i).F.all v s.N=EP s.N ((DH d s x i).N-s.N):=by
 intro i;induction i with
 |zero=>
  intro _ _;rw[EI];have e:=Em o hx;refine⟨_,e,?_⟩;have y:(s.fresh x).F.kids s.N=[]:=(DM o (AG _)).2;have T:(s.fresh x).N=s.N+1:=rfl;rw[Fo.all_eq e.ok,y,T,Fu];rfl
 |succ i m=>
  intro I f;obtain⟨u,w⟩:=MR o hx z (by omega) f;obtain⟨b,t,A⟩:=m (by omega) u;have g:=AD (l:=s.F.kids x) (n:=i) (by omega);have a:=(o.mem x _).1 g;have c:=(o.dom _ _ a).2;have r:=o.ht _ _ a;have q:=t.lt;have p:b (s.F.kids x)[i]<=d:=by rw[t.hold _ c];omega
  obtain⟨E,k,O⟩:=j (DH d s x i) b (s.F.kids x)[i] t.ok (by omega) p w;rw[Fy d s x (by omega)];exact⟨E,(Hi t c k r).1,Tp o t c k r A O⟩
theorem Xv(d:Nat):Xi d:=by
 induction d with
 |zero=>
  intro s h x o hx n t;have a:¬600<=s.N:=λa=>by
   have e:CZ 0 s x=(s.fresh x).shut:=by show(if 600<=s.N then _ else _)=_;rw[AJ a]
   rw[e]at t;cases t
  have e:CZ 0 s x=s.fresh x:=by show(if 600<=s.N then _ else _)=_;rw[AI a]
  rw[e];have r:=Em o hx;refine⟨_,r,?_⟩;have i:(s.fresh x).F.kids s.N=[]:=(DM o (AG _)).2;have u:(s.fresh x).N=s.N+1:=rfl;rw[Fo.all_eq r.ok,i,u,Fu];rfl
 |succ d l=>
  intro s h x o hx n t;have a:¬600<=s.N:=λa=>by
   have e:CZ (d+1) s x=(s.fresh x).shut:=by show(if 600<=s.N then _ else _)=_;rw[AJ a]
   rw[e]at t;cases t
  have e:=JB d s x a;rw[<-e]at t|-;exact Xu l o hx n _ (AG _) t
theorem Vg(o:s.F.Ok (λi=>i<s.N) h)(hx:∀x∈Y,x<s.N/\h x<=600)(f:∀i,i<=Y.length->(ET s (Y.take i)).op=false):∀k,k<=Y.length->∃a,YJ s h (ET s (Y.take k)) a/\((DR s Y).take k).flatMap ((ET s (Y.take k)).F.all a)=EP s.N ((ET s (Y.take k)).N-s.N):=by
 intro k;induction k with
 |zero=>
  intro _;exact⟨h,⟨Jl.refl o,λy r=>⟨y,r,rfl⟩⟩,by simp[ET]⟩
 |succ k j=>
  intro O;obtain⟨a,t,A⟩:=j (by omega);obtain⟨w,q⟩:=hx Y[k] (AD (by omega));have g:=Io s Y (k:=k) (by omega);obtain⟨d,n,b⟩:=Xv 600 (ET s (Y.take k)) a Y[k] t.old.ok (AR w t.old.le) (by rw[t.old.hold _ w];exact q) (by rw[<-g];exact f (k+1) O);rw[<-g]at n b;refine⟨d,⟨t.old.trans n.old,λy r=> ?_⟩,?_⟩
  .by_cases e:y<(ET s (Y.take k)).N
   .rw[n.ndo y e];exact t.nds y e
   obtain⟨z,E,e2⟩:=n.newn y (by omega) r;obtain⟨v,m,S⟩:=t.nds z E;exact⟨v,m,e2.trans S⟩
  have ht:(DR s Y).take (k+1)=(DR s Y).take k++[(ET s (Y.take k)).N]:=by
   rw[AF (by rw[Cy];omega),Kd s Y (by omega)]
  have e:=n.lt;rw[ht,C9,List.flatMap_singleton,b];have N:((DR s Y).take k).flatMap ((ET s (Y.take (k+1))).F.all d)=((DR s Y).take k).flatMap ((ET s (Y.take k)).F.all a):=by
   have T:∀c∈(DR s Y).take k,c<(ET s (Y.take k)).N:=Oa o hx (by omega);have:∀l:List Nat,(∀c∈l,c<(ET s (Y.take k)).N)->l.flatMap ((ET s (Y.take (k+1))).F.all d)=l.flatMap ((ET s (Y.take k)).F.all a):=by
    intro l;induction l with
    |nil=>intro _;rfl
    |cons c l u=>
     intro p;rw[A_,A_,u (λc I=>p c (Ab _ I)),n.Zb t.old.ok (p c (by simp))]
   exact this _ T
  rw[N,A];exact LY t.old.le (Ca e)
theorem Sl{e size:Nat}{xs:List AS}(h:w.ownsRow A e size (.slice a n c) n xs):GC w w.heap.size size a n xs:=by
 refine⟨h.1,λt=> ?_⟩;obtain⟨g,c2,e2⟩:=FW h t;injection e2 with i;subst i;exact⟨_,rfl,(h.lt g rfl).2,λj u o=>h.cells rfl j u o⟩
def XD(F:Fo)(h:Nat->Nat)(nd:Nat->Nd)(bl:Nat->Nat)(x:Nat)(w:AB)(e:Bx)(w':AB):Prop:=
 ∃t a c o c2,e= .returned (.tuple #[.slice a t.length c,.slice o (F.all h x).length c2])/\t.map Cj=(F.all h x).map (D4 F h nd)/\(∀e∈t,Ja w.heap.size w' e)/\
  w'.ownsRow w.heap.size 41 5 (.slice a t.length c) t.length (B7 t)/\w'.ownsRow w.heap.size 70 1 (.slice o (F.all h x).length c2) (F.all h x).length (Ad bl (F.all h x))/\AL w.heap.size w w'
theorem Mw(o:F.Ok S h)(s:∀i,S i->G' (H i))(hx:S x)(m:Br F S H B Z V w)(r:(F.all h x).length<=100000):
 AX AC 25 #[.pointer (some ⟨Z x,0,none⟩),.slice none 0 0,.slice none 0 0] w (XD F h H Z x w):=by
 refine(Nx o s w.heap.size (h x+1) x (.slice none 0 0) (.slice none 0 0) [] [] w (by omega) hx m (AG _) (Aw _ _ _ _) (Aw _ _ _ _) (by simpa using r) (by simpa using r) ⟨_,_,rfl⟩ ⟨_,_,rfl⟩).mono ?_;rintro e g ⟨f,a,c,y,c2,rfl,n,t,d,l,-,-,u⟩;simp only[BY]at n t d l|-;exact⟨f,a,c,y,c2,rfl,n,t,d,l,u.below (AG _) (by intro x hx;simp[A6]at hx) (by intro x hx;simp[A6]at hx)⟩
theorem Tr(o:F.Ok S h)(n:∀i,S i->G' (H i))(hx:S x)(r:Br F S H B Z V w)(s:(F.all h x).length<=100000):
 AX AC 28 #[.pointer (some ⟨Z x,0,none⟩)] w (λe w'=>∃t a c,e= .returned (.slice a t.length c)/\t.map Cj=(F.all h x).map (D4 F h H)/\(∀e∈t,Ja w.heap.size w' e)/\w'.ownsRow w.heap.size 41 5 (.slice a t.length c) t.length (B7 t)/\AL w.heap.size w w'):=by
 have y:=AA (Mw o n hx r s);clear o n hx r s;go_enter func28,ntmps28;go_wp2_with fail;refine y.o.mono ?_;rintro e k ⟨t,a,c,q,c2,rfl,m,u,l,f,d⟩;have v:=AA m;have b:=AA u;have p:=AA l;have g:=AA d;clear m u l f d;go_wp2;go_ret;exact⟨t,a,c,rfl,v.o,b.o,p.o,g.o⟩
theorem PA.aR{C:Nat}{s0:bY}{r:Nat->Nat}(h:PA n B C Z w s r W wr)(h0:Br s0.F (λi=>i<n) s0.nd B Z V w)(o:w.heap.size<=C){m l u D:Nat}{t:Nat->Nat}{A:Option Ai}{c:Nat}(e:VJ t m l u D A c L w):VJ t m l u D A c L wr:=by
 obtain⟨a,d⟩:=e.none_;exact⟨h.other h0 e.box (by decide) (by decide) (AR (AE.1 e.box).1 o),h.own h0 e.all (by decide) (by decide) λg f=>AR (e.all.lt g f).2 o,a,h.other h0 d (by decide) (by decide) (AR d.lt o)⟩
def EJ(t:List Nd):bY:=⟨Oo t,t.length,ND t,false⟩
theorem N4(a:Df r s)(w:∀x∈Y,Fe s x):({s with F:=(E5 s (Cm s.F Y)).F}:bY)=E5 s (Cm s.F Y)/\Df r (E5 s (Cm s.F Y)):=by
 obtain⟨d,o⟩:=a.ok;obtain⟨m,-,f⟩:=Ec s.F Y;have i:∀q∈Cm s.F Y,s.F.par q≠none:=λq y=>by
  obtain⟨x,h,e⟩:=f q y;obtain⟨p,u,e1,e2,-⟩:=w x h;rw[e]at e1;cases e1
  rw[e2];simp
 obtain⟨c,t,l,n,-⟩:=Hu o (Cm s.F Y) m i _ (AG _);rw[AU]at c t l n;refine⟨?_,⟨d,by rw[t];exact c⟩,by rw[t];exact a.le,by rw[t];exact a.few,a.r2,by rw[n];exact a.op⟩;rw[<-t,<-l,<-n]
section
variable {r n g fc fb:Nat} {kb:Nat->Nat} {w:AB} {s:bY} {kb':Nat->Nat} {wr:AB}
theorem RS.put(R:RS r n g fc fb kb w s kb' wr){e:Bx}(P:J7 s.F (λi=>i<s.N) s.nd (M1 r) fb kb' p k x wr e M):
 e= .returned (.tuple #[])/\RS r n g fc fb kb w {s with F:=s.F.put p k x} kb' M:=by
 obtain⟨rfl,a,t⟩:=P;exact⟨rfl,a,R.Y8 t,R.old,R.new,R.ZU t⟩
theorem RS.an(R:RS r n g fc fb kb w s kb' wr){e:Bx}(P:MD s.F (λi=>i<s.N) s.nd (M1 r) fb kb' p k x wr e M):
 e= .returned (.tuple #[])/\RS r n g fc fb kb w {s with F:=(s.F.cut x).put p k x} kb' M:=by
 obtain⟨rfl,a,t⟩:=P;exact⟨rfl,a,R.Y8 t,R.old,R.new,R.ZU t⟩
end
theorem Tryz.aK:(Tryz.prog.info? 54).map (λi=>(i.zero,i.size,i.bytes))=some (some (.slice none 0 0),1,24):=by kernel_rfl
def TH(B:Nat)(kb:Nat->Nat)(w:AB)(vs:List AS)(G:List (List Nat)):Prop:=vs.length=G.length/\∀i (h:i<G.length),∃a c,vs[i]? =some (.slice a G[i].length c)/\w.ownsRow B 57 1 (.slice a G[i].length c) G[i].length (Ad kb G[i])
def RD(B:Nat)(kb:Nat->Nat)(w:AB)(v:AS)(G:List (List Nat)):Prop:=∃e,w.ownsRow B 54 1 v G.length e/\TH B kb w e G
theorem RD.rs{r n g fc fb:Nat}{kb:Nat->Nat}{w:AB}{s:bY}{kb':Nat->Nat}{wr:AB}{G:List (List Nat)}(h:RD fb kb w v G)(f:∀i,i<n->∃o,w.heap[kb i]? =some (.cells o 81 (0,0)))(d:∃o,w.heap[fb]? =some (.cells o 56 (0,0)))(R:RS r n g fc fb kb w s kb' wr):RD fb kb wr v G:=by
 obtain⟨y,m,b,p⟩:=h;obtain⟨k,d⟩:=d;refine⟨y,R.kept m (λi t=> ?_) (Ax m d (by decide)),b,λi t=> ?_⟩
 .obtain⟨o,l⟩:=f i t;exact Ax m l (by decide)
 obtain⟨a,c,e,u⟩:=p i t;refine⟨a,c,e,R.kept u (λi t=> ?_) (Ax u d (by decide))⟩;obtain⟨o,l⟩:=f i t;exact Ax u l (by decide)
theorem RD.at_{kb:Nat->Nat}{w:AB}{G:List (List Nat)}(h:RD B kb w v G)(h0:0<G.length):∃b o c,v= .slice (some ⟨b,o,none⟩) G.length c/\∀i (d:i<G.length),∃a c,w.cell? ⟨b,o+i,none⟩=some (.slice a G[i].length c)/\w.ownsRow B 57 1 (.slice a G[i].length c) G[i].length (Ad kb G[i]):=by
 obtain⟨l,p,j,y⟩:=h;obtain⟨A,c,u,k,hr⟩:=B6.own p;obtain⟨b,o,rfl,q,m⟩:=hr.at_ (by omega);refine⟨b,o,c,u,λi d=> ?_⟩;obtain⟨a,c2,e,f⟩:=y i d;refine⟨a,c2,?_,f⟩;have t:i<l.length:=by omega
 rw[AK t]at e;rw[m i t];exact e
theorem Jv{w:AB}{d m s1 s2 n1 n2:Nat}{e1 e2:Dk}{v1 v2:AS}{t o:List AS}(h:w.ownsRow d e1 s1 v1 n1 t)(u:w.ownsRow m e2 s2 v2 n2 o)(i:e2≠e1)(l:w.grownBy M v2.ownBlock):M.ownsRow d e1 s1 v1 n1 t:=by
 refine h.kept l ?_;cases e:v1.ownBlock with
 |none=>exact .inl rfl
 |some b=>
  refine .inr λe2=> ?_;rcases h.2 with⟨a,_⟩|⟨y,cap,f,a,_,c,_⟩
  .rw[a]at e;simp[A6]at e
  rw[a]at e;simp[A6]at e;subst e;exact Ax u c i e2.symm
theorem TH.kept{kb:Nat->Nat}{w:AB}{vs:List AS}{G:List (List Nat)}(h:TH B kb w vs G)(t:∀a n c xs,w.ownsRow B 57 1 (.slice a n c) n xs->M.ownsRow B 57 1 (.slice a n c) n xs):TH B kb M vs G:=by
 refine⟨h.1,λi o=> ?_⟩;obtain⟨a,c,e,d⟩:=h.2 i o;exact⟨a,c,e,t _ _ _ _ d⟩
theorem TH.snoc{kb:Nat->Nat}{w:AB}{vs:List AS}{G:List (List Nat)}(h:TH B kb w vs G){y:List Nat}{n:Nat}(d:n=y.length)(o:w.ownsRow B 57 1 (.slice a y.length c) y.length (Ad kb y)):TH B kb w (vs++[.slice a n c]) (G++[y]):=by
 subst d;have t:=h.1;refine⟨by simp[t],λi l=> ?_⟩;by_cases e:i<G.length
 .obtain⟨f,c2,e2,u⟩:=h.2 i e;rw[List.getElem_append_left e];exact⟨f,c2,by rw[List.getElem?_append_left (by omega)];exact e2,u⟩
 have m:i=G.length:=by simp at l;omega
 subst m;rw[List.getElem_append_right (AG _)];simp only[Nat.sub_self,List.getElem_cons_zero];exact⟨a,c,by rw[List.getElem?_append_right (by omega),t];simp,o⟩
theorem Hv{w:AB}{rest:List Oper}{o:Oper}{a:Act}(b:o.guard=none)(s x:Operand)
 (I:o.op= .call {callee:= .builtin .append,args:= #[s,x],argTypes:= #[118,118]})
 (base:Nat)(v:AS)(n:Nat)(xs:List AS)(O:a.eval s=v)(d:w.ownsRow base 54 1 v n xs)
 (A:Option Ai)(c:Nat)(y:AS)(E:y.oneCell'=true)(hx:a.eval x= .slice A 1 c)(hr:B6 w w.heap.size A [y])(j:n<=1000000)(e:base<=w.heap.size)
 (h:∀i t w',w'.ownsRow base 54 1 (.slice i (n+1) t) (n+1) (xs++[y])->w.grownBy w' v.ownBlock->((AO i (n+1) t).ownBlock=v.ownBlock\/(AO i (n+1) t).ownBlock=some w.heap.size)->wpList AC T Q rest (a.put o.dst (.slice i (n+1) t)) w'):
 wpList AC T Q (o::rest) a w:=by
 obtain⟨z,l,p,f,m⟩:=D6 Tryz.aK;refine FY w b s x 118 I base 54 z (.slice none 0 0) 1 24 underlying118 l p f m rfl (by decide) v n xs O d w.heap.size A 1 c [y] hx hr.reads (λu k=>by rw[AP]at k;rw[k];exact E) (by unfold maxLen;omega) (by omega) e ?_;intro H w' q S N;obtain⟨i,t,rfl⟩:=DA q;exact h i t w' q S N
theorem Ri(w:AB)(t:Dk)(v:AS):B6 (w.alloc (.cells #[v] t)) (w.alloc (.cells #[v] t)).heap.size (some ⟨w.heap.size,0,none⟩) [v]:=by
 refine .inr ⟨w.heap.size,0,rfl,by simp,λq e=> ?_⟩;have a:q=0:=by simp at e;omega
 subst a;rw[BI];rfl
theorem Rb(w:AB)(t:Dk)(v:AS):(w.alloc (.cells #[v] t)).ownsRow w.heap.size t 1 (.slice (some ⟨w.heap.size,0,none⟩) 1 1) 1 [v]:=
 ⟨by simp,.inr ⟨w.heap.size,1,_,rfl,AG _,Ah w _,AG _,by simp[maxLen],rfl,rfl⟩⟩
theorem RS.ay{a o:Nat}{e:Nat->Nat}{t:AB}(R:RS r n g a o O w s e t):RS r s.N g a o e t s e t:=⟨R.kno,R.fst,λ_ _=>rfl,λy h i=>by omega,Al.refl _ _ _⟩
theorem RS.trans{d l:Nat}{a:Nat->Nat}{u:AB}(R:RS r n g d l O w s a u)(k:n<=s.N){s2:bY}{kb2:Nat->Nat}(Q:RS r s.N g d l a u s2 kb2 M)(v:s.N<=s2.N):RS r n g d l O w s2 kb2 M:=by
 refine⟨Q.kno,Q.fst,λy m=>(Q.old y (by omega)).trans (R.old y m),λy p f=> ?_,?_⟩
 .by_cases e:y<s.N
  .rw[Q.old y e];exact R.new y p e
  have:=Q.new y (by omega) f;have:=R.turn.size;omega
 refine⟨Q.turn.os.trans R.turn.os,Q.turn.tape.trans R.turn.tape,Q.turn.output.trans R.turn.output,AH R.turn.size Q.turn.size,λb c t=> ?_⟩;rw[Q.turn.block b (AR c R.turn.size) (λi _=> ?_)]
 .exact R.turn.block b c t
 unfold UE;split
 .rename_i h;by_cases o:i<n
  .have:=t i trivial;unfold UE at this;rw[AJ o]at this;rw[R.old i o];exact this
  have:=R.new i (by omega) h;omega
 have:=t n trivial;unfold UE at this;rw[AI (by omega)]at this;exact this
theorem RS.self{t a:Nat}(R:RS r n g t a O w s O w)(o:s.N<=n)(e:AL w.heap.size w M):RS r n g t a O M s O M:=
 ⟨R.kno.up e,(e.block _ (AE.1 R.fst).1).trans R.fst,λ_ _=>rfl,λy h i=>by omega,Al.refl _ _ _⟩
theorem Ut(y u:AS)(vs:List AS):(vs++[y]).set vs.length u=vs++[u]:=by
 rw[List.set_append];simp
def L'(op:Int)(s:bY)(on:List Nat)(w:Nat)(G:List (List Nat)):Prop:=
 (op=10/\G=[on])\/(op=9/\G=on.map λx=>[x])\/(op=11/\G=on.map s.F.kids/\∀x∈on,(s.nd x).kind=3/\s.F.kids x≠[]/\¬s.F.Up x w)
def RH(r g o a:Nat)(kb:Nat->Nat)(op:Int)(s:bY)(on:List Nat)(wi:Nat)(w:AB)(e:Bx)(w':AB):Prop:=
 ∃b,e= .returned (.bool b)/\(b=true->(s.nd wi).kind=3/\II s.F s.nd 600 wi≠none/\(∀x∈on,¬s.F.Up wi x)/\(∀x∈on,s.F.par x≠none)/\∃G s2 t W,L' op s on wi G/\EX s wi G s2/\AL w.heap.size w W/\RS r s.N g o a kb W s2 t w')/\AL a w w'
def RF(r g a o:Nat)(kb:Nat->Nat)(s:bY)(wi:Nat)(G:List (List Nat))(wc:AB)(v:AS)(wr:AB):Prop:=
 ∃i e t,i<=G.length/\v= .int .i64 (i:Nat)/\Hid (Df r e)/\Hid (O4 e wi (G.drop i))/\Hid (∀s2,EX e wi (G.drop i) s2->EX s wi G s2)/\Hid (∀y,y<e.N->∃z,z<s.N/\e.nd y=s.nd z)/\Hid (s.N<=e.N)/\Hid (RS r s.N g a o kb wc e t wr)
theorem Vv(d:Df r s){w:Nat}{G:List (List Nat)}(h:L' U s I w G)(i:I≠[])(e:I.Nodup)(hx:∀x∈I,x<s.N)(t:w<s.N)(o:II s.F s.nd 600 w≠none)(a:∀x∈I,¬s.F.Up w x)(n:∀x∈I,s.F.par x≠none):O4 s w G:=by
 rcases h with⟨-,rfl⟩|⟨-,rfl⟩|⟨-,rfl,h⟩
 .exact O4.all i e hx t o a n
 .exact O4.Z2 e hx t o a n
 exact O4.inner d e hx t o a (λx hx=>(h x hx).2.1) (λx hx=>(h x hx).2.2)
theorem TE(hs:Df r s)(hnb:∀i,i<s.N->Kk (s.nd i)/\(s.nd i).attrs.length<=2000){J f:Nat}(hK:KS r g J f s O w)(hfw:f<=w.heap.size){op:Int}(X:op=9\/op=10\/op=11)
 (on:List Nat)(hnd:on.Nodup)(hxr:∀x∈on,x<r)(hne:on≠[])(wi:Nat)(hwr:wi<r)(a:Option Ai)(c:Nat)(ho1:w.ownsRow f 57 1 (.slice a on.length c) on.length (Ad O on)):
 AX AC 42 #[.pointer (some ⟨f,0,none⟩),.int .i64 op,.slice a on.length c,.pointer (some ⟨O wi,0,none⟩)] w (RH r g J f O op s on wi w):=by
 obtain⟨d0,o0,hl0⟩:=hs.ZP;have hle:=hs.le;have hfew:=hs.few;have hr2:=hs.r2;have hR:=hK.rs;have hwn:wi<s.N:=by omega
 have hxs:∀x∈on,x<s.N:=λx h=>by have:=hxr x h;omega
 have hxl:on.length<=200:=by have:=BH hnd hxr;omega
 have hk1:=hR.kno.kind (i:=wi) hwn;have HIn:=AA (Jp o0 hR.kno wi hwn (λp=>by have:=o0.Yu (λi D=>D) p;omega));rw[PM o0 s.nd (d0 wi) 600 wi (AG _) (hl0 wi hwn)]at HIn;obtain⟨W1,hW1⟩:∃W1,W1=w.alloc (.cells #[.pointer (some ⟨O wi,0,none⟩)] 57):=⟨_,rfl⟩;have Z:AL w.heap.size w W1:=by rw[hW1];exact Ac
 have HAp:Hid (AX AC 59 #[.slice (some ⟨w.heap.size,0,none⟩) 1 1,.slice a on.length c] W1 λe w'=>∃b,e= .returned (.bool b)/\(b=true->GB s.F [wi] on)/\AL W1.heap.size W1 w'):=
  Fg o0 (OO d0 s.N) [wi] on (λm hm=>by rw[AP]at hm;subst hm;exact hwn) hxs (by simp) (by omega) _ _ a c W1 (hR.kno.up Z) (by rw[hW1];exact E8 w O wi _ rfl) ((Bh ho1).up Z)
 have HSt:Hid (∀W,AL w.heap.size w W->AX AC 60 #[.slice a on.length c] W λe w'=>∃b,e= .returned (.bool b)/\(b=true->∀m∈on,s.F.par m≠none)/\W=w'):=λW S=>JT on hxs (by omega) a c W (hR.kno.up S) ((Bh ho1).up S);have HBw:Hid (∀W,AL w.heap.size w W->AL f w W):=λW S=>S.mono hfw;have HR:=AA hR;have HK:=AA hK;have HS:=AA hs;have HO1:=AA ho1;have HNe:=AA hne;have HXs:=AA hxs;have HXr:=AA hxr;have HNd:=AA hnd;have HNb:=AA hnb;have HOp:=AA X;clear hR ho1 hnb hne o0 hxs hK hs hxr hnd hl0 X;go_enter func42,ntmps42;have HQ0:Hid (AL f w w):=AW _ _;by_cases hk3:(s.nd wi).kind=3
 case neg=>
  have ez:((s.nd wi).kind !=3)=true:=by simpa using hk3
  clear hk3;go_wp2;go_ret;exact⟨false,rfl,by simp,HQ0.o⟩
 have HK3:=AA hk3;have ez:((s.nd wi).kind !=3)=false:=by rw[hk3];rfl
 clear hk3;go_wp2_with fail;refine HIn.o.mono ?_;rintro e I ⟨rfl,rfl⟩;cases hin:II s.F s.nd 600 wi with
 |none=>
  simp only[Au,BF];go_wp2;go_ret;exact⟨false,rfl,by simp,HQ0.o⟩
 |some z=>
  simp only[Au,As];have HOne:Hid (II s.F s.nd 600 wi≠none):=by rw[Hid,hin];simp
  clear hin HIn;go_wp2_with fail;rw[<-hW1];refine HAp.o.mono ?_;rintro e w2 ⟨b2,rfl,hA,H⟩;have HB2:=AA (BT Z H);have HA0:=AA hA;clear Z H hA hW1 HAp;cases b2
  .go_wp2;go_ret;exact⟨false,rfl,by simp,HBw.o _ HB2.o⟩
  have HA:Hid (∀x∈on,¬s.F.Up wi x):=λx hx u=>by
   obtain⟨j,hj,rfl⟩:=An hx;exact(HA0.o rfl).2 0 j (by simp) hj u
  clear HA0;have HS2:=AA (HSt.o w2 HB2.o);go_wp2_with fail;refine HS2.o.mono ?_;rintro e w3 ⟨b3,rfl,hP,rfl⟩;cases b3
  .go_wp2;go_ret;exact⟨false,rfl,by simp,HBw.o _ HB2.o⟩
  have HPar:=AA (hP rfl);clear hP HS2 HSt
  go_upto_if 45 with fail;obtain⟨W2,hW2⟩:∃W2,W2=w2.alloc (.cells #[.slice a on.length c] 54):=⟨_,rfl⟩;rw[<-hW2];have hbW:AL I.heap.size I W2:=by rw[hW2];exact HB2.o.alloc HB2.o.size _
  have hG1:Hid (RD f O W2 (.slice (some ⟨w2.heap.size,0,none⟩) 1 1) [on]):=by
   have h1:=Rb w2 54 (.slice a on.length c);rw[<-hW2]at h1;refine⟨_,Bf h1 (AH hfw HB2.o.size),rfl,λi D=> ?_⟩;have e0:i=0:=by simp at D;omega
   subst e0;exact⟨a,c,rfl,BB HO1.o λb _ h2=>hbW.block b h2⟩
  have HBW:=AA hbW;clear hbW hW2
  go_cut [9,10] (λv9 v10 wx=>∃G Y F,v9= .slice Y G.length F/\Hid (L' op s on wi G)/\Hid (RD f O wx (.slice Y G.length F) G)/\AL I.heap.size I wx)
  case first=>
   rcases HOp.o with rfl|rfl|rfl
   .clear HOp hG1;go_wp2_with fail
    go_loopg [9,10] (on.length) (λgk v9 v10 wr=>∃(k:Nat) (Y:Option Ai) (F:Nat),gk=on.length-k/\k<=on.length/\v10= .int .i64 (k:Nat)/\v9= .slice Y k F/\(∃vs,wr.ownsRow I.heap.size 54 1 (.slice Y k F) k vs/\Hid (TH f O wr vs ((on.take k).map λx=>[x])))/\AL I.heap.size I wr)
    .exact⟨0,none,0,by omega,AY _,rfl,rfl,⟨[],Aw _ _ _ _,⟨by simp,λi D=>by simp at D⟩⟩,HBW.o⟩
    obtain⟨k,Y,F,rfl,hk,rfl,rfl,⟨vs,A,hv⟩,S⟩:=hrel;obtain⟨d,rfl⟩:∃d:AB,d=wr:=⟨_,rfl⟩;by_cases U:k<on.length
    .obtain⟨b,o,rfl,hbB,hc⟩:=((Bh HO1.o).up S).at_ (by rw[AM];omega);have g1:=hc k (by rw[AM];exact U);rw[A5 U]at g1;obtain⟨X1,hX1⟩:∃X1,X1=d.alloc (.cells #[.pointer (some ⟨O on[k],0,none⟩)] 57):=⟨_,rfl⟩;obtain⟨X2,hX2⟩:∃X2,X2=X1.alloc (.cells #[.slice (some ⟨d.heap.size,0,none⟩) 1 1] 54):=⟨_,rfl⟩;have hs1:X1.heap.size=d.heap.size+1:=by rw[hX1];simp
     have Z:AL d.heap.size d X1:=(by rw[hX1];exact Ac);have H:AL d.heap.size d X2:=(by rw[hX2];exact Z.alloc Z.size _);have hb12:AL X1.heap.size X1 X2:=(by rw[hX2];exact Ac);have hfb0:f<=d.heap.size:=AH hfw S.size;have HO2:Hid (X2.ownsRow I.heap.size 54 1 (.slice Y k F) k vs):=BB A λb _ h2=>H.block b h2;have HNew:Hid (X2.ownsRow f 57 1 (.slice (some ⟨d.heap.size,0,none⟩) 1 1) 1 (Ad O [on[k]])):=by
      have h1:=Rb d 57 (.pointer (some ⟨O on[k],0,none⟩));rw[<-hX1]at h1;exact Bf (BB h1 λb _ h2=>hb12.block b h2) hfb0
     have HRl:Hid (B6 X2 X2.heap.size (some ⟨d.heap.size+1,0,none⟩) [.slice (some ⟨d.heap.size,0,none⟩) 1 1]):=(by rw[hX2,<-hs1];exact Ri X1 54 _);have HSz:Hid (I.heap.size<=X2.heap.size):=AH S.size H.size;have HV:Hid (∀w2:AB,X2.grownBy w2 (AO Y k F).ownBlock->TH f O w2 (vs++[.slice (some ⟨d.heap.size,0,none⟩) 1 1]) ((on.take (k+1)).map λx=>[x])):=λw2 hg=>by
      rw[AF U,B3];exact((hv.o.kept λa n c xs h=>BB h λb _ h2=>H.block b h2).kept λa n c xs h=>Jv h HO2.o (by decide) hg).snoc rfl (Jv HNew.o HO2.o (by decide) hg)
     have HBw2:Hid (∀w2:AB,X2.grownBy w2 (AO Y k F).ownBlock->AL I.heap.size I w2):=λw2 hg=>(BT S H).grown hg HSz.o (λb e=>(HO2.o.lt b e).1);have HB2:=AA H;have hs2:=H.size;have HB:=AA S;clear hc S Z H hb12 A hv;subst hX2;subst hX1;go_wp2_with(at_builtin;refine Hv rfl (.tmp 52) (.tmp 58) rfl I.heap.size (.slice Y k F) k vs rfl HO2.o (some ⟨_,0,none⟩) 1 (.slice (some ⟨d.heap.size,0,none⟩) 1 1) rfl rfl HRl.o (by omega) HSz.o ?_);intro a5 c5 w5 V hgr5 hat5;have HV5:=AA (HV.o w5 hgr5);have M:=AA (HBw2.o w5 hgr5);have HO5:=AA V;clear hgr5 hat5 V HV HBw2;go_wp2_with fail
     go_roundg (on.length-(k+1))
     case measure=>omega
     exact⟨k+1,a5,c5,rfl,U,by go_num,rfl,⟨_,HO5.o,HV5.o⟩,M.o⟩
    have e:k=on.length:=(by omega);subst e;rw[AU]at hv;have hle9:(on.map λx=>[x]).length=on.length:=Aq _;have HD:Hid (∃G ga' gc',AO Y on.length F= .slice ga' G.length gc'/\Hid (L' 9 s on wi G)/\Hid (RD f O d (.slice ga' G.length gc') G)/\AL I.heap.size I d):=⟨on.map λx=>[x],Y,F,by rw[hle9],.inr (.inl ⟨rfl,rfl⟩),⟨vs,by rw[hle9];exact Bf A hfw,hv.o⟩,S⟩;clear A hv S hle9;go_wp2_with fail
    go_meet;exact HD.o
   .have HD:Hid (∃G Y F,(AO (some ⟨w2.heap.size,0,none⟩) 1 1)= .slice Y G.length F/\Hid (L' 10 s on wi G)/\Hid (RD f O W2 (.slice Y G.length F) G)/\AL I.heap.size I W2):=⟨[on],_,1,rfl,.inl ⟨rfl,rfl⟩,hG1.o,HBW.o⟩;clear HOp hG1;go_wp2_with fail
    go_meet;exact HD.o
   clear HOp hG1;go_wp2_with fail;have hI0:∃ab cap,a=some ⟨ab,0,none⟩/\c=cap/\on.length<=cap/\cap<=maxLen:=by
    rcases HO1.o.2 with⟨e,e2⟩|⟨ab,cap,cur,e,_,_,hn,hm,_⟩
    .exact absurd (Ag e2) HNe.o
    cases e;exact⟨ab,_,rfl,rfl,hn,hm⟩
   obtain⟨ab,cap,rfl,rfl,hcap,hcapm⟩:=hI0;obtain⟨d0,o0,hl0⟩:=HS.o.ZP;have HO0:=AA o0;clear o0 hl0
   go_loopg [9,10] (on.length) (λgk v9 v10 wr=>∃(k:Nat) (Y:Option Ai) (F:Nat),gk=on.length-k/\k<=on.length/\v10= .int .i64 (k:Nat)/\v9= .slice Y k F/\(∃vs,wr.ownsRow I.heap.size 54 1 (.slice Y k F) k vs/\Hid (TH f O wr vs ((on.take k).map s.F.kids)))/\Hid (∀x∈on.take k,(s.nd x).kind=3/\s.F.kids x≠[]/\¬s.F.Up x wi)/\AL I.heap.size I wr)
   .exact⟨0,none,0,by omega,AY _,rfl,rfl,⟨[],Aw _ _ _ _,⟨by simp,λi D=>by simp at D⟩⟩,(λx h=>by simp at h),HBW.o⟩
   obtain⟨k,Y,F,rfl,hk,rfl,rfl,⟨vs,A,hv⟩,HY,S⟩:=hrel;obtain⟨d,rfl⟩:∃d:AB,d=wr:=⟨_,rfl⟩;by_cases U:k<on.length
   .have hcells:∀W,AL I.heap.size I W->W.cell? ⟨ab,k,none⟩=some (.pointer (some ⟨O on[k],0,none⟩)):=λW hW=>by
     have:=((Bh HO1.o).up hW).at_ (by rw[AM];omega);obtain⟨b,o,e,_,hc⟩:=this;cases e
     have g1:=hc k (by rw[AM];exact U);rw[A5 U,By]at g1;exact g1
    have HCl:=AA hcells;have g1:=hcells d S;obtain⟨x,hx⟩:∃x,x=on[k]:=⟨_,rfl⟩;have hxm:x∈on:=(by rw[hx];exact AD U);have hxn:=HXs.o x hxm;rw[<-hx]at g1 HCl;obtain⟨X1,hX1⟩:∃X1,X1=d.alloc (.cells #[.pointer (some ⟨O x,0,none⟩)] 57):=⟨_,rfl⟩;obtain⟨X2,hX2⟩:∃X2,X2=X1.alloc (.cells #[.slice (some ⟨d.heap.size,0,none⟩) 1 1] 54):=⟨_,rfl⟩;have hs1:X1.heap.size=d.heap.size+1:=(by rw[hX1];simp);have Z:AL d.heap.size d X1:=(by rw[hX1];exact Ac);have H:AL d.heap.size d X2:=(by rw[hX2];exact Z.alloc Z.size _);have HO2:Hid (X2.ownsRow I.heap.size 54 1 (.slice Y k F) k vs):=BB A λb _ h2=>H.block b h2;have HRl:Hid (B6 X2 X2.heap.size (some ⟨d.heap.size+1,0,none⟩) [.slice (some ⟨d.heap.size,0,none⟩) 1 1]):=(by rw[hX2,<-hs1];exact Ri X1 54 _);have HSz:Hid (I.heap.size<=X2.heap.size):=AH S.size H.size;have HV:Hid (∀w2:AB,X2.grownBy w2 (AO Y k F).ownBlock->TH f O w2 vs ((on.take k).map s.F.kids)):=λw2 hg=>
     (hv.o.kept λa n c xs h=>BB h λb _ h2=>H.block b h2).kept λa n c xs h=>Jv h HO2.o (by decide) hg
    have HBw2:Hid (∀w2:AB,X2.grownBy w2 (AO Y k F).ownBlock->AL I.heap.size I w2):=λw2 hg=>(BT S H).grown hg HSz.o (λb e=>(HO2.o.lt b e).1);have HTk:Hid (on.take (k+1)=on.take k++[x]):=(by rw[Hid,AF U,hx]);have HB:=AA S;clear S Z H A hv hcells hx;subst hX2;subst hX1;go_wp2_with(at_builtin;refine Hv rfl (.tmp 52) (.tmp 58) rfl I.heap.size (.slice Y k F) k vs rfl HO2.o (some ⟨_,0,none⟩) 1 (.slice (some ⟨d.heap.size,0,none⟩) 1 1) rfl rfl HRl.o (by omega) HSz.o ?_);intro a5 c5 w5 V hgr5 hat5;have HV5:=AA (HV.o w5 hgr5);have M:=AA (HBw2.o w5 hgr5);have hI5:∃gb,a5=some ⟨gb,0,none⟩/\k+1<=c5/\I.heap.size<=gb/\(∃cs,w5.heap[gb]? =some (.cells cs 54 (0,0))):=by
     rcases V.2 with⟨e,e2⟩|⟨gb,cp,cur,e,hg,hh,hn,hm,_⟩
     .omega
     cases e;exact⟨gb,rfl,hn,hg,_,hh⟩
    obtain⟨gb,rfl,hc5,hgb,cs5,hh5⟩:=hI5;have HO5:=AA V;have hf5:=A7 w5 gb k _ _ hh5;have hK5:=HK.o.kno.up M.o;have g5:=HCl.o w5 M.o;obtain⟨-,-,-,ka,kc,c7,hkc,hkr⟩:=hK5.cells hxn;have HAre:=AA (J_ [x] (λm hm=>by rw[AP]at hm;subst hm;exact hxn) (by simp) (some ⟨ab,k,none⟩) (c-k) w5 hK5 (.inr ⟨ab,k,rfl,by have:=Bn w5 _ g5;exact this,λq hq=>by
     have e0:q=0:=(by simp[Ad]at hq;omega);subst e0;exact g5⟩))
    have HHo:=AA (Ku HO0.o hK5 x wi hxn hwn (OO d0 s.N));have HKr:=AA hkr;clear hgr5 hat5 V HV HBw2 g1 hK5 hkr HO2 HRl HSz;have hvl:vs.length=k:=(by have:=HV5.o.1;rw[Aq,At]at this;omega);obtain⟨u,hu⟩:∃u:AS,u= .slice ka (s.F.kids x).length kc:=⟨_,rfl⟩;have HO6:Hid ((w5.setCell ⟨gb,k,none⟩ u).ownsRow I.heap.size 54 1 (.slice (some ⟨gb,0,none⟩) (k+1) c5) (k+1) (vs++[u])):=by
     have:=JN HO5.o k (by simp;omega) u;rw[<-hvl,Ut,hvl]at this;exact this
    have gc5:w5.cell? ⟨gb,k,none⟩=some (.slice (some ⟨d.heap.size,0,none⟩) 1 1):=by
     have:=HO5.o.cells (g:=gb) rfl k (.slice (some ⟨d.heap.size,0,none⟩) 1 1) (by rw[<-hvl];simp);rw[Ba,By]at this;exact this
    have HV6:Hid (TH f O (w5.setCell ⟨gb,k,none⟩ u) (vs++[u]) ((on.take (k+1)).map s.F.kids)):=by
     rw[Hid,HTk.o,B3,hu];exact(HV5.o.kept λa n c xs h=>BS h (p:=⟨gb,k,none⟩) (Ax h hh5 (by decide)) _).snoc rfl (BS HKr.o (p:=⟨gb,k,none⟩) (Ax HKr.o hh5 (by decide)) _)
    have HB6:Hid (AL I.heap.size I (w5.setCell ⟨gb,k,none⟩ u)):=M.o.setCell hgb u;have HY6:Hid ((s.nd x).kind=3->s.F.kids x≠[]->¬s.F.Up x wi->∀y∈on.take (k+1),(s.nd y).kind=3/\s.F.kids y≠[]/\¬s.F.Up y wi):=λh1 h2 h3 y hy=>by
     rw[HTk.o,AV,AP]at hy;rcases hy with h|rfl
     .exact HY.o y h
     exact⟨h1,h2,h3⟩
    subst hu;clear hvl hh5;go_wp2_with fail;refine HAre.o.mono ?_;rintro e w6 ⟨b6,rfl,hA6,rfl⟩;cases b6
    .go_wp2;go_ret;exact⟨false,rfl,by simp,HBw.o _ M.o⟩
    have HK6:=AA (hA6 rfl x (AP.2 rfl));clear hA6;by_cases hkz:s.F.kids x=[]
    .have ez:(((s.F.kids x).length:Int)==0)=true:=by rw[hkz];rfl
     clear hkz;go_wp2;go_ret;exact⟨false,rfl,by simp,HBw.o _ M.o⟩
    have HKz:=AA hkz;have ez:(((s.F.kids x).length:Int)==0)=false:=CY.2 (by have:=Bg.2 hkz;omega);clear hkz;go_wp2_with fail;refine HHo.o.mono ?_;rintro e w7 ⟨rfl,rfl⟩;cases hB:s.F.Zc x wi with
    |true=>
     clear hB;go_wp2;go_ret;exact⟨false,rfl,by simp,HBw.o _ M.o⟩
    |false=>
     have HY7:=AA (HY6.o HK6.o HKz.o (Fo.ZS hB));clear hB HHo HAre;go_wp2_with fail
     go_roundg (on.length-(k+1))
     case measure=>omega
     exact⟨k+1,_,c5,rfl,U,by go_num,rfl,⟨_,HO6.o,HV6.o⟩,HY7,HB6.o⟩
   have e:k=on.length:=by omega
   subst e;rw[AU]at hv HY;have hle9:(on.map s.F.kids).length=on.length:=Aq _;have HD:Hid (∃G ga' gc',AO Y on.length F= .slice ga' G.length gc'/\Hid (L' 11 s on wi G)/\Hid (RD f O d (.slice ga' G.length gc') G)/\AL I.heap.size I d):=⟨on.map s.F.kids,Y,F,by rw[hle9],.inr (.inr ⟨rfl,rfl,HY.o⟩),⟨vs,by rw[hle9];exact Bf A hfw,hv.o⟩,S⟩;clear A hv S hle9 HY;go_wp2_with fail
   go_meet;exact HD.o
  obtain⟨G,Y,F,rfl,HGo,HGr,hbx⟩:=hcut;have hRb:=HR.o.self (AG _) hbx;have HRb:=AA hRb;have HWI:Hid (O4 s wi G):=Vv HS.o HGo.o HNe.o HNd.o HXs.o hwn HOne.o HA.o HPar.o;have HGk:Hid (∀s' kb' wr,RS r s.N g J f O wc s' kb' wr->RD f O wr (.slice Y G.length F) G):=λs' kb' wr R=>HGr.o.rs (λi D=>by obtain⟨_,_,_,_,_,hh,_⟩:=HRb.o.kno.node i D;exact⟨_,hh⟩) ⟨_,HRb.o.fst⟩ R;have hGl:G.length<=200:=by
   rcases HGo.o with⟨-,rfl⟩|⟨-,rfl⟩|⟨-,rfl,-⟩
   .simp
   .simpa using hxl
   simpa using hxl
  have HBx:=AA hbx;have HBr:Hid (∀s' kb' wr,RS r s.N g J f O wc s' kb' wr->AL f I wr):=λs' kb' wr R=>(HBw.o _ HBx.o).trans (R.below (AH hfw HBx.o.size) λi D=>(HRb.o.kno.node i D).1);have hsz:f<=wc.heap.size:=AH hfw HBx.o.size;clear hRb hbx hG1 HBW HB2;go_wp2;go_loopw [11,12,13,14,15,16,17,18] (λv _ _ _ _ _ _ _ wr=>RF r g J f O s wi G wc v wr) (λv _ _ _ _ _ _ _ _=>G.length-(Aa v).toNat)
  .exact⟨0,s,O,AY _,rfl,HS,by rw[List.drop_zero];exact HWI,(λs2 h=>by rw[List.drop_zero]at h;exact h),(λy hy=>⟨y,hy,rfl⟩),AG _,HRb⟩
  obtain⟨i,t,E,D,rfl,C,HIi,HTo,HNdi,HLe,HRi⟩:=hrel;obtain⟨d,rfl⟩:∃d:AB,d=wr:=⟨_,rfl⟩;by_cases U:i<G.length
  case neg=>
   have e:i=G.length:=by omega
   subst e;have HFin:Hid (RH r g J f O op s on wi I (.returned (.bool true)) d):=⟨true,rfl,λ_=>⟨HK3.o,HOne.o,HA.o,HPar.o,G,t,E,wc,HGo.o,HTo.o t (by rw[List.drop_length];exact .nil _ _),HBx.o,HRi.o⟩,HBr.o _ _ _ HRi.o⟩;clear HTo HIi;go_wp2;go_ret;exact HFin.o
  case pos=>
   obtain⟨gb,go,gcc,hve,hcell⟩:=(HGk.o _ _ _ HRi.o).at_ (by omega);cases hve
   obtain⟨la0,lc0,g0,hl⟩:=hcell i U;clear hcell;have hdrop:G.drop i=G[i]::G.drop (i+1):=List.drop_eq_getElem_cons U;obtain⟨L,hL⟩:∃L,L=G[i]:=⟨_,rfl⟩;rw[<-hL]at g0 hl hdrop;rw[hdrop]at HIi HTo;obtain⟨hLne,hLnd,hLx⟩:=HIi.o.each L Af;have HLne:=AA hLne;have HXl:Hid (∀x∈L,x<t.N):=λx hx=>(hLx x hx).1;obtain⟨hwi,-⟩:=HIi.o.one (by simp);obtain⟨di,oi,hli⟩:=C.o.ZP;have HOi:=AA oi;have HLi:=AA hli;have hLl:L.length<=600:=by have:=BH hLnd HXl.o;have:=C.o.few;omega
   have hsi:t.N<=600:=C.o.few;have hle3:s.N<=t.N:=HLe.o;have HL0:Hid (∀x∈L,x<s.N):=λx hx=>(HWI.o.each G[i] (AD U)).2.2 x (by rw[<-hL];exact hx)|>.1;have hpk:Ad O L=Ad E L:=FG λy hy=>(HRi.o.old y (HL0.o y hy)).symm;rw[hpk]at hl;have HLo:=AA hl;have HR0:=AA HRi.o.ay;have HB0:Hid (∀W,AL d.heap.size d W->AL f I W):=λW S=>(HBr.o _ _ _ HRi.o).trans (S.mono (AH hsz HRi.o.turn.size));have hsz0:f<=d.heap.size:=AH hsz HRi.o.turn.size;have HNbi:Hid (∀y,y<t.N->Kk (t.nd y)/\(t.nd y).attrs.length<=2000):=λy hy=>by obtain⟨z,hz,e⟩:=HNdi.o y hy;rw[e];exact HNb.o z hz
   have HNext:Hid (∀h:J1 t L wi,∀B wr,(C5 t (L.headD 0) wi).op=false->RS r s.N g J f O wc (GO t L wi) B wr->RF r g J f O s wi G wc (.int .i64 ((i+1:Nat):Int)) wr):=λP B wr ho R=>by
    obtain⟨k1,k2,k3,k4⟩:=C.o.wg P ho;refine⟨i+1,GO t L wi,B,U,rfl,k1,HIi.o.next C.o P ho,λs2 h=>HTo.o s2 (.cons P ho h),λy hy=> ?_,by show s.N<=_;omega,R⟩;obtain⟨z,h1,h2⟩:=k3 y hy;obtain⟨z2,h3,h4⟩:=HNdi.o z h1;exact⟨z2,h3,h2.trans h4⟩
   have HOpn:Hid (∀h:J1 t L wi,∀B wr,(C5 t (L.headD 0) wi).op=true->RS r s.N g J f O wc (C5 t (L.headD 0) wi) B wr->RH r g J f O op s on wi I (.returned (.bool true)) wr):=λP B wr ho R=>⟨true,rfl,λ_=>⟨HK3.o,HOne.o,HA.o,HPar.o,G,_,B,wc,HGo.o,HTo.o _ (.opn P ho),HBx.o,R⟩,HBr.o _ _ _ R⟩;have HQ:Hid ((∀i j (D:i<L.length) (hj:j<L.length),i≠j->¬t.F.Up L[i] L[j])->J1 t L wi):=λh=>HIi.o.q h;have HRw:=AA (λs2 B w2 (Q:RS r t.N g J f E d s2 B w2) (h:t.N<=s2.N)=>HRi.o.trans HLe.o Q h);clear hpk hdrop hL hl hLnd hLx hli oi HIi HTo HNdi HWI HGk;obtain⟨W3,hW3⟩:∃W3,W3=d.alloc (.cells #[] 57):=⟨_,rfl⟩;have hb3:AL d.heap.size d W3:=by rw[hW3];exact Ac
   have HE:Hid (W3.ownsRow d.heap.size 57 1 (.slice (some ⟨d.heap.size,0,none⟩) 0 0) 0 []):=by rw[hW3];exact De d 57 1
   have HR3:Hid (B6 W3 W3.heap.size la0 (Ad E L)):=(Bh HLo.o).up hb3;have g0':W3.cell? ⟨gb,go+i,none⟩=some (.slice la0 L.length lc0):=(hb3.cell (p:=⟨gb,go+i,none⟩) (Bn d _ g0)).trans g0;have HB3:=AA hb3;have hs3:=hb3.size;clear hb3;subst hW3;go_wp2_with(at_builtin;refine Az _ rfl (.tmp 104) (.tmp 108) rfl E d.heap.size (.slice (some ⟨d.heap.size,0,none⟩) 0 0) [] rfl HE.o la0 L.length lc0 L rfl rfl HR3.o (by simp only[List.length_nil];omega) hs3 ?_);intro la lc W4 A hgr _;have hb4:AL d.heap.size d W4:=HB3.o.grown hgr HB3.o.size (λk e=>by cases e;exact AG _);have HB4:=AA hb4;try simp only[BY]at A
   try simp only[BY]
   have HRr:=AA (Bh A);have HOwn:=AA A;have HHo:Hid (∀W,AL d.heap.size d W->∀k x,k<t.N->x<t.N->AX AC 66 #[.pointer (some ⟨E k,0,none⟩),.pointer (some ⟨E x,0,none⟩)] W λe w'=>e= .returned (.bool (t.F.Zc k x))/\w'=W):=λW S k x hk hx=>Ku HOi.o (HR0.o.kno.up S) k x hk hx (OO di t.N);clear hb4 A hgr g0 g0';go_wp2;go_loopw [13] (λx wr=>∃k:Nat,k<=L.length/\x= .int .i64 k/\Hid (∀i,i<k->L8 t.F L i L.length)/\AL W4.heap.size W4 wr) (λx _=>L.length-(Aa x).toNat)
   .exact⟨0,by omega,rfl,(λi h=>by omega),AW _ _⟩
   obtain⟨k,hk,rfl,hyes,S⟩:=hrel;obtain⟨W5,rfl⟩:∃W5:AB,W5=wr:=⟨_,rfl⟩;have M:=AA S;clear S;by_cases hlt2:k<L.length
   case pos=>
    go_wp2;go_loopw [14] (λx wr=>∃j:Nat,j<=L.length/\x= .int .i64 j/\Hid (L8 t.F L k j)/\AL W4.heap.size W4 wr) (λx _=>L.length-(Aa x).toNat)
    .exact⟨0,by omega,rfl,(λ_ j _ h=>by omega),M.o⟩
    obtain⟨j,hj,rfl,hay,S⟩:=hrel;have HB:=AA S;obtain⟨W6,rfl⟩:∃W6:AB,W6=wr:=⟨_,rfl⟩;by_cases hlj:j<L.length
    .obtain⟨b,o,rfl,hbB,hc⟩:=(HRr.o.up S).at_ (by rw[AM];omega);have g1:=hc k (by rw[AM];exact hlt2);have g2:=hc j (by rw[AM];exact hlj);rw[A5 hlt2]at g1;rw[A5 hlj]at g2;have HCk:Hid (∀n,AX AC 66 #[.pointer (some ⟨E L[k],0,none⟩),.pointer (some ⟨E L[j],0,none⟩)] (W6.drewN n) λe w'=>e= .returned (.bool (t.F.Zc L[k] L[j]))/\w'=W6.drewN n):=λn=>HHo.o (W6.drewN n) (BT HB4.o (BC HB.o n)) _ _ (HXl.o _ (AD hlt2)) (HXl.o _ (AD hlj));obtain⟨B1,hB1⟩:∃b,b=t.F.Zc L[k] L[j]:=⟨_,rfl⟩;have HB1:=AA hB1;rw[<-hB1]at HCk;obtain⟨x,hx⟩:∃x,x=L[k]:=⟨_,rfl⟩;obtain⟨y,hy⟩:∃y,y=L[j]:=⟨_,rfl⟩;rw[<-hx]at g1 HCk;rw[<-hy]at g2 HCk;clear hc S hB1 hx hy;by_cases e:j=k
     .have e1:((k:Int) !=(j:Int))=false:=by simp;omega
      have HN:Hid (L8 t.F L k (j+1)):=λD q hq hqj hne=>by
       by_cases e2:q=j
       .omega
       exact hay.o D q hq (by omega) hne
      clear e;go_wp2_with fail;go_quiet(first|(go_at_call 66;exact(HCk.o _).mono (λ_ _ hh=>⟨hh.1,_,hh.2⟩)));go_wp2;go_roundw
      .exact⟨j+1,by omega,by go_num,HN,BC HB.o _⟩
      simp[Aa];omega
     have e1:((k:Int) !=(j:Int))=true:=(by simp;omega);cases B1
     .have HN:Hid (L8 t.F L k (j+1)):=λD q hq hqj hne=>by
       by_cases e2:q=j
       .subst e2;exact Fo.ZS HB1.o.symm
       exact hay.o D q hq (by omega) hne
      clear e;go_wp2_with fail;go_quiet(first|(go_at_call 66;exact(HCk.o _).mono (λ_ _ hh=>⟨hh.1,_,hh.2⟩)));go_wp2;go_roundw
      .exact⟨j+1,by omega,by go_num,HN,BC HB.o _⟩
      simp[Aa];omega
     clear e;go_wp2_with fail;go_quiet(first|(go_at_call 66;exact(HCk.o _).mono (λ_ _ hh=>⟨hh.1,_,hh.2⟩)));go_wp2;go_ret;exact⟨false,rfl,by simp,HB0.o _ (BT HB4.o (BC HB.o _))⟩
    have HA2:Hid (∀i,i<k+1->L8 t.F L i L.length):=λi D=>by
     by_cases e2:i=k
     .subst e2;exact λD q hq _ hne=>hay.o D q hq (by omega) hne
     exact hyes.o i (by omega)
    clear S hay;go_wp2;go_roundw
    .exact⟨k+1,by omega,by go_num,HA2,HB.o⟩
    simp[Aa];omega
   have HP:Hid (J1 t L wi):=HQ.o λi j D hj hne=>hyes.o i (by omega) D j hj hj hne;have hRS:=HR0.o.self (AG _) (BT HB4.o M.o);have HRq:Hid (∀s2 B wr,RS r t.N g J f E W5 s2 B wr->t.N<=s2.N->RS r s.N g J f O wc s2 B wr):=λs2 B wr Q h=>by
    have R5:RS r t.N g J f E d t E W5:=HR0.o.up (BT HB4.o M.o);exact HRw.o _ _ _ (R5.trans (AG _) Q h) h
   have hro:W5.ownsRow d.heap.size 57 1 (.slice la L.length lc) L.length (Ad E L):=BB HOwn.o (λb _ h2=>M.o.block b h2);have hty:∀i,i<t.N->(AO la L.length lc).ownBlock≠some (E i):=λi D=>by
    obtain⟨_,_,_,_,_,hhn,_,_⟩:=hRS.kno.node i D;exact Ax hro hhn (by decide)
   have HRow:Hid (∀s kb' wr,RS r t.N g J f E W5 s kb' wr->B6 wr wr.heap.size la (Ad E L)):=λs kb' wr R=>Bh (R.kept hro hty (Ax hro hRS.fst (by decide)));have hbf:f<=W5.heap.size:=AH hsz0 (BT HB4.o M.o).size;have HCp:=AA (Fj 600 HOi.o hRS.kno hbf hwi (HLi.o _ hwi) (λy hy=>AI (by omega)) hRS.fst (by have:=(Oe C.o HOi.o HLi.o hwi).1;omega) HNbi.o);rw[HRi.o.old wi hwn]at HCp;have hx0:L[0]'(Bg.2 HLne.o)=L.headD 0:=by
    cases L with
    |nil=>exact absurd rfl HLne.o
    |cons a l=>rfl
   have HX0:=AA hx0;have hlp:0<L.length:=Bg.2 HLne.o;have HRS:=AA hRS;clear hyes hro hty hx0 hRS;go_wp2_with fail;refine HCp.o.mono ?_;intro e w6 hP;obtain⟨N,rfl,hR4,-,-⟩:=HRS.o.copied (AG _) (Oe C.o HOi.o HLi.o hwi).2 hP (base:=W5.heap.size) (la:=none) (j:=0) (lc:=0) (L:=[]) (Aw _ _ _ _) (by simp) (λy _ u _=>FO.nil _ _ _);obtain⟨b,o,rfl,hbB,hc⟩:=(HRow.o _ _ _ hR4).at_ (by rw[AM];omega);have g1:=hc 0 (by rw[AM];exact hlp);rw[A5 hlp,HX0.o]at g1;have hm0:=EL HLne.o;obtain⟨hh,p,l1,l3,p1,p2,p3,p4,p5,p6,p7,p8,p9⟩:=VB C.o HOi.o HLi.o HP.o hm0;have hx0n:=HXl.o _ hm0;rw[<-hR4.old _ hx0n,Nat.add_zero]at g1;have c6:=(hR4.kno.cells (i:=L.headD 0) p2).2.1;rw[p8]at c6;simp only[Au,As]at c6;have hN0:=(Oe C.o HOi.o HLi.o hwi).1;have R6:=hR4.up (AW _ _).drew;have hbf6:f<=w6.drew.heap.size:=AH hbf R6.turn.size;have hkl:∀q,((CZ 600 t wi).F.kids q).length<=90000:=λq=>by have:=p1.Yu (λi D=>D) q;omega
   have HPl:Hid (AX AC 63 #[.pointer (some ⟨N (L.headD 0),0,none⟩)] w6.drew λe w'=>e= .returned (.int .i64 l1.length)/\w'=w6.drew):=(Ed p1 R6.kno _ p p8 l1 l3 p7 (by have:=hkl p;omega)).mono (λe w' hh=>⟨hh.1,hh.2.symm⟩);have HPut:Hid (AX AC 64 #[.pointer (some ⟨N p,0,none⟩),.int .i64 l1.length,.pointer (some ⟨N t.N,0,none⟩)] w6.drew λe w7=>e= .returned (.tuple #[])/\RS r t.N g J f E W5 (C5 t (L.headD 0) wi) N w7):=(Rc R6.kno hbf6 p t.N p5 p3 p6 p4 l1 (L.headD 0::l3) p7 (by have:=hkl p;omega)).mono (λe w7 hP=>by have:=R6.put hP;rw[p9]at this;exact this);have HRow7:Hid (∀s wr,RS r t.N g J f E W5 s N wr->B6 wr wr.heap.size (some ⟨b,o,none⟩) (Ad E L)):=λs wr R=>HRow.o _ _ _ R;have HBf:Hid (∀s wr,RS r t.N g J f E W5 s N wr->f<=wr.heap.size):=λs wr R=>AH hbf R.turn.size;obtain⟨x0,hx0⟩:∃x0,x0=N (L.headD 0):=⟨_,rfl⟩;rw[<-hx0]at g1 c6 HPl;have c6w:w6.drew.cell? ⟨x0,6,none⟩=some (.pointer (some ⟨N p,0,none⟩)):=c6;clear hc hx0 p1 p2 p3 p4 p5 p6 p7 p8 p9 R6 hR4 hkl hbf6;go_wp2_with fail;refine wp_region_still_tail 7 (by kernel_rfl) (by kernel_rfl) ?_;simp only[List.take_succ_cons,BM,List.drop_succ_cons,List.drop_zero];iterate 5 still_step
   still_call HPl.o;iterate 1 still_step
   refine wpStill_nil ?_;change wpList _ _ _ _ _ w6.drew;go_wp2_with fail;refine HPut.o.mono ?_;rintro e w7 ⟨rfl,hR7⟩;have f7:w7.cell? ⟨f,2,none⟩=some (.bool (C5 t (L.headD 0) wi).op):=by rw[AZ w7 _ 2 _ _ _ hR7.fst];rfl
   have hge7:=(Oe C.o HOi.o HLi.o hwi).2;have hN1:(C5 t (L.headD 0) wi).N=(CZ 600 t wi).N:=rfl;have HR7:=AA hR7;cases X:(C5 t (L.headD 0) wi).op with
   |true=>
    rw[X]at f7;obtain⟨hI0,h1,I1⟩:=Od C.o HOi.o HLi.o HP.o hm0;have HInm:=AA (Jp I1.ok hR7.kno t.N (by rw[hN1];exact hge7) (λq=>by have:=I1.ok.Yu (λi D=>D) q;rw[hN1]at this;omega));obtain⟨pq,hpq⟩:∃pq,Au N (II (C5 t (L.headD 0) wi).F (C5 t (L.headD 0) wi).nd (h1 t.N) t.N)= .pointer pq:=⟨_,rfl⟩;rw[hpq]at HInm;have HFin:Hid (RH r g J f O op s on wi I (.returned (.bool true)) w7):=HOpn.o HP.o _ _ X (HRq.o _ _ _ hR7 (by rw[hN1];omega));clear hR7 hI0 I1 hpq X hm0;go_wp2_with fail;refine HInm.o.mono ?_;rintro e w8 ⟨rfl,rfl⟩;go_wp2;go_ret;exact HFin.o
   |false=>
    rw[X]at f7;obtain⟨p,hp⟩:=Option.ne_none_iff_exists'.1 (HP.o.par _ hm0);obtain⟨h1,T⟩:=LF C.o HOi.o HLi.o HP.o hm0 hp X;have HInm:Hid (AX AC 65 #[.pointer (some ⟨N t.N,0,none⟩)] w7 λe w'=>e= .returned (.pointer (some ⟨N (EU t (L.headD 0) wi),0,none⟩))/\w'=w7):=by
     have:=Jp T.inv.ok hR7.kno t.N T.ge (λq=>by have:=T.inv.ok.Yu (λi D=>D) q;have:=T.le;omega);rw[PM T.inv.ok _ (h1 t.N) 600 t.N (AG _) T.hr,T.inn]at this;exact this
    have HTn:Hid (EU t (L.headD 0) wi<(C5 t (L.headD 0) wi).N):=T.tn;have HNn:Hid ((C5 t (L.headD 0) wi).N<=1200):=T.le;have HGe:Hid (t.N<=(C5 t (L.headD 0) wi).N):=Ca T.ge;have HStep:Hid (∀j (hj:j<L.length),_):=λj hj=>Wf C.o HOi.o HLi.o HP.o X hj;have HR70:Hid (RS r t.N g J f E W5 (Bc 1 true (C5 t (L.headD 0) wi) (EU t (L.headD 0) wi) (L.take 0)) N w7):=(by rw[BM,Hr];exact hR7);have HFin:Hid (∀wr,RS r t.N g J f E W5 (Bc 1 true (C5 t (L.headD 0) wi) (EU t (L.headD 0) wi) (L.take L.length)) N wr->RF r g J f O s wi G wc (.int .i64 ((i+1:Nat):Int)) wr):=λwr R=>by
     rw[AU]at R;exact HNext.o HP.o _ _ X (HRq.o _ _ _ R (Ca (C.o.wg HP.o X).2.2.2))
    obtain⟨tq,hto⟩:∃tq,tq=EU t (L.headD 0) wi:=⟨_,rfl⟩;rw[<-hto]at HInm HTn HStep HR70 HFin;clear hR7 T hp X hm0 hto;go_wp2_with fail;refine HInm.o.mono ?_;rintro e w8 ⟨rfl,rfl⟩;go_wp2_with fail;clear f7 g1 c6 c6w;go_loopw [18] (λv wr=>∃j:Nat,j<=L.length/\v= .int .i64 j/\RS r t.N g J f E W5 (Bc 1 true (C5 t (L.headD 0) wi) tq (L.take j)) N wr) (λv _=>L.length-(Aa v).toNat)
    .exact⟨0,AY _,rfl,HR70.o⟩
    obtain⟨j,hj,rfl,hRj⟩:=hrel;obtain⟨W8,rfl⟩:∃W8:AB,W8=wr:=⟨_,rfl⟩;by_cases hlj:j<L.length
    .obtain⟨_,_,hbo,-,hc⟩:=(HRow7.o _ _ hRj).at_ (by rw[AM];omega);cases hbo
     have g2:=hc j (by rw[AM];exact hlj);have hxn:=HXl.o _ (AD hlj);rw[A5 hlj,<-hRj.old _ hxn]at g2;obtain⟨⟨h2,ok2⟩,hN2,hne2,hck2,hfin2⟩:=HStep.o j hlj;have hNb:=HNn.o;have htn2:tq<(Bc 1 true (C5 t (L.headD 0) wi) tq (L.take j)).N:=(by rw[hN2];exact HTn.o);obtain⟨-,-,-,ka,kc,c7,-⟩:=hRj.kno.cells htn2;have R8:=hRj.up (AW _ _).drew;have HPut2:Hid (AX AC 64 #[.pointer (some ⟨N tq,0,none⟩),.int .i64 ((Bc 1 true (C5 t (L.headD 0) wi) tq (L.take j)).F.kids tq).length,.pointer (some ⟨N L[j],0,none⟩)] W8.drew λe w9=>e= .returned (.tuple #[])/\RS r t.N g J f E W5 (Bc 1 true (C5 t (L.headD 0) wi) tq (L.take (j+1))) N w9):=
      (Pf ok2 R8.kno (HBf.o _ _ R8) tq L[j] htn2 (by rw[hN2];have:=HGe.o;omega) hne2 _ [] (by rw[hck2,Ey]) (λq=>by have:=ok2.Yu (λi D=>D) q;rw[hN2]at this;omega) _ rfl).mono (λe w9 hP=>by have:=R8.an hP;rw[hfin2]at this;exact this)
     obtain⟨K,hK⟩:∃K,K=((Bc 1 true (C5 t (L.headD 0) wi) tq (L.take j)).F.kids tq).length:=⟨_,rfl⟩;rw[<-hK]at c7 HPut2;obtain⟨y,hy⟩:∃y,y=N L[j]:=⟨_,rfl⟩;rw[<-hy]at g2 HPut2;clear hc hxn ok2 hN2 hne2 hck2 hfin2 htn2 R8 hK hy hRj;go_wp2_with fail;refine wp_region_still_tail 10 (by kernel_rfl) (by kernel_rfl) ?_;simp only[List.take_succ_cons,BM,List.drop_succ_cons,List.drop_zero];iterate 10 still_step
     refine wpStill_nil ?_;change wpList _ _ _ _ _ W8.drew;go_wp2_with fail;refine HPut2.o.mono ?_;rintro e w9 ⟨rfl,hR9⟩;have HR9:=AA hR9;clear hR9 g2 c7;go_wp2;go_roundw
     .exact⟨j+1,hlj,by go_num,HR9.o⟩
     simp[Aa];omega
    have e:j=L.length:=(by omega);subst e;have HD:Hid (∀v,v= .int .i64 ((i+1:Nat):Int)->RF r g J f O s wi G wc v W8):=λv e=>by rw[e];exact HFin.o _ hRj
    clear hRj;go_wp2;go_roundw
    .exact HD.o _ (by go_num)
    simp[Aa];omega
def Xs(op:Int)(s:bY)(xs ws:List Nat)(s2:bY):Prop:=
 ∃wi G,ws=[wi]/\(s.nd wi).kind=3/\II s.F s.nd 600 wi≠none/\(∀x∈xs,¬s.F.Up wi x)/\(∀x∈xs,s.F.par x≠none)/\L' op s xs wi G/\EX s wi G s2
noncomputable def Pe(s:ByteArray):Bool:= @decide (IA (s.data.toList)) (Classical.propDecidable _)
theorem WF{s:ByteArray}(h:IA (s.data.toList)):Pe s=true:=by unfold Pe;exact @decide_eq_true _ (Classical.propDecidable _) h
theorem Qt{s:ByteArray}(h:¬IA (s.data.toList)):Pe s=false:=by unfold Pe;exact @decide_eq_false _ (Classical.propDecidable _) h
theorem K6{s:ByteArray}(h:Pe s=true):IA (s.data.toList):=by unfold Pe at h;exact @of_decide_eq_true _ (Classical.propDecidable _) h
def VX(s:ByteArray)(w:AB)(e:Bx)(w':AB):Prop:=e= .returned (.bool (Pe s))/\w'=w
theorem D0(s:ByteArray)(j:s.size<=2147483647)(w:AB):
 AX AC 67 #[.string s] w (VX s w):=by
 have n:s.data.toList.length=s.size:=rfl;have c:=AA n;clear n;go_enter func67,ntmps67;go_wp2;go_loopw [3] (λv wr=>∃k:Nat,k<=s.size/\v= .int .i64 k/\Hid (∀x∈(s.data.toList).take k,33<=x.toNat/\x.toNat<=126)/\w=wr) (λv _=>s.size-(Aa v).toNat)
 .exact⟨0,by omega,rfl,(λx hx=>by simp at hx),rfl⟩
 obtain⟨k,z,rfl,o,rfl⟩:=hrel;by_cases l:k<s.size
 .have t:k<(s.data.toList).length:=by have:=c.o;omega
  have u:Hid ((s.data.toList).take (k+1)=(s.data.toList).take k++[s[k]]):=by
   rw[Hid,AF t];rfl
  by_cases T:s[k].toNat<=32
  .have y:decide (((s[k].toNat:Nat):Int)<=32)=true:=decide_eq_true (by omega);have a:Hid (Pe s=false):=Qt λh=>by
    have:=h.2 s[k] (by have e:(s.data.toList)[k]'t=s[k]:=rfl
                       rw[<-e];exact AD t)
    omega
   go_wp2;go_ret;exact⟨by rw[a.o];rfl,rfl⟩
  have y:decide (((s[k].toNat:Nat):Int)<=32)=false:=decide_eq_false (by omega);by_cases E:126<s[k].toNat
  .have f:decide ((126:Int)<((s[k].toNat:Nat):Int))=true:=decide_eq_true (by omega);have a:Hid (Pe s=false):=Qt λh=>by
    have:=h.2 s[k] (by have e:(s.data.toList)[k]'t=s[k]:=rfl
                       rw[<-e];exact AD t)
    omega
   go_wp2;go_ret;exact⟨by rw[a.o];rfl,rfl⟩
  have f:decide ((126:Int)<((s[k].toNat:Nat):Int))=false:=decide_eq_false (by omega);have p:Hid (∀x∈(s.data.toList).take (k+1),33<=x.toNat/\x.toNat<=126):=by
   intro x hx;rw[u.o,AV,AP]at hx;rcases hx with hx|hx
   .exact o.o x hx
   rw[hx];omega
  clear o;go_wp2;go_roundw
  .exact⟨k+1,l,by go_num,p.o,by trivial⟩
  simp[Aa];omega
 have q:Hid (∀x∈s.data.toList,33<=x.toNat/\x.toNat<=126):=by
  have:=o.o;rw[BP (by have:=c.o;omega)]at this;exact this
 have d:∃b,b=s.toList.isEmpty:=⟨_,rfl⟩;obtain⟨b,i⟩:=d;have m:=AA i;clear o;cases b
 .have g:s.toList.isEmpty=false:=i.symm;have r:Hid (Pe s=true):=WF ⟨(λe=>by
   have:=m.o;rw[BU,show s.data.toList=s.data.toList from rfl,e]at this;cases this),q.o⟩
  clear i;go_wp2;go_ret;exact⟨by rw[r.o];rfl,rfl⟩
 have g:s.toList.isEmpty=true:=i.symm;have a:Hid (Pe s=false):=Qt λh=>h.1 (by
  have:=m.o.symm;rw[BU,List.isEmpty_iff]at this;exact this)
 clear i;go_wp2;go_ret;exact⟨by rw[a.o];rfl,rfl⟩
theorem Iw(a:Option Ai)(c:Nat)(l:List Int)(q:l.length<=2147483647)(x:Int)(w:AB)(h:B6 w w.heap.size a (E3 l)):
 AX AC 19 #[.slice a l.length c,.int .i64 x] w λe w'=>e= .returned (.bool (decide (x∈l)))/\w=w':=by
 have g:=AA h;clear h;go_enter func19,ntmps19;go_wp2;go_loopw [5] (λy wr=>∃k:Nat,k<=l.length/\y= .int .i64 k/\Hid (x∉l.take k)/\w=wr) (λy _=>l.length-(Aa y).toNat)
 .exact⟨0,by omega,rfl,by simp[Hid],rfl⟩
 obtain⟨k,j,rfl,n,rfl⟩:=hrel;by_cases t:k<l.length
 .obtain⟨b,o,rfl,v,r⟩:=g.o.at_ (by rw[CL];omega);have d:=r k (by rw[CL];exact t);rw[IK t]at d;clear r;obtain⟨y,i⟩:∃y,y=l[k]:=⟨_,rfl⟩;rw[<-i]at d;by_cases e:y=x
  .have m:Hid (decide (x∈l)=true):=by rw[Hid,decide_eq_true_eq,<-e,i];exact AD t
   have u:(y==x)=true:=beq_iff_eq.2 e;clear i e;go_wp2;go_ret;exact⟨Ib m.o,rfl⟩
  have f:Hid (x∉l.take (k+1)):=by
   rw[Hid,AF t,AV,AP];rintro(s|s)
   .exact n.o s
   exact e (i.trans s.symm)
  have u:(y==x)=false:=CY.2 e;clear i e;go_wp2;go_roundw
  .exact⟨k+1,by omega,by go_num,f,by trivial⟩
  simp[Aa];omega
 have p:Hid (decide (x∈l)=false):=by
  have e:k=l.length:=by omega
  have:=n.o;rw[e,AU]at this;rw[Hid,decide_eq_false_iff_not];exact this
 go_wp2;go_ret;exact⟨Ib p.o,rfl⟩
structure Wk(t:List Nd)(l:List Int)(ns:List Nat):Prop where
 eq:l=Oq ns
 lt:∀k∈ns,k<t.length
 kind:∀k∈ns,(t.getD k default).kind=3
 nodup:ns.Nodup
def QC(t:List Nd)(l:List Int)(k:Nat):Prop:=∀i (h:i<l.length),i<k->0<=l[i]/\l[i]<t.length/\(t.getD l[i].toNat default).kind=3/\l[i]∉l.take i
theorem QO{l:List Int}(h:QC t l l.length):∃ns,Wk t l ns:=by
 have s:l=Oq (l.map Int.toNat):=by
  unfold Oq;rw[List.map_map];apply List.ext_getElem
  .simp
  intro i d c;have:=(h i d d).1;simp;omega
 have n:l.Nodup:=by
  unfold List.Nodup;rw[List.pairwise_iff_getElem];intro i j a r u e;refine(h j r r).2.2.2 ?_;rw[<-e];exact C7.2 ⟨i,by omega,rfl⟩
 refine⟨l.map Int.toNat,s,λk o=> ?_,λk o=> ?_,?_⟩
 .obtain⟨x,hx,rfl⟩:=BL.1 o;obtain⟨i,a,rfl⟩:=An hx;have:=h i a a;omega
 .obtain⟨x,hx,rfl⟩:=BL.1 o;obtain⟨i,a,rfl⟩:=An hx;exact(h i a a).2.2.1
 have:=n;rw[s]at this;unfold Oq at this;exact(List.pairwise_map.1 this).imp (λh e=>h (by rw[e]))
def Wx(t:List Nd)(l:List Int)(w:AB)(e:Bx)(w':AB):Prop:=∃b,e= .returned (.bool b)/\(b=true->∃a,Wk t l a)/\AL w.heap.size w w'
theorem OF(a:Option Ai)(c:Nat)(t:List Nd)(ht:t.length<=200)(a2:Option Ai)(c2:Nat)(l:List Int)(Z:l.length<=2147483647)(V:l.length<=c2)(w:AB)(h:Gp w w.heap.size a t)(d:Kj w w.heap.size a2 l):
 AX AC 8 #[.slice a t.length c,.slice a2 l.length c2] w (Wx t l w):=by
 have G:=AA h;have I:=AA d;clear h d;go_enter func8,ntmps8;go_wp2;go_loopw [5] (λx wr=>∃k:Nat,k<=l.length/\x= .int .i64 k/\Hid (QC t l k)/\AL w.heap.size w wr) (λx _=>l.length-(Aa x).toNat)
 .exact⟨0,by omega,rfl,(λi _ h=>by omega),AW _ _⟩
 obtain⟨k,hk,rfl,s,O⟩:=hrel;have r:=AA O;clear O;by_cases z:k<l.length
 .obtain⟨b,o,rfl,K,v⟩:=(I.o.up r.o).at_ (by omega);have L:=v k z;clear v;obtain⟨x,hx⟩:∃x,x=l[k]:=⟨_,rfl⟩;rw[<-hx]at L;have F:=AA hx;clear hx;by_cases c1:x<0
  .have C:decide (x<0)=true:=by simpa using c1
   clear c1;go_wp2_with fail;go_quiet(fail);go_wp2;go_ret;exact⟨false,rfl,by simp,BC r.o _⟩
  have C:decide (x<0)=false:=by simpa using c1
  by_cases c3:(t.length:Int)<=x
  .have U:decide ((t.length:Int)<=x)=true:=by simpa using c3
   clear c1 c3;go_wp2_with fail;go_quiet(fail);go_wp2;go_ret;exact⟨false,rfl,by simp,BC r.o _⟩
  obtain⟨m,rfl⟩:∃m:Nat,x=(m:Int):=⟨x.toNat,by omega⟩;have A:m<t.length:=by omega
  have U:decide (t.length<=m)=false:=decide_eq_false (by omega);obtain⟨b',X,rfl,S,T⟩:=(G.o.up r.o).at_ (by omega);have f1:=(T m A).1;have N:Hid ((t.getD m default).kind=t[m].kind):=by rw[Hid,Do A]
  obtain⟨y,g⟩:∃y,y=t[m].kind:=⟨_,rfl⟩;rw[<-g]at f1 N;clear T g c1 c3;by_cases e:y=3
  .subst e;have B:k<=c2:=by omega
   have u:Hid (∀W,AL w.heap.size w W->AX AC 19 #[.slice (some ⟨b,o,none⟩) k c2,.int .i64 (m:Int)] W λe H=>e= .returned (.bool (decide ((m:Int)∈l.take k)))/\W=H):=by
    intro W D;have q:B6 W W.heap.size (some ⟨b,o,none⟩) (E3 (l.take k)):=by
     obtain⟨M,o1,e1,E,R⟩:=(I.o.up D).row.at_ (by rw[CL];omega);refine .inr ⟨M,o1,e1,E,λi d=> ?_⟩;have f:i<(l.take k).length:=(by rw[CL]at d;exact d);have p:i<l.length:=(by simp at f;omega);rw[IK f,R i (by rw[CL];exact p),IK p,F_]
    have:=Iw (some ⟨b,o,none⟩) c2 (l.take k) (by simp;omega) (m:Int) W q;rw[At,Nat.min_eq_left (by omega)]at this;exact this
   by_cases n:(m:Int)∈l.take k
   .rw[decide_eq_true n]at u;clear n;go_wp2_with fail;go_quiet((go_at_call 19;exact E_ (u.o _ (BC r.o _))));go_wp2;go_ret;exact⟨false,rfl,by simp,BC r.o _⟩
   have j:=AA n;rw[decide_eq_false n]at u;have Y:Hid (QC t l (k+1)):=by
    intro i d P;by_cases e2:i=k
    .subst e2;rw[<-F.o];refine⟨by omega,by omega,?_,j.o⟩;rw[Int.toNat_natCast];exact N.o
    exact s.o i d (by omega)
   clear n;go_wp2_with fail;go_quiet((go_at_call 19;exact E_ (u.o _ (BC r.o _))));go_wp2;go_roundw
   .exact⟨k+1,by omega,by go_num,Y,BC r.o _⟩
   simp[Aa];omega
  have J:(y==3)=false:=CY.2 e;have Q:(y !=3)=true:=by simp[e]
  clear e;go_wp2_with fail;go_quiet(fail);go_wp2;go_ret;exact⟨false,rfl,by simp,BC r.o _⟩
 go_wp2;go_ret;refine⟨true,rfl,λ_=>QO ?_,r.o⟩;intro i d f;exact s.o i d (by omega)
structure IC(v:ByteArray):Prop where
 byte:∀c∈v.data.toList,c.toNat≠12/\c.toNat≠11/\c.toNat<128
 once:(BG v.data.toList).Nodup
def Va(v:ByteArray)(w:AB)(e:Bx)(w':AB):Prop:=∃b,e= .returned (.bool b)/\(b=true->IC v)/\AL w.heap.size w w'
theorem NE{α:Type}{l:List α}(h:∀k (o:k<l.length),l[k]∉l.take k):l.Nodup:=by
 unfold List.Nodup;rw[List.pairwise_iff_getElem];intro i j n t a e;refine h j t ?_;rw[<-e];exact C7.2 ⟨i,by omega,rfl⟩
theorem Jy(s:ByteArray)(Z:s.size<=2147483647)(w:AB):
 AX AC 70 #[.string s] w (Va s w):=by
 have Y:=AA (FI s.data.toList);have S:Hid (s.data.toList.length=s.size):=rfl;obtain⟨W,R⟩:∃W,W=BG s.data.toList:=⟨_,rfl⟩;have F:=AA (λw=>IY s Z w);rw[<-R]at F Y;have P:W.length<=2147483647:=by have:=Y.o;have:=S.o;omega
 have L:=AA R;clear R;go_enter func70,ntmps70;go_wp2;go_loopw [3] (λx wr=>∃k:Nat,k<=s.size/\x= .int .i64 k/\Hid (∀c∈s.data.toList.take k,c.toNat≠12/\c.toNat≠11/\c.toNat<128)/\w=wr) (λx _=>s.size-(Aa x).toNat)
 .exact⟨0,AY _,rfl,(by simp[Hid]),rfl⟩
 obtain⟨k,hk,rfl,t,rfl⟩:=hrel;by_cases m:k<s.size
 .have z:s.data.toList[k]'(by have:=S.o;omega)=s[k]:=rfl;have A:Hid (s.data.toList.take (k+1)=s.data.toList.take k++[s[k]]):=by
   rw[Hid,AF (by have:=S.o;omega),z]
  clear z;by_cases c1:s[k].toNat=12
  .have J:((s[k].toNat:Int)==12)=true:=by rw[beq_iff_eq];omega
   clear c1;go_wp2;go_ret;exact⟨false,rfl,(λh=>by cases h),AW _ _⟩
  have J:((s[k].toNat:Int)==12)=false:=CY.2 (by omega);by_cases c2:s[k].toNat=11
  .have Q:((s[k].toNat:Int)==11)=true:=by rw[beq_iff_eq];omega
   clear c1 c2;go_wp2;go_ret;exact⟨false,rfl,(λh=>by cases h),AW _ _⟩
  have Q:((s[k].toNat:Int)==11)=false:=CY.2 (by omega);by_cases c3:128<=s[k].toNat
  .have K:decide ((128:Int)<=(s[k].toNat:Int))=true:=by simp;omega
   clear c1 c2 c3;go_wp2;go_ret;exact⟨false,rfl,(λh=>by cases h),AW _ _⟩
  have K:decide ((128:Int)<=(s[k].toNat:Int))=false:=by simp;omega
  have p:Hid (∀c∈s.data.toList.take (k+1),c.toNat≠12/\c.toNat≠11/\c.toNat<128):=by
   intro c f;rw[A.o,AV,AP]at f;rcases f with f|rfl
   .exact t.o c f
   exact⟨c1,c2,by omega⟩
  clear c1 c2 c3 t A;go_wp2;go_roundw
  .exact⟨k+1,by omega,by go_num,p,by trivial⟩
  simp[Aa];omega
 have HF:Hid (∀c∈s.data.toList,c.toNat≠12/\c.toNat≠11/\c.toNat<128):=by
  have C:=t.o;rw[BP (by have:=S.o;omega)]at C;exact C
 clear t;go_wp2_with fail;refine(F.o _).mono ?_;rintro e I ⟨a,c,rfl,l,U⟩;have G:=AA U;obtain⟨a1,c1,N,_,v⟩:=B6.own l;cases N
 have B:W.length<=c:=by
  rcases l.2 with⟨N,h0⟩|⟨g,cap,cur,N,_,hg,hle,_⟩
  .omega
  cases N;omega
 have u:=AA v;clear l U v;go_wp2;go_loopw [5] (λx wr=>∃k:Nat,k<=W.length/\x= .int .i64 k/\Hid (∀j (y:j<W.length),j<k->W[j]∉W.take j)/\AL I.heap.size I wr) (λx _=>W.length-(Aa x).toNat)
 .exact⟨0,AY _,rfl,(λj _ h=>by omega),AW _ _⟩
 obtain⟨k,hk,rfl,t,T⟩:=hrel;have n:=AA T;clear T;by_cases m:k<W.length
 .obtain⟨b,o,rfl,hbB,E⟩:=(u.o.up n.o).at_ (by rw[Cz];omega);have M:=E k (by rw[Cz];exact m);rw[JU m]at M;have hkc:k<=c:=by omega
  have d:Hid (∀V,AL I.heap.size I V->AX AC 55 #[.slice (some ⟨b,o,none⟩) k c,.string ⟨W[k].toArray⟩] V λe X=>e= .returned (.bool (decide (W[k]∈W.take k)))/\V=X):=by
   intro V hV;have O:B6 V V.heap.size (some ⟨b,o,none⟩) (strs (W.take k)):=by
    obtain⟨b1,o1,e1,D,f⟩:=(u.o.up hV).at_ (by rw[Cz];omega);refine .inr ⟨b1,o1,e1,D,λi H=> ?_⟩;rw[Cz]at H;have q:i<W.length:=(by simp at H;omega);rw[JU H,f i (by rw[Cz];exact q),JU q,F_]
   have:=IJ (W.take k) (by simp;omega) ⟨W[k].toArray⟩ (some ⟨b,o,none⟩) c V O;rw[At,Nat.min_eq_left (by omega)]at this;exact this
  clear E;obtain⟨x,hx⟩:∃x:ByteArray,x=⟨W[k].toArray⟩:=⟨_,rfl⟩;rw[<-hx]at M d;clear hx;by_cases r:W[k]∈W.take k
  .rw[decide_eq_true r]at d;clear r;go_wp2_with fail;go_quiet((go_at_call 55;exact E_ (d.o _ (BC n.o _))));go_wp2;go_ret;exact⟨false,rfl,(λh=>by cases h),BT G.o (BC n.o _)⟩
  have p:Hid (∀j (y:j<W.length),j<k+1->W[j]∉W.take j):=by
   intro j y hjk;by_cases e:j=k
   .subst e;exact r
   exact t.o j y (by omega)
  rw[decide_eq_false r]at d;clear r t;go_wp2_with fail;go_quiet((go_at_call 55;exact E_ (d.o _ (BC n.o _))));go_wp2;go_roundw
  .exact⟨k+1,by omega,by go_num,p,BC n.o _⟩
  simp[Aa];omega
 have p:Hid W.Nodup:=NE λj y=>t.o j y (by omega);go_wp2;go_ret;exact⟨true,rfl,λ_=>⟨HF.o,by rw[<-L.o];exact p.o⟩,BT G.o n.o⟩
theorem KS.Zr{n e:Nat}(h:KS r g n e s O w)(t:e<=w.heap.size)(o:Al (λi=>i<s.N) O w M):AL e w M:=o.below t λi a=>(h.kno.node i a).1
def IZ(op:Int)(list:List (List UInt8))(s:bY)(xs:List Nat):Prop:=op=14\/op=15\/op=16->∀x∈xs,list≠[]/\IC (Cq (s.nd x).attrs)
theorem JS:∀(n:Nat) (l:List UInt8),l.length<=n->(Dv (BG l)).length<=l.length+1:=by
 intro n;induction n with
 |zero=>
  intro l h;have:l=[]:=Ag (by omega);rw[this];simp[BG,Ie,Dv]
 |succ n s=>
  intro l h;by_cases r:∀c∈l,Gm c=false
  .by_cases t:l=[]
   .rw[t];simp[BG,Ie,Dv]
   rw[Er r t];simp[Dv]
  have:∃c∈l,Gm c=true:=by
   false_or_by_contra;rename_i i;refine r λc o=> ?_;cases e:Gm c with
   |false=>rfl
   |true=>exact absurd ⟨c,o,e⟩ i
  obtain⟨c,o,i⟩:=this;obtain⟨a,b,rfl⟩:=List.append_of_mem o;rw[AN,Ak]at h|-;have u:=s a (by omega);have d:=s b (by omega);rw[DZ i,E',AN];omega
theorem QR{k:ByteArray}{x:At2}:∀{l:List At2},CF l k=some x->x∈l:=by
 intro l h;unfold CF at h;exact List.mem_of_find?_eq_some h
theorem OM(h:∀a∈l,a.val.size<=n):(Cq l).size<=n:=by
 unfold Cq;cases e:CF l C4 with
 |none=>exact AY _
 |some x=>exact h x (QR e)
theorem OB(op:Int)(v:List UInt8)(list:List (List UInt8)):(Gr op v list).size<=(Dv (BG v)).length+(Dv list).length:=by
 have a:=FA (OA op list) (BG v);have t:=FA (PB op (BG v)) list;have e:(Gr op v list).size=((Dv (IE op v list)).drop 1).length:=rfl;rw[e,DN];unfold IE;rw[E',AN];omega
def L9(r g a t:Nat)(kb:Nat->Nat)(op:Int)(key val:ByteArray)(list:List (List UInt8))(s:bY)(xs:List Nat)(w:AB)(e:Bx)(w':AB):Prop:=
 ∃b,e= .returned (.bool b)/\(b=true->(∀x∈list,IA x)/\list.Nodup/\KS r g a t (Jf op key val list s xs) kb w'/\IZ op list s xs)/\AL t w w'
theorem M6(hs:Df r s)(hnb:∀i,i<s.N->Kk (s.nd i)/\(s.nd i).attrs.length<=2000/\∀a∈(s.nd i).attrs,a.val.size<=50000000){fc f:Nat}(hK:KS r g fc f s O w)(I:f<=w.heap.size)
 (xs:List Nat)(eh:xs.Nodup)(eo:∀x∈xs,x<s.N)(a1:Option Ai)(c1:Nat)(ho1:w.ownsRow f 57 1 (.slice a1 xs.length c1) xs.length (Ad O xs))
 (v1 v2:AS)(key val:ByteArray)(hkey:key.size<=100000000)(hval:val.size<=100000000)(la:Option Ai)(lc:Nat)(list:List (List UInt8))(hll:list.length<=100000000)(z:∀x∈list,x.length<=100000000)(er:B6 w f la (strs list))(hsp:(Dv list).length<=500000000):
 AX AC 43 #[.agg #[.int .i64 12,v1,v2,.string key,.string val,.slice la list.length lc],.slice a1 xs.length c1] w (L9 r g fc f O 12 key val list s xs w):=by
 have hxl:xs.length<=600:=AH (BH eh eo) hs.few;obtain⟨p,N⟩:∃p,p=w.alloc (.cells #[.int .i64 12,v1,v2,.string key,.string val,.slice la list.length lc] 45):=⟨_,rfl⟩;have hb0:AL w.heap.size w p:=by rw[N];exact Ac
 have hs0:p.heap.size=w.heap.size+1:=by rw[N];simp
 have HQ:Hid (∀W,AL p.heap.size p W->W.cell? ⟨w.heap.size,0,none⟩=some (.int .i64 12)/\W.cell? ⟨w.heap.size,3,none⟩=some (.string key)/\W.cell? ⟨w.heap.size,4,none⟩=some (.string val)/\W.cell? ⟨w.heap.size,5,none⟩=some (.slice la list.length lc)):=by
  intro W t;have:W.heap[w.heap.size]? =some (.cells #[.int .i64 12,v1,v2,.string key,.string val,.slice la list.length lc] 45 (0,0)):=by
   rw[t.block _ (by omega),N];exact Ah w _
  exact⟨Aj this,Aj this,Aj this,Aj this⟩
 have HNm:Hid (∀W,AX AC 34 #[.string key] W (Ou W)):=λW=>FV key W (by omega);have B:Hid (∀W,AL w.heap.size w W->AL f w W):=λW t=>t.mono I;have R:=AA hb0;have HKS:=AA hK;have HS:=AA hs;have HO1:=AA ho1;have HLs:=AA (er.more I);have HLf:Hid (∀W,AL f w W->B6 W W.heap.size la (strs list)):=λW t=>(er.below t).more (AH I t.size);have HLx:=AA z;have HNb:=AA hnb;clear hb0 hK hs ho1 er z hnb;obtain⟨Z,X,J,Q⟩:=HQ.o p (AW _ _);go_enter func43,ntmps43;go_wp2_with fail;rw[<-N];clear N;refine(HNm.o p).mono ?_;rintro e w1 ⟨b1,rfl,rfl⟩;cases b1
 .go_wp2;go_ret;exact⟨false,rfl,by simp,B.o _ R.o⟩
 clear Z X J Q;go_wp2;go_loopw [5,6] (λv _ wr=>∃k:Nat,k<=list.length/\v= .int .i64 k/\Hid (∀x∈list.take k,IA x)/\Hid ((list.take k).Nodup)/\AL p.heap.size p wr) (λv _ _=>list.length-(Aa v).toNat)
 .exact⟨0,AY _,rfl,(λx h=>by simp at h),by simp[Hid],AW _ _⟩
 obtain⟨k,hk,rfl,G,Y,t⟩:=hrel;obtain⟨W,rfl⟩:∃W:AB,W=wr:=⟨_,rfl⟩;obtain⟨Z,X,J,Q⟩:=HQ.o W t;by_cases u:k<list.length
 .have HRw:=AA (λW (hW:AL p.heap.size p W)=>(HLs.o.up (BT R.o hW)).at_ (by simp[strs];omega));have HHb:=AA t;obtain⟨b,o,rfl,-,C⟩:=HRw.o W t;have M:=C k (by simpa [strs]using u);simp only[strs,BD]at M;obtain⟨y,V⟩:∃y:ByteArray,y=⟨list[k].toArray⟩:=⟨_,rfl⟩;have ee:y.data.toList=list[k]:=by rw[V]
  have HYd:=AA ee;have hys:y.size<=100000000:=by rw[Jk ee];exact HLx.o _ (AD u)
  rw[<-V]at M;have HPr:=AA (D0 y (by omega) W);clear C V ee t;go_wp2_with fail;refine HPr.o.mono ?_;rintro e w4 ⟨rfl,rfl⟩;cases hp:Pe y with
  |false=>
   go_wp2;go_ret;exact⟨false,rfl,by simp,B.o _ (BT R.o HHb.o)⟩
  |true=>
   have HNy:Hid (IA list[k]):=by have:=K6 hp;rw[HYd.o]at this;exact this
   clear hp HPr Z X J Q;have HTk:Hid (list.take (k+1)=list.take k++[list[k]]):=AF u;go_wp2;go_loopw [6] (λv wr=>∃j:Nat,j<=k/\v= .int .i64 j/\Hid (list[k]∉list.take j)/\AL p.heap.size p wr) (λv _=>k-(Aa v).toNat)
   .exact⟨0,by omega,rfl,by simp[Hid],HHb.o⟩
   obtain⟨j,hj,rfl,A,t⟩:=hrel;obtain⟨n,rfl⟩:∃W:AB,W=wr:=⟨_,rfl⟩;obtain⟨Z,X,J,Q⟩:=HQ.o n t;by_cases hlj:j<k
   .obtain⟨_,_,hbo,-,C⟩:=HRw.o n t;cases hbo
    have K:j<list.length:=(by omega);have M:=C k (by simpa [strs]using u);have g2:=C j (by simpa [strs]using K);simp only[strs,BD]at M g2;obtain⟨y1,ea⟩:∃y:ByteArray,y=⟨list[k].toArray⟩:=⟨_,rfl⟩;obtain⟨y2,et⟩:∃y:ByteArray,y=⟨list[j].toArray⟩:=⟨_,rfl⟩;have e1:y1.toList=list[k]:=(by rw[BU,ea]);have e2:y2.toList=list[j]:=(by rw[BU,et]);have HE:Hid ((y2.toList==y1.toList)=true↔list[j]=list[k]):=(by rw[Hid,e1,e2];exact beq_iff_eq);rw[<-ea]at M;rw[<-et]at g2;have P:=AA t;clear C ea et e1 e2 t;cases he:(y2.toList==y1.toList)with
    |false=>
     have HN:Hid (list[k]∉list.take (j+1)):=by
      rw[Hid,AF K,AV,AP];rintro(h|h)
      .exact A.o h
      have:=HE.o.2 h.symm;rw[he]at this;cases this
     clear A HE;go_wp2_with fail;go_quiet(fail);go_wp2;go_roundw
     .exact⟨j+1,hlj,by go_num,HN,BC P.o _⟩
     simp[Aa];omega
    |true=>
     clear A HE;go_wp2_with fail;go_quiet(fail);go_wp2;go_ret;exact⟨false,rfl,by simp,B.o _ (BT R.o (BC P.o _))⟩
   have ej:j=k:=by omega
   subst ej;have HNm2:Hid (∀x∈list.take (j+1),IA x):=λx hx=>by
    rw[HTk.o,AV,AP]at hx;rcases hx with h|h
    .exact G.o x h
    rw[h];exact HNy.o
   have HNo2:Hid ((list.take (j+1)).Nodup):=by
    rw[Hid,HTk.o,BA];refine⟨Y.o,by simp,λa ha b hb2 e=> ?_⟩;rw[AP]at hb2;subst hb2;subst e;exact A.o ha
   have P:=AA t;clear A G Y t;go_wp2;go_roundw
   .exact⟨j+1,u,by go_num,HNm2,HNo2,P.o⟩
   simp[Aa];omega
 have ek:k=list.length:=by omega
 subst ek;rw[AU]at G Y;have H:=AA (BT R.o t);have ed:Hid (KS r g fc f s O W):=HKS.o.up H.o;have HQ2:Hid (∀wr,Al (λi=>i<s.N) O W wr->wr.cell? ⟨w.heap.size,0,none⟩=some (.int .i64 12)/\wr.cell? ⟨w.heap.size,3,none⟩=some (.string key)/\wr.cell? ⟨w.heap.size,4,none⟩=some (.string val)/\wr.cell? ⟨w.heap.size,5,none⟩=some (.slice la list.length lc)):=λwr hT=>by
  have m:wr.heap[w.heap.size]? =W.heap[w.heap.size]? :=hT.block _ (by have:=t.size;omega) (λi hi e=>by have:=HKS.o.kno.lt hi;omega);exact⟨(Am (a:=⟨w.heap.size,0,none⟩) m).trans Z,(Am (a:=⟨w.heap.size,3,none⟩) m).trans X,(Am (a:=⟨w.heap.size,4,none⟩) m).trans J,(Am (a:=⟨w.heap.size,5,none⟩) m).trans Q⟩
 have HRx:Hid (∀wr,Al (λi=>i<s.N) O W wr->B6 wr wr.heap.size a1 (Ad O xs)):=λwr hT=>by
  have h1:W.ownsRow f 57 1 (.slice a1 xs.length c1) xs.length (Ad O xs):=BB HO1.o λb _ h2=>H.o.block b h2;exact Bh (hT.own h1 λi hi=>by obtain⟨_,_,_,_,_,h2,_⟩:=ed.o.kno.node i hi;exact Ax h1 h2 (by decide))
 have HBw:Hid (∀wr,Al (λi=>i<s.N) O W wr->AL f w wr):=λwr hT=>(B.o _ H.o).trans (ed.o.Zr (AH I H.o.size) hT);have HXr:Hid (∀x∈xs,x<s.N):=eo;have HNd:Hid xs.Nodup:=eh;clear t Z X J eo eh;go_wp2_with fail;clear Q;go_loopw [7,8,9,10] (λv _ _ _ wr=>∃i:Nat,i<=xs.length/\v= .int .i64 i/\Hid (KS r g fc f (Jf 12 key val list s (xs.take i)) O wr)/\Hid (Al (λi=>i<s.N) O W wr)/\Hid (IZ 12 list s (xs.take i))) (λv _ _ _ _=>xs.length-(Aa v).toNat)
 .exact⟨0,AY _,rfl,ed.o,Al.refl _ _ _,λ_ x hx=>(by cases hx)⟩
 obtain⟨i,hi,rfl,E,d,S⟩:=hrel;obtain⟨n,rfl⟩:∃W:AB,W=wr:=⟨_,rfl⟩;by_cases z:i<xs.length
 .have hxm:xs[i]∈xs:=AD z;have hnt:xs[i]∉xs.take i:=λh=>by
   obtain⟨j,hj,e⟩:=C7.1 h;have:=(C0 HNd.o).1 e;omega
  obtain⟨x,hx⟩:∃x,x=xs[i]:=⟨_,rfl⟩;have F:x<s.N:=by rw[hx];exact HXr.o _ hxm
  have es:xs.take (i+1)=xs.take i++[x]:=by rw[hx];exact AF z
  have en:(Jf 12 key val list s (xs.take i)).nd x=s.nd x:=by rw[hx];exact FC _ _ hnt
  have hN:(Jf 12 key val list s (xs.take i)).N=s.N:=(Fx _ s).2.1;obtain⟨hkB,aa,ac,ka,kc,l,q,eu⟩:=E.o.kno.node x (by rw[hN];exact F);rw[en]at l q;obtain⟨L,hL⟩:∃L,L=(s.nd x).attrs:=⟨_,rfl⟩;obtain⟨N1,N2,N3⟩:=HNb.o x F;rw[<-hL]at q N2 N3;have HA:Hid (JZ n n.heap.size aa L):=J' q (by unfold maxLen;omega) (by rw[hL];exact N1.ats);have c4:n.cell? ⟨O x,4,none⟩=some (.slice aa L.length ac):=by rw[AZ n _ _ _ _ _ l];simp[Eo,hL]
  have hfr:∀(T:AB),AL n.heap.size n T->(∀j,T.frozen? ⟨O x,j,none⟩=false)/\T.cell? ⟨O x,4,none⟩=some (.slice aa L.length ac):=λT t=>by
   have u:=(AE.1 l).1;have m:T.heap[O x]? =n.heap[O x]? :=t.block _ u;exact⟨λj=>A7 T _ j _ _ (m.trans l),(Am (a:=⟨O x,4,none⟩) m).trans c4⟩
  have el:=AA hfr;have D:Hid (∀(v:List At2) (T:AB) (a:Option Ai) (c:Nat),v=He 12 key val list L->T.ownsRow n.heap.size 49 2 (.slice a v.length c) v.length (CJ v)->AL n.heap.size n T->
   Hid (KS r g fc f (Jf 12 key val list s (xs.take (i+1))) O (T.setCell ⟨O x,4,none⟩ (.slice a v.length c)))/\Hid (Al (λi=>i<s.N) O W (T.setCell ⟨O x,4,none⟩ (.slice a v.length c)))):=λv T a c hv ho t=>by
   rw[es,Im,en,<-hL,<-hv];have hs5:f<=n.heap.size:=AH (AH I H.o.size) d.o.size;exact⟨(E.o.up t).setAt (by rw[hN];exact F) (Bf ho hs5),(d.o.trans (Al.Yq t)).set F 4 _⟩
  obtain⟨Z,X,J,Q⟩:=HQ2.o n d.o;obtain⟨b,o,rfl,-,C⟩:=(HRx.o n d.o).at_ (by simp[Ad];omega);have M:=C i (by simp[Ad];omega);simp only[Ad,BD]at M;rw[<-hx]at M;obtain⟨kx,hkx⟩:∃kx,kx=O x:=⟨_,rfl⟩;rw[<-hkx]at M c4 el D;have HLn:Hid (L.length<=3000):=by rw[Hid];omega
  have HVs:=AA N3;have HTi:=AA d.o;have HCl:Hid ((list≠[]/\IC (Cq L))->IZ 12 list s (xs.take (i+1))):=λh ho y V=>by
   rw[es,AV,AP]at V;rcases V with V|rfl
   .exact S.o ho y V
   rw[<-hL];exact h
  clear S;clear C l q eu hL en es hfr hx hkB hN N1 N2 N3 E d hkx hxm hnt;go_wp2_with fail;have HW:=AA (Kg L key val aa ac n.drew HA.o (by have:=HLn.o;omega) ⟨by unfold maxLen;omega,by unfold maxLen;omega⟩);go_region_with (go_at_call 68;refine HW.o.mono ?_;rintro e w6 ⟨a6,c6,rfl,U,hb6⟩;have hb7:=(AW n.heap.size n).drew.trans hb6;obtain⟨f6,c46⟩:=el.o w6 hb7;have f64:=f6 4);all_goals
   clear el f6;go_wp2_with fail;obtain⟨HK2,HT2⟩:=D.o _ w6 a6 c6 (by simp[He]) U hb7;clear D U hb6;go_roundw
   .exact⟨i+1,z,by go_num,HK2,HT2,λh=>by omega⟩
   simp[Aa];omega
 have ei:i=xs.length:=by omega
 subst ei;rw[AU]at E S;have HD:Hid (L9 r g fc f O 12 key val list s xs w (.returned (.bool true)) n):=⟨true,rfl,λ_=>⟨G.o,Y.o,E.o,S.o⟩,HBw.o _ d.o⟩;clear E d S;go_wp2;go_ret;exact HD.o
theorem M7(hs:Df r s)(hnb:∀i,i<s.N->Kk (s.nd i)/\(s.nd i).attrs.length<=2000/\∀a∈(s.nd i).attrs,a.val.size<=50000000){fc f:Nat}(hK:KS r g fc f s O w)(I:f<=w.heap.size)
 (xs:List Nat)(eh:xs.Nodup)(eo:∀x∈xs,x<s.N)(a1:Option Ai)(c1:Nat)(ho1:w.ownsRow f 57 1 (.slice a1 xs.length c1) xs.length (Ad O xs))
 (v1 v2:AS)(key val:ByteArray)(hkey:key.size<=100000000)(hval:val.size<=100000000)(la:Option Ai)(lc:Nat)(list:List (List UInt8))(hll:list.length<=100000000)(z:∀x∈list,x.length<=100000000)(er:B6 w f la (strs list))(hsp:(Dv list).length<=500000000):
 AX AC 43 #[.agg #[.int .i64 13,v1,v2,.string key,.string val,.slice la list.length lc],.slice a1 xs.length c1] w (L9 r g fc f O 13 key val list s xs w):=by
 have hxl:xs.length<=600:=AH (BH eh eo) hs.few;obtain⟨p,N⟩:∃p,p=w.alloc (.cells #[.int .i64 13,v1,v2,.string key,.string val,.slice la list.length lc] 45):=⟨_,rfl⟩;have hb0:AL w.heap.size w p:=by rw[N];exact Ac
 have hs0:p.heap.size=w.heap.size+1:=by rw[N];simp
 have HQ:Hid (∀W,AL p.heap.size p W->W.cell? ⟨w.heap.size,0,none⟩=some (.int .i64 13)/\W.cell? ⟨w.heap.size,3,none⟩=some (.string key)/\W.cell? ⟨w.heap.size,4,none⟩=some (.string val)/\W.cell? ⟨w.heap.size,5,none⟩=some (.slice la list.length lc)):=by
  intro W t;have:W.heap[w.heap.size]? =some (.cells #[.int .i64 13,v1,v2,.string key,.string val,.slice la list.length lc] 45 (0,0)):=by
   rw[t.block _ (by omega),N];exact Ah w _
  exact⟨Aj this,Aj this,Aj this,Aj this⟩
 have HNm:Hid (∀W,AX AC 34 #[.string key] W (Ou W)):=λW=>FV key W (by omega);have B:Hid (∀W,AL w.heap.size w W->AL f w W):=λW t=>t.mono I;have R:=AA hb0;have HKS:=AA hK;have HS:=AA hs;have HO1:=AA ho1;have HLs:=AA (er.more I);have HLf:Hid (∀W,AL f w W->B6 W W.heap.size la (strs list)):=λW t=>(er.below t).more (AH I t.size);have HLx:=AA z;have HNb:=AA hnb;clear hb0 hK hs ho1 er z hnb;obtain⟨Z,X,J,Q⟩:=HQ.o p (AW _ _);go_enter func43,ntmps43;go_wp2_with fail;rw[<-N];clear N;refine(HNm.o p).mono ?_;rintro e w1 ⟨b1,rfl,rfl⟩;cases b1
 .go_wp2;go_ret;exact⟨false,rfl,by simp,B.o _ R.o⟩
 clear Z X J Q;go_wp2;go_loopw [5,6] (λv _ wr=>∃k:Nat,k<=list.length/\v= .int .i64 k/\Hid (∀x∈list.take k,IA x)/\Hid ((list.take k).Nodup)/\AL p.heap.size p wr) (λv _ _=>list.length-(Aa v).toNat)
 .exact⟨0,AY _,rfl,(λx h=>by simp at h),by simp[Hid],AW _ _⟩
 obtain⟨k,hk,rfl,G,Y,t⟩:=hrel;obtain⟨W,rfl⟩:∃W:AB,W=wr:=⟨_,rfl⟩;obtain⟨Z,X,J,Q⟩:=HQ.o W t;by_cases u:k<list.length
 .have HRw:=AA (λW (hW:AL p.heap.size p W)=>(HLs.o.up (BT R.o hW)).at_ (by simp[strs];omega));have HHb:=AA t;obtain⟨b,o,rfl,-,C⟩:=HRw.o W t;have M:=C k (by simpa [strs]using u);simp only[strs,BD]at M;obtain⟨y,V⟩:∃y:ByteArray,y=⟨list[k].toArray⟩:=⟨_,rfl⟩;have ee:y.data.toList=list[k]:=by rw[V]
  have HYd:=AA ee;have hys:y.size<=100000000:=by rw[Jk ee];exact HLx.o _ (AD u)
  rw[<-V]at M;have HPr:=AA (D0 y (by omega) W);clear C V ee t;go_wp2_with fail;refine HPr.o.mono ?_;rintro e w4 ⟨rfl,rfl⟩;cases hp:Pe y with
  |false=>
   go_wp2;go_ret;exact⟨false,rfl,by simp,B.o _ (BT R.o HHb.o)⟩
  |true=>
   have HNy:Hid (IA list[k]):=by have:=K6 hp;rw[HYd.o]at this;exact this
   clear hp HPr Z X J Q;have HTk:Hid (list.take (k+1)=list.take k++[list[k]]):=AF u;go_wp2;go_loopw [6] (λv wr=>∃j:Nat,j<=k/\v= .int .i64 j/\Hid (list[k]∉list.take j)/\AL p.heap.size p wr) (λv _=>k-(Aa v).toNat)
   .exact⟨0,by omega,rfl,by simp[Hid],HHb.o⟩
   obtain⟨j,hj,rfl,A,t⟩:=hrel;obtain⟨n,rfl⟩:∃W:AB,W=wr:=⟨_,rfl⟩;obtain⟨Z,X,J,Q⟩:=HQ.o n t;by_cases hlj:j<k
   .obtain⟨_,_,hbo,-,C⟩:=HRw.o n t;cases hbo
    have K:j<list.length:=(by omega);have M:=C k (by simpa [strs]using u);have g2:=C j (by simpa [strs]using K);simp only[strs,BD]at M g2;obtain⟨y1,ea⟩:∃y:ByteArray,y=⟨list[k].toArray⟩:=⟨_,rfl⟩;obtain⟨y2,et⟩:∃y:ByteArray,y=⟨list[j].toArray⟩:=⟨_,rfl⟩;have e1:y1.toList=list[k]:=(by rw[BU,ea]);have e2:y2.toList=list[j]:=(by rw[BU,et]);have HE:Hid ((y2.toList==y1.toList)=true↔list[j]=list[k]):=(by rw[Hid,e1,e2];exact beq_iff_eq);rw[<-ea]at M;rw[<-et]at g2;have P:=AA t;clear C ea et e1 e2 t;cases he:(y2.toList==y1.toList)with
    |false=>
     have HN:Hid (list[k]∉list.take (j+1)):=by
      rw[Hid,AF K,AV,AP];rintro(h|h)
      .exact A.o h
      have:=HE.o.2 h.symm;rw[he]at this;cases this
     clear A HE;go_wp2_with fail;go_quiet(fail);go_wp2;go_roundw
     .exact⟨j+1,hlj,by go_num,HN,BC P.o _⟩
     simp[Aa];omega
    |true=>
     clear A HE;go_wp2_with fail;go_quiet(fail);go_wp2;go_ret;exact⟨false,rfl,by simp,B.o _ (BT R.o (BC P.o _))⟩
   have ej:j=k:=by omega
   subst ej;have HNm2:Hid (∀x∈list.take (j+1),IA x):=λx hx=>by
    rw[HTk.o,AV,AP]at hx;rcases hx with h|h
    .exact G.o x h
    rw[h];exact HNy.o
   have HNo2:Hid ((list.take (j+1)).Nodup):=by
    rw[Hid,HTk.o,BA];refine⟨Y.o,by simp,λa ha b hb2 e=> ?_⟩;rw[AP]at hb2;subst hb2;subst e;exact A.o ha
   have P:=AA t;clear A G Y t;go_wp2;go_roundw
   .exact⟨j+1,u,by go_num,HNm2,HNo2,P.o⟩
   simp[Aa];omega
 have ek:k=list.length:=by omega
 subst ek;rw[AU]at G Y;have H:=AA (BT R.o t);have ed:Hid (KS r g fc f s O W):=HKS.o.up H.o;have HQ2:Hid (∀wr,Al (λi=>i<s.N) O W wr->wr.cell? ⟨w.heap.size,0,none⟩=some (.int .i64 13)/\wr.cell? ⟨w.heap.size,3,none⟩=some (.string key)/\wr.cell? ⟨w.heap.size,4,none⟩=some (.string val)/\wr.cell? ⟨w.heap.size,5,none⟩=some (.slice la list.length lc)):=λwr hT=>by
  have m:wr.heap[w.heap.size]? =W.heap[w.heap.size]? :=hT.block _ (by have:=t.size;omega) (λi hi e=>by have:=HKS.o.kno.lt hi;omega);exact⟨(Am (a:=⟨w.heap.size,0,none⟩) m).trans Z,(Am (a:=⟨w.heap.size,3,none⟩) m).trans X,(Am (a:=⟨w.heap.size,4,none⟩) m).trans J,(Am (a:=⟨w.heap.size,5,none⟩) m).trans Q⟩
 have HRx:Hid (∀wr,Al (λi=>i<s.N) O W wr->B6 wr wr.heap.size a1 (Ad O xs)):=λwr hT=>by
  have h1:W.ownsRow f 57 1 (.slice a1 xs.length c1) xs.length (Ad O xs):=BB HO1.o λb _ h2=>H.o.block b h2;exact Bh (hT.own h1 λi hi=>by obtain⟨_,_,_,_,_,h2,_⟩:=ed.o.kno.node i hi;exact Ax h1 h2 (by decide))
 have HBw:Hid (∀wr,Al (λi=>i<s.N) O W wr->AL f w wr):=λwr hT=>(B.o _ H.o).trans (ed.o.Zr (AH I H.o.size) hT);have HXr:Hid (∀x∈xs,x<s.N):=eo;have HNd:Hid xs.Nodup:=eh;clear t Z X J eo eh;go_wp2_with fail;clear Q;go_loopw [7,8,9,10] (λv _ _ _ wr=>∃i:Nat,i<=xs.length/\v= .int .i64 i/\Hid (KS r g fc f (Jf 13 key val list s (xs.take i)) O wr)/\Hid (Al (λi=>i<s.N) O W wr)/\Hid (IZ 13 list s (xs.take i))) (λv _ _ _ _=>xs.length-(Aa v).toNat)
 .exact⟨0,AY _,rfl,ed.o,Al.refl _ _ _,λ_ x hx=>(by cases hx)⟩
 obtain⟨i,hi,rfl,E,d,S⟩:=hrel;obtain⟨n,rfl⟩:∃W:AB,W=wr:=⟨_,rfl⟩;by_cases z:i<xs.length
 .have hxm:xs[i]∈xs:=AD z;have hnt:xs[i]∉xs.take i:=λh=>by
   obtain⟨j,hj,e⟩:=C7.1 h;have:=(C0 HNd.o).1 e;omega
  obtain⟨x,hx⟩:∃x,x=xs[i]:=⟨_,rfl⟩;have F:x<s.N:=by rw[hx];exact HXr.o _ hxm
  have es:xs.take (i+1)=xs.take i++[x]:=by rw[hx];exact AF z
  have en:(Jf 13 key val list s (xs.take i)).nd x=s.nd x:=by rw[hx];exact FC _ _ hnt
  have hN:(Jf 13 key val list s (xs.take i)).N=s.N:=(Fx _ s).2.1;obtain⟨hkB,aa,ac,ka,kc,l,q,eu⟩:=E.o.kno.node x (by rw[hN];exact F);rw[en]at l q;obtain⟨L,hL⟩:∃L,L=(s.nd x).attrs:=⟨_,rfl⟩;obtain⟨N1,N2,N3⟩:=HNb.o x F;rw[<-hL]at q N2 N3;have HA:Hid (JZ n n.heap.size aa L):=J' q (by unfold maxLen;omega) (by rw[hL];exact N1.ats);have c4:n.cell? ⟨O x,4,none⟩=some (.slice aa L.length ac):=by rw[AZ n _ _ _ _ _ l];simp[Eo,hL]
  have hfr:∀(T:AB),AL n.heap.size n T->(∀j,T.frozen? ⟨O x,j,none⟩=false)/\T.cell? ⟨O x,4,none⟩=some (.slice aa L.length ac):=λT t=>by
   have u:=(AE.1 l).1;have m:T.heap[O x]? =n.heap[O x]? :=t.block _ u;exact⟨λj=>A7 T _ j _ _ (m.trans l),(Am (a:=⟨O x,4,none⟩) m).trans c4⟩
  have el:=AA hfr;have D:Hid (∀(v:List At2) (T:AB) (a:Option Ai) (c:Nat),v=He 13 key val list L->T.ownsRow n.heap.size 49 2 (.slice a v.length c) v.length (CJ v)->AL n.heap.size n T->
   Hid (KS r g fc f (Jf 13 key val list s (xs.take (i+1))) O (T.setCell ⟨O x,4,none⟩ (.slice a v.length c)))/\Hid (Al (λi=>i<s.N) O W (T.setCell ⟨O x,4,none⟩ (.slice a v.length c)))):=λv T a c hv ho t=>by
   rw[es,Im,en,<-hL,<-hv];have hs5:f<=n.heap.size:=AH (AH I H.o.size) d.o.size;exact⟨(E.o.up t).setAt (by rw[hN];exact F) (Bf ho hs5),(d.o.trans (Al.Yq t)).set F 4 _⟩
  obtain⟨Z,X,J,Q⟩:=HQ2.o n d.o;obtain⟨b,o,rfl,-,C⟩:=(HRx.o n d.o).at_ (by simp[Ad];omega);have M:=C i (by simp[Ad];omega);simp only[Ad,BD]at M;rw[<-hx]at M;obtain⟨kx,hkx⟩:∃kx,kx=O x:=⟨_,rfl⟩;rw[<-hkx]at M c4 el D;have HLn:Hid (L.length<=3000):=by rw[Hid];omega
  have HVs:=AA N3;have HTi:=AA d.o;have HCl:Hid ((list≠[]/\IC (Cq L))->IZ 13 list s (xs.take (i+1))):=λh ho y V=>by
   rw[es,AV,AP]at V;rcases V with V|rfl
   .exact S.o ho y V
   rw[<-hL];exact h
  clear S;clear C l q eu hL en es hfr hx hkB hN N1 N2 N3 E d hkx hxm hnt;go_wp2_with fail;have HW:=AA (Px L key aa ac n.drew HA.o (by have:=HLn.o;omega));go_region_with (go_at_call 69;refine HW.o.mono ?_;rintro e w6 ⟨a6,c6,rfl,U,hb6⟩;have hb7:=(AW n.heap.size n).drew.trans hb6;obtain⟨f6,c46⟩:=el.o w6 hb7;have f64:=f6 4);all_goals
   clear el f6;go_wp2_with fail;obtain⟨HK2,HT2⟩:=D.o _ w6 a6 c6 (by simp[He]) U hb7;clear D U hb6;go_roundw
   .exact⟨i+1,z,by go_num,HK2,HT2,λh=>by omega⟩
   simp[Aa];omega
 have ei:i=xs.length:=by omega
 subst ei;rw[AU]at E S;have HD:Hid (L9 r g fc f O 13 key val list s xs w (.returned (.bool true)) n):=⟨true,rfl,λ_=>⟨G.o,Y.o,E.o,S.o⟩,HBw.o _ d.o⟩;clear E d S;go_wp2;go_ret;exact HD.o
theorem M8(hs:Df r s)(hnb:∀i,i<s.N->Kk (s.nd i)/\(s.nd i).attrs.length<=2000/\∀a∈(s.nd i).attrs,a.val.size<=50000000){fc f:Nat}(hK:KS r g fc f s O w)(H:f<=w.heap.size)
 (xs:List Nat)(hnd:xs.Nodup)(hxr:∀x∈xs,x<s.N)(a1:Option Ai)(c1:Nat)(ho1:w.ownsRow f 57 1 (.slice a1 xs.length c1) xs.length (Ad O xs))
 (v1 v2:AS)(key val:ByteArray)(hkey:key.size<=100000000)(hval:val.size<=100000000)(la:Option Ai)(lc:Nat)(list:List (List UInt8))(hll:list.length<=100000000)(z:∀x∈list,x.length<=100000000)(hls:B6 w f la (strs list))(hsp:(Dv list).length<=500000000):
 AX AC 43 #[.agg #[.int .i64 14,v1,v2,.string key,.string val,.slice la list.length lc],.slice a1 xs.length c1] w (L9 r g fc f O 14 key val list s xs w):=by
 have hxl:xs.length<=600:=AH (BH hnd hxr) hs.few;obtain⟨q,R⟩:∃q,q=w.alloc (.cells #[.int .i64 14,v1,v2,.string key,.string val,.slice la list.length lc] 45):=⟨_,rfl⟩;have hb0:AL w.heap.size w q:=by rw[R];exact Ac
 have hs0:q.heap.size=w.heap.size+1:=by rw[R];simp
 have HQ:Hid (∀W,AL q.heap.size q W->W.cell? ⟨w.heap.size,0,none⟩=some (.int .i64 14)/\W.cell? ⟨w.heap.size,3,none⟩=some (.string key)/\W.cell? ⟨w.heap.size,4,none⟩=some (.string val)/\W.cell? ⟨w.heap.size,5,none⟩=some (.slice la list.length lc)):=by
  intro W d;have:W.heap[w.heap.size]? =some (.cells #[.int .i64 14,v1,v2,.string key,.string val,.slice la list.length lc] 45 (0,0)):=by
   rw[d.block _ (by omega),R];exact Ah w _
  exact⟨Aj this,Aj this,Aj this,Aj this⟩
 have HNm:Hid (∀W,AX AC 34 #[.string key] W (Ou W)):=λW=>FV key W (by omega);have HBf:Hid (∀W,AL w.heap.size w W->AL f w W):=λW d=>d.mono H;have er:=AA hb0;have HKS:=AA hK;have HS:=AA hs;have HO1:=AA ho1;have HLs:=AA (hls.more H);have HLf:Hid (∀W,AL f w W->B6 W W.heap.size la (strs list)):=λW d=>(hls.below d).more (AH H d.size);have HLx:=AA z;have HNb:=AA hnb;clear hb0 hK hs ho1 hls z hnb;obtain⟨J,Q,K,B⟩:=HQ.o q (AW _ _);go_enter func43,ntmps43;go_wp2_with fail;rw[<-R];clear R J Q K B;go_loopw [5,6] (λv _ wr=>∃k:Nat,k<=list.length/\v= .int .i64 k/\Hid (∀x∈list.take k,IA x)/\Hid ((list.take k).Nodup)/\AL q.heap.size q wr) (λv _ _=>list.length-(Aa v).toNat)
 .exact⟨0,AY _,rfl,(λx h=>by simp at h),by simp[Hid],AW _ _⟩
 obtain⟨k,hk,rfl,ea,et,d⟩:=hrel;obtain⟨W,rfl⟩:∃W:AB,W=wr:=⟨_,rfl⟩;obtain⟨J,Q,K,B⟩:=HQ.o W d;by_cases u:k<list.length
 .have HRw:=AA (λW (hW:AL q.heap.size q W)=>(HLs.o.up (BT er.o hW)).at_ (by simp[strs];omega));have HHb:=AA d;obtain⟨b,o,rfl,-,X⟩:=HRw.o W d;have Z:=X k (by simpa [strs]using u);simp only[strs,BD]at Z;obtain⟨y,hy⟩:∃y:ByteArray,y=⟨list[k].toArray⟩:=⟨_,rfl⟩;have hyd:y.data.toList=list[k]:=by rw[hy]
  have HYd:=AA hyd;have hys:y.size<=100000000:=by rw[Jk hyd];exact HLx.o _ (AD u)
  rw[<-hy]at Z;have HPr:=AA (D0 y (by omega) W);clear X hy hyd d;go_wp2_with fail;refine HPr.o.mono ?_;rintro e w4 ⟨rfl,rfl⟩;cases hp:Pe y with
  |false=>
   go_wp2;go_ret;exact⟨false,rfl,by simp,HBf.o _ (BT er.o HHb.o)⟩
  |true=>
   have HNy:Hid (IA list[k]):=by have:=K6 hp;rw[HYd.o]at this;exact this
   clear hp HPr J Q K B;have HTk:Hid (list.take (k+1)=list.take k++[list[k]]):=AF u;go_wp2;go_loopw [6] (λv wr=>∃j:Nat,j<=k/\v= .int .i64 j/\Hid (list[k]∉list.take j)/\AL q.heap.size q wr) (λv _=>k-(Aa v).toNat)
   .exact⟨0,by omega,rfl,by simp[Hid],HHb.o⟩
   obtain⟨j,hj,rfl,S,d⟩:=hrel;obtain⟨t,rfl⟩:∃W:AB,W=wr:=⟨_,rfl⟩;obtain⟨J,Q,K,B⟩:=HQ.o t d;by_cases hlj:j<k
   .obtain⟨_,_,hbo,-,X⟩:=HRw.o t d;cases hbo
    have hlj2:j<list.length:=(by omega);have Z:=X k (by simpa [strs]using u);have g2:=X j (by simpa [strs]using hlj2);simp only[strs,BD]at Z g2;obtain⟨y1,hy1⟩:∃y:ByteArray,y=⟨list[k].toArray⟩:=⟨_,rfl⟩;obtain⟨y2,hy2⟩:∃y:ByteArray,y=⟨list[j].toArray⟩:=⟨_,rfl⟩;have e1:y1.toList=list[k]:=(by rw[BU,hy1]);have e2:y2.toList=list[j]:=(by rw[BU,hy2]);have HE:Hid ((y2.toList==y1.toList)=true↔list[j]=list[k]):=(by rw[Hid,e1,e2];exact beq_iff_eq);rw[<-hy1]at Z;rw[<-hy2]at g2;have eh:=AA d;clear X hy1 hy2 e1 e2 d;cases he:(y2.toList==y1.toList)with
    |false=>
     have HN:Hid (list[k]∉list.take (j+1)):=by
      rw[Hid,AF hlj2,AV,AP];rintro(h|h)
      .exact S.o h
      have:=HE.o.2 h.symm;rw[he]at this;cases this
     clear S HE;go_wp2_with fail;go_quiet(fail);go_wp2;go_roundw
     .exact⟨j+1,hlj,by go_num,HN,BC eh.o _⟩
     simp[Aa];omega
    |true=>
     clear S HE;go_wp2_with fail;go_quiet(fail);go_wp2;go_ret;exact⟨false,rfl,by simp,HBf.o _ (BT er.o (BC eh.o _))⟩
   have ej:j=k:=by omega
   subst ej;have HNm2:Hid (∀x∈list.take (j+1),IA x):=λx hx=>by
    rw[HTk.o,AV,AP]at hx;rcases hx with h|h
    .exact ea.o x h
    rw[h];exact HNy.o
   have HNo2:Hid ((list.take (j+1)).Nodup):=by
    rw[Hid,HTk.o,BA];refine⟨et.o,by simp,λa ha b hb2 e=> ?_⟩;rw[AP]at hb2;subst hb2;subst e;exact S.o ha
   have eh:=AA d;clear S ea et d;go_wp2;go_roundw
   .exact⟨j+1,u,by go_num,HNm2,HNo2,eh.o⟩
   simp[Aa];omega
 have ek:k=list.length:=by omega
 subst ek;rw[AU]at ea et;have C:=AA (BT er.o d);have HKw:Hid (KS r g fc f s O W):=HKS.o.up C.o;have HQ2:Hid (∀wr,Al (λi=>i<s.N) O W wr->wr.cell? ⟨w.heap.size,0,none⟩=some (.int .i64 14)/\wr.cell? ⟨w.heap.size,3,none⟩=some (.string key)/\wr.cell? ⟨w.heap.size,4,none⟩=some (.string val)/\wr.cell? ⟨w.heap.size,5,none⟩=some (.slice la list.length lc)):=λwr hT=>by
  have m:wr.heap[w.heap.size]? =W.heap[w.heap.size]? :=hT.block _ (by have:=d.size;omega) (λi hi e=>by have:=HKS.o.kno.lt hi;omega);exact⟨(Am (a:=⟨w.heap.size,0,none⟩) m).trans J,(Am (a:=⟨w.heap.size,3,none⟩) m).trans Q,(Am (a:=⟨w.heap.size,4,none⟩) m).trans K,(Am (a:=⟨w.heap.size,5,none⟩) m).trans B⟩
 have HRx:Hid (∀wr,Al (λi=>i<s.N) O W wr->B6 wr wr.heap.size a1 (Ad O xs)):=λwr hT=>by
  have h1:W.ownsRow f 57 1 (.slice a1 xs.length c1) xs.length (Ad O xs):=BB HO1.o λb _ h2=>C.o.block b h2;exact Bh (hT.own h1 λi hi=>by obtain⟨_,_,_,_,_,h2,_⟩:=HKw.o.kno.node i hi;exact Ax h1 h2 (by decide))
 have HBw:Hid (∀wr,Al (λi=>i<s.N) O W wr->AL f w wr):=λwr hT=>(HBf.o _ C.o).trans (HKw.o.Zr (AH H C.o.size) hT);have HXr:Hid (∀x∈xs,x<s.N):=hxr;have HNd:Hid xs.Nodup:=hnd;clear d J Q K hxr hnd;go_wp2_with fail;clear B;go_loopw [7,8,9,10] (λv _ _ _ wr=>∃i:Nat,i<=xs.length/\v= .int .i64 i/\Hid (KS r g fc f (Jf 14 key val list s (xs.take i)) O wr)/\Hid (Al (λi=>i<s.N) O W wr)/\Hid (IZ 14 list s (xs.take i))) (λv _ _ _ _=>xs.length-(Aa v).toNat)
 .exact⟨0,AY _,rfl,HKw.o,Al.refl _ _ _,λ_ x hx=>(by cases hx)⟩
 obtain⟨i,hi,rfl,A,l,D⟩:=hrel;obtain⟨t,rfl⟩:∃W:AB,W=wr:=⟨_,rfl⟩;by_cases z:i<xs.length
 .have hxm:xs[i]∈xs:=AD z;have hnt:xs[i]∉xs.take i:=λh=>by
   obtain⟨j,hj,e⟩:=C7.1 h;have:=(C0 HNd.o).1 e;omega
  obtain⟨x,hx⟩:∃x,x=xs[i]:=⟨_,rfl⟩;have ee:x<s.N:=by rw[hx];exact HXr.o _ hxm
  have hsn:xs.take (i+1)=xs.take i++[x]:=by rw[hx];exact AF z
  have hsx:(Jf 14 key val list s (xs.take i)).nd x=s.nd x:=by rw[hx];exact FC _ _ hnt
  have hN:(Jf 14 key val list s (xs.take i)).N=s.N:=(Fx _ s).2.1;obtain⟨hkB,aa,ac,ka,kc,n,p,hown2⟩:=A.o.kno.node x (by rw[hN];exact ee);rw[hsx]at n p;obtain⟨L,hL⟩:∃L,L=(s.nd x).attrs:=⟨_,rfl⟩;obtain⟨N1,N2,N3⟩:=HNb.o x ee;rw[<-hL]at p N2 N3;have HA:Hid (JZ t t.heap.size aa L):=J' p (by unfold maxLen;omega) (by rw[hL];exact N1.ats);have c4:t.cell? ⟨O x,4,none⟩=some (.slice aa L.length ac):=by rw[AZ t _ _ _ _ _ n];simp[Eo,hL]
  have hfr:∀(I:AB),AL t.heap.size t I->(∀j,I.frozen? ⟨O x,j,none⟩=false)/\I.cell? ⟨O x,4,none⟩=some (.slice aa L.length ac):=λI d=>by
   have u:=(AE.1 n).1;have m:I.heap[O x]? =t.heap[O x]? :=d.block _ u;exact⟨λj=>A7 I _ j _ _ (m.trans n),(Am (a:=⟨O x,4,none⟩) m).trans c4⟩
  have U:=AA hfr;have Y:Hid (∀(v:List At2) (I:AB) (a:Option Ai) (c:Nat),v=He 14 key val list L->I.ownsRow t.heap.size 49 2 (.slice a v.length c) v.length (CJ v)->AL t.heap.size t I->
   Hid (KS r g fc f (Jf 14 key val list s (xs.take (i+1))) O (I.setCell ⟨O x,4,none⟩ (.slice a v.length c)))/\Hid (Al (λi=>i<s.N) O W (I.setCell ⟨O x,4,none⟩ (.slice a v.length c)))):=λv I a c hv ho d=>by
   rw[hsn,Im,hsx,<-hL,<-hv];have hs5:f<=t.heap.size:=AH (AH H C.o.size) l.o.size;exact⟨(A.o.up d).setAt (by rw[hN];exact ee) (Bf ho hs5),(l.o.trans (Al.Yq d)).set ee 4 _⟩
  obtain⟨J,Q,K,B⟩:=HQ2.o t l.o;obtain⟨b,o,rfl,-,X⟩:=(HRx.o t l.o).at_ (by simp[Ad];omega);have Z:=X i (by simp[Ad];omega);simp only[Ad,BD]at Z;rw[<-hx]at Z;obtain⟨kx,E⟩:∃kx,kx=O x:=⟨_,rfl⟩;rw[<-E]at Z c4 U Y;have HLn:Hid (L.length<=3000):=by rw[Hid];omega
  have HVs:=AA N3;have es:=AA l.o;have HCl:Hid ((list≠[]/\IC (Cq L))->IZ 14 list s (xs.take (i+1))):=λh ho y hy=>by
   rw[hsn,AV,AP]at hy;rcases hy with hy|rfl
   .exact D.o ho y hy
   rw[<-hL];exact h
  clear D;have k1:t.cell? ⟨kx,1,none⟩=some (.int .i64 (s.nd x).kind):=by rw[E,AZ t _ _ _ _ _ n];rfl
  have k2:t.cell? ⟨kx,2,none⟩=some (.string (s.nd x).tag):=by rw[E,AZ t _ _ _ _ _ n];rfl
  have k3:t.cell? ⟨kx,3,none⟩=some (.string (s.nd x).text):=by rw[E,AZ t _ _ _ _ _ n];rfl
  have k5:t.cell? ⟨kx,5,none⟩=some (.int .i64 (s.nd x).size):=by rw[E,AZ t _ _ _ _ _ n];rfl
  obtain⟨nk,nt,nx,ns,hn1,hn2,hn3,hn4⟩:∃(nk:Int) (nt nx:ByteArray) (ns:Int),nk=(s.nd x).kind/\nt=(s.nd x).tag/\nx=(s.nd x).text/\ns=(s.nd x).size:=⟨_,_,_,_,rfl,rfl,rfl,rfl⟩;rw[<-hn1]at k1;rw[<-hn2]at k2;rw[<-hn3]at k3;rw[<-hn4]at k5;have HAt:=AA (λW (hW:AL t.heap.size t W)=>KB ⟨nk,nt,nx,aa,ac,L,ns⟩ C4 W ((HA.o.below hW).more hW.size) (by show L.length<=_;have:=HLn.o;omega));have hhs:(Cq L).size<=50000000:=OM HVs.o;obtain⟨V,hV⟩:∃V,V=Cq L:=⟨_,rfl⟩;have HV:=AA hV;rw[<-hV]at hhs;clear X hn1 hn2 hn3 hn4 hV n p hown2 hL hsx hsn hfr hx hkB hN N1 N2 N3 A l E hxm hnt;go_wp2_with fail;refine(HAt.o _ (by first|exact AW _ _|exact(AW _ _).drew)).mono ?_;rintro e w6 ⟨N,hb6⟩;obtain⟨bb,rfl⟩:∃bb,e= .returned (.tuple #[.string V,.bool bb]):=by
   rw[HV.o];unfold Cq;cases hf:CF L C4 with
   |none=>rw[hf]at N;exact⟨_,N⟩
   |some y=>rw[hf]at N;exact⟨_,N⟩
  have en:AL t.heap.size t w6:=by first|exact hb6|exact(AW _ _).drew.trans hb6
  have HB7:=AA en;obtain⟨J,Q,K,B⟩:=HQ2.o w6 (es.o.trans (Al.Yq en));have HSi:=AA (λW=>Jy V (by omega) W);have HF6:=AA (HBw.o w6 (es.o.trans (Al.Yq en)));clear N hb6 en HAt;by_cases hl0:list.length=0
  .have ez:((list.length:Int)==0)=true:=beq_iff_eq.2 (by omega);go_wp2;go_ret;exact⟨false,rfl,by simp,HF6.o⟩
  have ez:((list.length:Int)==0)=false:=CY.2 (by omega);go_wp2_with fail;refine(HSi.o _).mono ?_;rintro e w7 ⟨b1,rfl,M,eo⟩;have T:AL t.heap.size t w7:=by first|exact BT HB7.o eo|exact BT HB7.o.drew eo
  have HF7:=AA (HBw.o w7 (es.o.trans (Al.Yq T)));cases b1
  .clear eo T M;go_wp2;go_ret;exact⟨false,rfl,by simp,HF7.o⟩
  have HSm:=AA (M rfl);obtain⟨J,Q,K,B⟩:=HQ2.o w7 (es.o.trans (Al.Yq T));obtain⟨f7,c47⟩:=U.o w7 T;have HB9:=AA T;have HLs7:=AA (HLf.o w7 HF7.o);have hcw:=FI V.data.toList;have hvs:V.data.toList.length=V.size:=rfl;have hsw:=JS _ V.data.toList (AG _);have HCs:=AA (Ip (op:=14) (by decide) V (by omega) list (by omega) (by omega) (by omega) (by omega) la lc w7.drew HLs7.o);have hcv:=OB 14 V.data.toList list;have HWi:=AA (λW (hW:AL t.heap.size t W)=>Kg L C4 (Gr 14 V.data.toList list) aa ac W ((HA.o.below hW).more hW.size) (by have:=HLn.o;omega) ⟨by show 5<=maxLen;decide,by unfold maxLen;omega⟩);clear eo T M f7 hcw hsw hvs hcv;go_wp2_with fail;go_region_with (first|(go_at_call 71;refine HCs.o.mono ?_;rintro e w8 ⟨rfl,hb10⟩;have F:=BT HB9.o.drew hb10;obtain⟨f8,c48⟩:=U.o w8 F;have G:=AA F;clear hb10 F f8)|(go_at_call 68;refine(HWi.o _ G.o).mono ?_;rintro e w9 ⟨a6,c6,rfl,P,hb12⟩;have hb13:=BT G.o hb12;obtain⟨f9,c49⟩:=U.o w9 hb13;have f94:=f9 4));all_goals
   clear U f9;go_wp2_with fail;obtain⟨HK2,HT2⟩:=Y.o _ w9 a6 c6 (by simp[He,HV.o]) (Bf P G.o.size) hb13;clear Y P hb12;go_roundw
   .exact⟨i+1,z,by go_num,HK2,HT2,HCl.o ⟨by intro h;subst h;exact hl0 rfl,by rw[<-HV.o];exact HSm.o⟩⟩
   simp[Aa];omega
 have ei:i=xs.length:=by omega
 subst ei;rw[AU]at A D;have HD:Hid (L9 r g fc f O 14 key val list s xs w (.returned (.bool true)) t):=⟨true,rfl,λ_=>⟨ea.o,et.o,A.o,D.o⟩,HBw.o _ l.o⟩;clear A l D;go_wp2;go_ret;exact HD.o
end Go.Proofs.YtgajepeipddacaaGreat
