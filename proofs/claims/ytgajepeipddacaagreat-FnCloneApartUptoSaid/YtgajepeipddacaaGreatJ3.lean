/- Part 3 of the proof of FnCloneApart: what the law and the program compute, walked. -/
import Derived.Test.YtgajepeipddacaaGreatJ2
open Go.RowKit Go.Proofs.Tryz
open Array renaming getElem?_eq_some_iff->AE
open Bool renaming false_eq_true->Bv
open Go renaming Addr->Ai,Calls->AX,Ending->Bx,Value->AS,World->AB,cell_of_row->AZ,frozen_of_row->A7,heap_alloc_new->Ah,heap_setCell_same->Ao,madeCells->DG
open Go.Act renaming put->AQ
open Go.Lib renaming hid->AA
open Go.Proofs.Tryz renaming prog->AC
open Go.RowKit renaming Below->AL,intOf->Aa
open Go.RowKit.Below renaming heap_setCell->A8,refl->AW
open Go.Value renaming ownBlock->A6,slice->AO
open Go.World renaming block_lt_of_cell?->Bn,cell?_alloc_lt->Fv,cell?_alloc_mark->BI,cell?_of_block->Am,cell?_setCell_far->BN,frozen?_of_block->Bj,frozen?_setCell->EK,ownsRow_nil->Aw,setCell->Cb
open List renaming append_assoc->Bw,append_nil->Ey,eq_nil_of_length_eq_zero->Ag,filter_append->Ds,filter_cons->CW,flatMap_cons->A_,getD_eq_getElem?_getD->Ae,getElem?_eq_getElem->AK,getElem?_eq_none->F5,getElem_append_left->Cs,getElem_append_right->Gt,getElem_inj->C0,getElem_mem->AD,getElem_of_mem->An,getElem_take->F_,length->Dw,length_append->AN,length_cons->Ak,length_map->Aq,length_nil->Ar,length_pos_iff->Bg,length_reverse->EF,length_take->At,map_append->B3,map_congr_left->Ay,map_cons->Bz,map_map->DI,mem_append->AV,mem_append_left->GU,mem_cons_of_mem->Ab,mem_cons_self->Af,mem_filter->Cd,mem_map->BL,mem_map_of_mem->BK,mem_of_mem_take->Ci,mem_reverse->CA,mem_singleton->AP,mem_take_iff_getElem->C7,nil_append->BY,nodup_append->BA,nodup_cons->B4,reverse_reverse->CO,setIfInBounds_toArray->Cx,take_append_drop->Av,take_length->AU,take_of_length_le->BP,take_succ_eq_append_getElem->AF,take_zero->BM
open Nat renaming add_zero->Dj,eq_zero_or_pos->BJ,le_of_lt->Ca,le_refl->AG,le_trans->AH,lt_of_lt_of_le->AR,lt_or_ge->Be,zero_le->AY
open Option renaming getD_some->BE,map_none->BF,map_some->As
open Go.Proofs.YtgajepeipddacaaGreat
namespace Go.Proofs.YtgajepeipddacaaGreat
set_option linter.unusedVariables false
set_option maxRecDepth 100000
set_option maxHeartbeats 40000000
variable{B A c g i k n p r x:Nat}{F:Fo}{R:AB->Prop}{S:Nat->Prop}{a L:Option Ai}{Z C h D u O:Nat->Nat}{E:Array AS}{H f:Nat->Nd}{G J Y:List Nat}{U:Int}{P:Nat->Int}{s:bY}{V W:Nat->Dn}{v:AS}{w N M wr:AB}
def M4(F:Fo)(nd:Nat->Nd):Nat->Nat->Nat->Prop
 |0,y,x=>nd y=nd x/\F.kids y=[]/\F.kids x=[]
 |d+1,y,x=>nd y=nd x/\(F.kids y).length=(F.kids x).length/\∀j (t:j<(F.kids y).length) (e:j<(F.kids x).length),M4 F nd d (F.kids y)[j] (F.kids x)[j]
theorem Kz{F2:Fo}{nd nd2:Nat->Nd}{N:Nat}(o:F.Ok (λi=>i<N) h)(H:Nat)(e:∀z,z<N->h z<H->F2.kids z=F.kids z/\nd2 z=nd z):∀d y x,y<N->x<N->h y<H->h x<H->M4 F nd d y x->M4 F2 nd2 d y x:=by
 intro d;induction d with
 |zero=>
  intro y x n hx r s m;obtain⟨a,f⟩:=e y n r;obtain⟨t,c⟩:=e x hx s;exact⟨by rw[f,c];exact m.1,by rw[a];exact m.2.1,by rw[t];exact m.2.2⟩
 |succ d b=>
  intro y x n hx r s m;obtain⟨a,f⟩:=e y n r;obtain⟨t,c⟩:=e x hx s;obtain⟨p,g,w⟩:=m;refine⟨by rw[f,c];exact p,by rw[a,t];exact g,λj u l=> ?_⟩;simp only[a,t]at u l|-;have e1:=(o.mem y _).1 (AD u);have e2:=(o.mem x _).1 (AD l);have k:=o.ht _ _ e1;have v:=o.ht _ _ e2;exact b _ _ (o.dom _ _ e1).2 (o.dom _ _ e2).2 (by omega) (by omega) (w j u l)
theorem V1(d:Nat):∀(s:bY) (h:Nat->Nat) (x:Nat),s.F.Ok (λi=>i<s.N) h->x<s.N->h x<=d->(CZ d s x).op=false->M4 (CZ d s x).F (CZ d s x).nd d s.N x:=by
 induction d with
 |zero=>
  intro s h x o hx v r;have f:¬600<=s.N:=λf=>by
   have e:CZ 0 s x=(s.fresh x).shut:=by show(if 600<=s.N then _ else _)=_;rw[AJ f]
   rw[e]at r;cases r
  have e:CZ 0 s x=s.fresh x:=by show(if 600<=s.N then _ else _)=_;rw[AI f]
  have Z:s.F.kids x=[]:=List.eq_nil_iff_forall_not_mem.2 λc hc=>by
   have:=o.ht _ _ ((o.mem x c).1 hc);omega
  rw[e];refine⟨?_,(DM o (AG _)).2,Z⟩;show(if s.N=s.N then s.nd x else s.nd s.N)=(if x=s.N then s.nd x else s.nd x);rw[AJ rfl,AI (by omega)]
 |succ d X=>
  intro s h x o hx v r;have f:¬600<=s.N:=λf=>by
   have e:CZ (d+1) s x=(s.fresh x).shut:=by show(if 600<=s.N then _ else _)=_;rw[AJ f]
   rw[e]at r;cases r
  have e:=JB d s x f;rw[<-e]at r|-;have N:=RL o hx v r;have key:∀i,i<=(s.F.kids x).length->(DH d s x i).nd s.N=(DH d s x i).nd x/\∀j (M:j<((DH d s x i).F.kids s.N).length) (h2:j<(s.F.kids x).length),M4 (DH d s x i).F (DH d s x i).nd d ((DH d s x i).F.kids s.N)[j] (s.F.kids x)[j]:=by
   intro i;induction i with
   |zero=>
    intro _;have hf:(s.fresh x).F.kids s.N=[]:=(DM o (AG _)).2;rw[EI];refine⟨?_,λj M=>by simp only[hf]at M;simp at M⟩;show(if s.N=s.N then s.nd x else s.nd s.N)=(if x=s.N then s.nd x else s.nd x);rw[AJ rfl,AI (by omega)]
   |succ i Y=>
    intro hi;have m:i<(s.F.kids x).length:=hi;obtain⟨R,H⟩:=Y (Ca m);obtain⟨⟨F,t⟩,n,-⟩:=Fk o hx v i (Ca m);have Q:=(o.mem x _).1 (AD m);have D:=(o.dom _ _ Q).2;have K:=o.ht _ _ Q;have y:=t.lt;obtain⟨C,u⟩:=DK d (DH d s x i) F (s.F.kids x)[i] t.ok (by omega) (by rw[t.hold _ D];omega);have G:=(MR o hx v m (N ((s.F.kids x).length-(i+1)) (i+1) (by omega))).2;have g:=X (DH d s x i) F (s.F.kids x)[i] t.ok (by omega) (by rw[t.hold _ D];omega) G;have l:=Fy d s x m;obtain⟨a,hA⟩:∃a,a=DH d s x i:=⟨_,rfl⟩;obtain⟨b,hB⟩:∃b,b=CZ d (DH d s x i) (s.F.kids x)[i]:=⟨_,rfl⟩;rw[<-hB]at l g u;rw[<-hA]at l g u t R H n y;have V:=u.lt;obtain⟨e2,e3⟩:=Hi t D u K;rw[l];have S:(b.Yz s.N s.N a.N).nd=b.nd:=rfl;have B:C s.N=h x:=(u.hold _ y).trans t.hnew;have I:∀z,z<b.N->C z<h x->(b.Yz s.N s.N a.N).F.kids z=b.F.kids z/\(b.Yz s.N s.N a.N).nd z=b.nd z:=λz _ L=>by
     refine⟨?_,rfl⟩;show(if z=s.N then _ else b.F.kids z)=_;rw[AI λe=>by rw[e,B]at L;omega]
    refine⟨by rw[S,u.ndo _ y,u.ndo x (by omega)];exact R,λj U k=> ?_⟩;simp only[e3]at U|-;rw[AN,List.length_singleton,n]at U;have A:=(o.mem x _).1 (AD k);have T:=(o.dom _ _ A).2;have p:=o.ht _ _ A;have O:C (s.F.kids x)[j]=h (s.F.kids x)[j]:=(u.hold _ (by omega)).trans (t.hold _ T);by_cases ej:j<i
    .have W:j<(a.F.kids s.N).length:=by omega
     rw[Cs W];have J:=(t.ok.mem _ _).1 (AD W);have q:=(t.ok.dom _ _ J).2;have w:=t.ok.ht _ _ J;rw[t.hnew]at w;have P:=Kz (F2:=b.F) (nd2:=b.nd) t.ok (h x) (λz L _=>⟨u.kids z L,u.ndo z L⟩) d _ _ q (by omega) w (by rw[t.hold _ T];exact p) (H j W k);exact Kz u.ok (h x) I d _ _ (by omega) (by omega) (by rw[u.hold _ q];exact w) (by rw[O];exact p) P
    have e4:j=i:=(by omega);subst e4;rw[Gt (by omega)];simp only[n,Nat.sub_self,List.getElem_cons_zero];exact Kz u.ok (h x) I d _ _ V (by omega) (by rw[u.hnew,t.hold _ D];exact K) (by rw[O];exact p) g
  obtain⟨R,H⟩:=key (s.F.kids x).length (AG _);obtain⟨⟨F,t⟩,n,-⟩:=Fk o hx v (s.F.kids x).length (AG _);have E:=t.kids x hx;refine⟨R,by rw[n,E],λj U k=> ?_⟩;simp only[E]at k|-;exact H j U k
def Eb(nd:Nat->Nd)(c:Nat):Bool:=decide ((nd c).kind=3)
def H9(F:Fo)(nd:Nat->Nd)(y:Nat):List Nat:=(F.kids y).filter (Eb nd)
def II(F:Fo)(nd:Nat->Nd):Nat->Nat->Option Nat
 |0,y=>some y
 |d+1,y=>match H9 F nd y with
  |[]=>some y
  |[c]=>II F nd d c
  |_::_::_=>none
theorem Dz{d y:Nat}(h:H9 F H y=[]):II F H d y=some y:=by
 cases d with
 |zero=>rfl
 |succ d=>show(match H9 F H y with|[]=>some y|[c]=>II F H d c|_::_::_=>none)=_;rw[h]
theorem E6{d y:Nat}(h:H9 F H y=[c]):II F H (d+1) y=II F H d c:=by
 show(match H9 F H y with|[]=>some y|[c]=>II F H d c|_::_::_=>none)=_;rw[h]
theorem G0{d y a b:Nat}{l:List Nat}(h:H9 F H y=a::b::l):II F H (d+1) y=none:=by
 show(match H9 F H y with|[]=>some y|[c]=>II F H d c|_::_::_=>none)=_;rw[h]
theorem Ps{l:List Nat}{p:Nat->Bool}{m:List Nat}(h:(l.take i).filter p=m):∃r,l.filter p=m++r:=⟨(l.drop i).filter p,by rw[<-h,<-Ds,Av]⟩
theorem Jp(o:F.Ok S u)(C:Ct F S H P B O w)(x:Nat)(hx:S x)(l:∀p,(F.kids p).length<=100000):
 AX AC 65 #[.pointer (some ⟨O x,0,none⟩)] w λe w'=>e= .returned (Au O (II F H (u x) x))/\w'=w:=by
 have HK:=AA C;have m:=AA o;have HI:=AA C.inj;have J:=AA l;obtain⟨R,U⟩:∃R,R=II F H (u x) x:=⟨_,rfl⟩;rw[<-U];have HR:=AA U;clear C o l U;go_enter func65,ntmps65;go_wp2;go_loopw [0,3,4] (λv _ _ wr=>∃y d,v= .pointer (some ⟨O y,0,none⟩)/\S y/\u y<=d/\Hid (R=II F H d y)/\w=wr) (λv _ _ _=>NB S O u v)
 .exact⟨x,u x,rfl,hx,AG _,HR,rfl⟩
 obtain⟨y,d,rfl,hy,hd,g,rfl⟩:=hrel;obtain⟨-,-,-,ka,kc,c7,-,h⟩:=HK.o.cells hy;obtain⟨_,_,E,_,A⟩:=B6.own h;cases E
 have hkl:=J.o y;have G:=AA A;have K:Hid (NB S O u (.pointer (some ⟨O y,0,none⟩))=u y+1):=Jo HI.o u hy;clear h A;go_wp2;go_loopw [3,4] (λv3 v4 wr=>∃(i:Nat) (q:Option Nat),i<=(F.kids y).length/\v4= .int .i64 i/\v3=Au O q/\Hid (((F.kids y).take i).filter (Eb H)=q.toList)/\w=wr) (λ_ v _=>(F.kids y).length-(Aa v).toNat)
 .exact⟨0,none,by omega,rfl,rfl,rfl,rfl⟩
 obtain⟨i,q,hi,rfl,rfl,T,rfl⟩:=hrel;by_cases n:i<(F.kids y).length
 .obtain⟨b,off,rfl,-,hc⟩:=G.o.at_ (by rw[AM];omega);have g1:=hc i (by rw[AM];exact n);rw[A5 n]at g1;have D:=(m.o.mem y _).1 (AD n);have W:=(m.o.dom _ _ D).2;have g2:=HK.o.kind W;have t:Hid (((F.kids y).take (i+1)).filter (Eb H)=q.toList++(if Eb H (F.kids y)[i]then[(F.kids y)[i]]else[])):=by
   rw[Hid,AF n,Ds,T.o,CW,List.filter_nil]
  obtain⟨z,Z⟩:∃z,z=(F.kids y)[i]:=⟨_,rfl⟩;rw[<-Z]at g1 g2 t;clear hc Z D;by_cases a:(H z).kind=3
  .have ez:((H z).kind==3)=true:=by rw[a];rfl
   have s:Eb H z=true:=decide_eq_true a;rw[s]at t;simp only[if_true]at t;cases q with
   |none=>
    have HN:Hid (((F.kids y).take (i+1)).filter (Eb H)=(some z).toList):=t;simp only[Au,BF];clear a s T;go_wp2;go_roundw
    .exact⟨i+1,some z,n,by go_num,rfl,HN,by trivial⟩
    simp[Aa];omega
   |some q=>
    have j:Hid (R=none):=by
     obtain⟨r,hr⟩:=Ps t.o;have I:H9 F H y=q::z::r:=hr;have hyc:u z<u y:=by
      have L:z∈F.kids y:=(Cd.1 (show z∈H9 F H y by rw[I];simp)).1;exact m.o.ht _ _ ((m.o.mem y z).1 L)
     obtain⟨c,rfl⟩:∃c,d=c+1:=⟨d-1,by omega⟩;rw[Hid,g.o];exact G0 I
    simp only[Au,As];clear a s T t;go_wp2;go_ret;exact⟨by rw[j.o];rfl,rfl⟩
  have ez:((H z).kind==3)=false:=by simp[a]
  have s:Eb H z=false:=decide_eq_false a;rw[s]at t;simp only[Bv,if_false,Ey]at t;obtain⟨v,E⟩:∃v,v=Au O q:=⟨_,rfl⟩;have HV:=AA E;rw[<-E];obtain⟨X,M⟩:∃X,v= .pointer X:=⟨_,E⟩;subst M;clear a s T E;go_wp2;go_roundw
  .exact⟨i+1,q,n,by go_num,HV.o,t,by trivial⟩
  simp[Aa];omega
 have k:Hid (H9 F H y=q.toList):=by
  have:=T.o;rw[BP (by omega)]at this;exact this
 clear T;cases q with
 |none=>
  have Y:Hid (R=some y):=by rw[Hid,g.o];exact Dz k.o
  simp only[Au,BF];go_wp2;go_ret;exact⟨by rw[Y.o];rfl,rfl⟩
 |some q=>
  have L:q∈F.kids y:=(Cd.1 (show q∈H9 F H y by rw[k.o];simp)).1;have f:=(m.o.mem y q).1 L;have N:=(m.o.dom _ _ f).2;have hqh:=m.o.ht _ _ f;obtain⟨c,rfl⟩:∃c,d=c+1:=⟨d-1,by omega⟩;have V:Hid (R=II F H c q):=by rw[Hid,g.o];exact E6 k.o
  have Q:Hid (NB S O u (.pointer (some ⟨O q,0,none⟩))=u q+1):=Jo HI.o u N;simp only[Au,As];clear L f;go_wp2;go_roundw
  .exact⟨q,c,rfl,N,by omega,V,by trivial⟩
  have:=Q.o;have:=K.o;omega
def Bc(op:Int)(last:Bool)(s:bY)(x:Nat)(ws:List Nat):bY:=
 (Ap last s ws).row (CK op (Ap last s ws).F x) (DE op (Ap last s ws).F x (CK op (Ap last s ws).F x)) (CI last s ws)
theorem Rh(s:bY)(p k:Nat):s.row p k []=s:=by
 show{s with F:=s.F.Yr p k []}=s;rw[Mk]
theorem Hr(op:Int)(last:Bool)(s:bY)(x:Nat):Bc op last s x []=s:=by
 cases last<;>exact Rh s _ _
theorem Inv.mono{F0:Fo}{e:List Nat}(I:Inv n F0 D f U Y J s h)(a:∀w∈e,w∈J):Inv n F0 D f U Y e s h:=
 ⟨I.ok,I.le,λw t=>I.sub w (a w t),λw t=>I.up w (a w t),I.par,I.nds⟩
theorem Nz{w:Nat}(t:w≠x):∀K:List Nat,((K.filter λc=> !decide (c=w)).takeWhile λc=> !decide (c=x))=(K.takeWhile λc=> !decide (c=x)).filter λc=> !decide (c=w):=by
 intro K;induction K with
 |nil=>rfl
 |cons a K o=>
  by_cases e:a=w
  .subst e;rw[CW,List.takeWhile_cons];simp only[decide_true,Bool.not_true,Bv,if_false,decide_eq_false t,Bool.not_false,if_true,CW];exact o
  by_cases e2:a=x
  .subst e2;rw[CW,List.takeWhile_cons];simp[e]
  rw[CW,List.takeWhile_cons];simp only[decide_eq_false e,decide_eq_false e2,Bool.not_false,if_true,List.takeWhile_cons,CW,o]
theorem Rg{L:List Nat}{w:Nat}{l1 l2:List Nat}(a:F.kids p=l1++l2)(o:l1.length=k)(t:w∉L):(F.Yr p k L).cut w=(F.cut w).Yr p (l1.filter λc=> !decide (c=w)).length L:=by
 subst o;refine Fo.Yv (λi=> ?_) (λq=> ?_)
 .show(if i=w then none else if i∈L then some p else F.par i)=(if i∈L then some p else if i=w then none else F.par i);by_cases e:i=w
  .subst e;rw[AJ rfl,AI t,AJ rfl]
  rw[AI e,AI e]
 by_cases e:q=p
 .subst e;have n:(F.cut w).kids q=(l1.filter λc=> !decide (c=w))++(l2.filter λc=> !decide (c=w)):=by show(F.kids q).filter _=_;rw[a,Ds]
  rw[DU _ _ n];show((F.Yr q l1.length L).kids q).filter _=_;rw[DU _ _ a,Ds,Ds,CD t]
 show((F.Yr p l1.length L).kids q).filter _=((F.cut w).Yr p _ L).kids q;have e1:(F.Yr p l1.length L).kids q=F.kids q:=AI e;have e2:((F.cut w).Yr p (l1.filter λc=> !decide (c=w)).length L).kids q=(F.cut w).kids q:=AI e;rw[e1,e2];rfl
def DB(last:Bool)(s:bY)(w:Nat):bY:=if last then s.cut w else CZ 600 s w
theorem JO{F0:Fo}(B:U=1\/U=4)(I:Inv n F0 D f U Y J s h)(hn:J.Nodup)(hh:∀w∈J,w<n/\D w<=600)(G:∀x∈Y,x<n)(hx:x∈Y)(last:Bool){j:Nat}(hj:j<J.length):
 (∃hP,(Bc U last s x (J.take j)).F.Ok (λi=>i<(Bc U last s x (J.take j)).N) hP/\(last=false->hP J[j]<=600)/\J[j]<(Bc U last s x (J.take j)).N/\x<(Bc U last s x (J.take j)).N/\n<=(Bc U last s x (J.take j)).N/\∀y,y<(Bc U last s x (J.take j)).N->∃z,z<n/\(Bc U last s x (J.take j)).nd y=f z)/\
 ∃R p l1 l2,(DB last (Bc U last s x (J.take j)) J[j]).F.Ok (λi=>i<(DB last (Bc U last s x (J.take j)) J[j]).N) R/\x<(DB last (Bc U last s x (J.take j)) J[j]).N/\(if last then J[j]else(Bc U last s x (J.take j)).N)<(DB last (Bc U last s x (J.take j)) J[j]).N/\(DB last (Bc U last s x (J.take j)) J[j]).F.par (if last then J[j]else(Bc U last s x (J.take j)).N)=none/\p<(DB last (Bc U last s x (J.take j)) J[j]).N/\p≠(if last then J[j]else(Bc U last s x (J.take j)).N)/\
  (DB last (Bc U last s x (J.take j)) J[j]).F.kids p=l1++l2/\(U=1->p=x/\l2=[])/\(U=4->(DB last (Bc U last s x (J.take j)) J[j]).F.par x=some p/\l2.head? =some x)/\
  {DB last (Bc U last s x (J.take j)) J[j]with F:=(DB last (Bc U last s x (J.take j)) J[j]).F.put p l1.length (if last then J[j]else(Bc U last s x (J.take j)).N)}=Bc U last s x (J.take (j+1)):=by
 have M:U=1\/U=2\/U=4\/U=3:=by rcases B with h|h<;>simp[h]
 have v:¬U=3:=by rcases B with h|h<;>rw[h]<;>decide
 have hbes:Jn U->U=4:=λh=>h.resolve_left v;have d:∀m,∀w∈J.take m,w∈J:=λm w hw=>Ci hw;have ei:∀m,∀w∈J.take m,w<n/\D w<=600:=λm w hw=>hh w (d m w hw);have ea:∀m,(J.take m).Nodup:=λm=>hn.sublist (List.take_sublist m J);have S:=AD hj;obtain⟨hw1,hw2⟩:=hh _ S;have hxn:=G x hx;have eo:=I.le;have g:x<s.N:=by omega
 have P:J[j]<s.N:=by omega
 have ee:x≠J[j]:=λe=>I.up _ S x hx (by rw[e];exact .self);obtain⟨a,V⟩:∃a,a=Ap last s (J.take j):=⟨_,rfl⟩;obtain⟨L,hL⟩:∃L,L=CI last s (J.take j):=⟨_,rfl⟩;obtain⟨b,hB⟩:∃b,b=Ap last s (J.take (j+1)):=⟨_,rfl⟩;have l:b=if last then a.cut J[j]else CZ 600 a J[j]:=by rw[hB,V,AF hj,DW]
 have es:CI last s (J.take (j+1))=L++[if last then J[j]else a.N]:=by rw[V,hL,AF hj,En]
 obtain⟨ha,k1,k2,p1,p2,p3,p4,p5,p6,p7,p8⟩:=EM M (I.mono (d j)) (ea j) (ei j) G hx last;obtain⟨hb,l1,l2,q1,Q,K,q4,q5,q6,H,q8⟩:=EM M (I.mono (d (j+1))) (ea (j+1)) (ei (j+1)) G hx last;rw[<-V]at p1 p2 p3 p4 p5 p6 p7;rw[<-hL]at p7 p8;rw[<-hB]at q1 Q K q4 q5 q6 H;rw[es]at H q8;have t:Bc U last s x (J.take j)=a.row (CK U a.F x) (DE U a.F x (CK U a.F x)) L:=by rw[V,hL];rfl
 have N:Bc U last s x (J.take (j+1))=b.row (CK U b.F x) (DE U b.F x (CK U b.F x)) (L++[if last then J[j]else a.N]):=by rw[hB,<-es];rfl
 have hfa:n<=a.N/\a.F.par x=s.F.par x/\J[j]<a.N/\(last=false->¬a.F.Up J[j] (CK U a.F x))/\(∀y,y<a.N->∃z,z<n/\a.nd y=f z)/\∃o,a.F.Ok (λi=>i<a.N) o/\(last=false->o J[j]<=600):=by
  cases last
  .obtain⟨o,A⟩:=Lr I hh j;rw[<-V]at A;have et:Jn U->a.F.par x≠none:=λe=>by rw[A.par x g];exact I.par e x hx
   obtain⟨hpN,hpU⟩:=IM A.ok (AR g A.le) et;have en:=(Dt I.ok A.par g).2 hpU;have hps:=en.Y4 I.ok g;exact⟨AH eo A.le,A.par x g,AR P A.le,λ_ u=>I.up _ S x hx (((Dt I.ok A.par hps).2 u).tr en),A.nds,o,A.ok,λ_=>by rw[A.hold _ P,(I.sub _ S _ .self).2];exact hw2⟩
  have T:=GL I.ok (J.take j);rw[<-V]at T;have eh:x∉J.take j:=λR=>I.up x (d j x R) x hx .self;exact⟨by rw[T.N];exact eo,by rw[T.par,AI eh],by rw[T.N];exact P,(λe=>by cases e),(λy hy=>by rw[T.nd];exact I.nds y (by rw[<-T.N];exact hy)),h,T.ok,(λe=>by cases e)⟩
 obtain⟨f0,f1,f2,f3,f4,o,f5,f6⟩:=hfa;have et:Jn U->a.F.par x≠none:=λe=>by rw[f1];exact I.par e x hx
 obtain⟨p,hp⟩:∃p,p=CK U a.F x:=⟨_,rfl⟩;rw[<-hp]at p2 p3 p4 p6 p7 f3 t;have hfb:CK U b.F x=p/\(Bc U last s x (J.take j)).N=a.N/\DB last (Bc U last s x (J.take j)) J[j]=b.row p (DE U b.F x p) L:=by
  have hLa:∀r∈L,r<a.N:=λr hr=>(p7 r hr).1;cases last
  .simp only[Bv,if_false]at l;obtain⟨hb',E⟩:=DK 600 a o J[j] f5 f2 (f6 rfl);rw[<-l]at E;have e1:CK U b.F x=p:=by rw[hp];unfold CK;rw[E.par x p5]
   have e2:DE U b.F x p=DE U a.F x p:=by unfold DE;rw[E.kids p p6]
   refine⟨e1,by rw[t];rfl,?_⟩;rw[e2,l,t];exact RP 600 a o J[j] p _ L f5 f2 (f6 rfl) (f3 rfl) p6 hLa
  simp only[if_true]at l;have e0:b.F=a.F.cut J[j]:=by rw[l];rfl
  have e1:CK U b.F x=p:=by rw[hp];unfold CK;rw[e0];show(if Jn U then(if x=J[j]then none else a.F.par x).getD 0 else x)=_;rw[AI ee]
  have e2:U≠2->(b.F.kids p).takeWhile (λc=> !decide (c=x))=((a.F.kids p).takeWhile λc=> !decide (c=x)).filter λc=> !decide (c=J[j]):=λ_=>by rw[e0];exact Nz (Ne.symm ee) _
  have O:U≠2:=by rcases B with h|h<;>simp[h]
  refine⟨e1,by rw[t];rfl,?_⟩;have hwL:J[j]∉L:=λR=>by
   rw[hL]at R;obtain⟨q,hq,e⟩:=An (show J[j]∈J.take j from R);rw[F_]at e;have:=(C0 hn).1 e;simp only[At]at hq;omega
  have e3:DE U a.F x p=((a.F.kids p).takeWhile λc=> !decide (c=x)).length:=by unfold DE;rw[AI O,AI v,Dj]
  have e4:DE U b.F x p=(((a.F.kids p).takeWhile λc=> !decide (c=x)).filter λc=> !decide (c=J[j])).length:=by unfold DE;rw[AI O,AI v,Dj,e2 O]
  have e5:=Rg (F:=a.F) (p:=p) (k:=DE U a.F x p) (L:=L) (w:=J[j]) (I8 x (a.F.kids p)) e3.symm hwL;rw[t,e4,l];show{a.row p (DE U a.F x p) L with F:=(a.F.Yr p (DE U a.F x p) L).cut J[j]}=_;rw[e5];rfl
 obtain⟨g1,X,g3⟩:=hfb;rw[g1]at Q K q4 q6 H N;obtain⟨hP',okP,hhP⟩:=F8 p1 p2 p6 (L:=L) (λr hr=>⟨(p7 r hr).1,(p7 r hr).2.1,(p7 r hr).2.2.2⟩) p8;obtain⟨hP2,C,er⟩:=F8 f5 p2 p6 (L:=L) (λr hr=>⟨(p7 r hr).1,(p7 r hr).2.1,(p7 r hr).2.2.2⟩) p8;rw[p3]at C;have q8':L.Nodup:=(BA.1 q8).1;obtain⟨R,Z,-⟩:=F8 q1 Q q6 (L:=L) (λr hr=>⟨(H r (GU _ hr)).1,(H r (GU _ hr)).2.1,(H r (GU _ hr)).2.2.2⟩) q8';rw[K]at Z;obtain⟨r,hr⟩:∃r,r=if last then J[j]else a.N:=⟨_,rfl⟩;have hr':(if last then J[j]else(Bc U last s x (J.take j)).N)=r:=by rw[hr,X]
 rw[hr',g3,N,<-hr];rw[<-hr]at H q8;have W:=H r (by simp);have hrL:r∉L:=λhm2=>by
  have:=(BA.1 q8).2.2 r hm2 r (by simp);exact this rfl
 refine⟨⟨hP2,by rw[t];exact C,λe=>by rw[er _ (f3 e)];exact f6 e,by rw[X];exact f2,by rw[X];exact p5,by rw[X];exact f0,λy hy=>by rw[t];exact f4 y (by rw[<-X];exact hy)⟩,R,p,l1++L,l2,Z,q5,W.1,?_,q6,W.2.2.1,?_,?_,?_,?_⟩
 .show(if r∈L then some p else b.F.par r)=none;rw[AI hrL];exact W.2.1
 .show(b.F.Yr p (DE U b.F x p) L).kids p=_;rw[<-K,DU _ _ Q]
 .intro e;rcases q4 with h|h|h|h
  .exact⟨h.2.1,h.2.2⟩
  .omega
  .omega
  have:=h.1;omega
 .intro e;rcases q4 with h|h|h|h
  .omega
  .omega
  .refine⟨?_,h.2.2⟩;show(if x∈L then some p else b.F.par x)=some p;split
   .rfl
   exact h.2.1
  have:=h.1;omega
 show{b.row p (DE U b.F x p) L with F:=(b.F.Yr p (DE U b.F x p) L).put p (l1++L).length r}=_;rw[<-K,LX _ _ Q];rfl
structure PW(n B:Nat)(bl:Nat->Nat)(w:AB)(s:bY)(bl':Nat->Nat)(st':Nat->Dn)(wr:AB):Prop where
 prog:Br s.F (λi=>i<s.N) s.nd B bl' st' wr
 old:∀y,y<n->bl' y=bl y
 new:∀y,n<=y->y<s.N->w.heap.size<=bl' y
 turn:Al (λi=>i<n) bl w wr
 rw:Lm n s.N bl bl' w wr
theorem PW.clone{s2:bY}(H:PW n B Z w s C W wr)(u:n<=s.N){e:Bx}(P:Dx s s2 B C wr e M):∃t a,e= .returned (.pointer (some ⟨t s.N,0,none⟩))/\PW n B Z w s2 t a M:=by
 obtain⟨t,a,rfl,hold,r,hnew,h,o⟩:=P;refine⟨t,a,rfl,r,λy i=>(hold y (by omega)).trans (H.old y i),λy l d=> ?_,GR H.turn h H.old H.new,H.rw.trans o H.turn.size⟩;by_cases e:y<s.N
 .rw[hold y e];exact H.new y l e
 have:=hnew y (by omega) d;have:=H.turn.size;omega
theorem PW.put(H:PW n B Z w s C W wr){o:Fo}{e:Bx}(P:EH o (λi=>i<s.N) s.nd B C wr e M):e= .returned (.tuple #[])/\∃t,PW n B Z w {s with F:=o} C t M:=by
 obtain⟨rfl,⟨t,h⟩,a⟩:=P;exact⟨rfl,t,h,H.old,H.new,GR H.turn (Al.Y3 a) H.old H.new,H.rw.trans (Lm.Y3 a) H.turn.size⟩
theorem XG(o:F.Ok S u)(w:AB)(B:Nat)(bl:Nat->Nat)(i:Nat->Dn)(h:Br F S H B bl i w)(p c:Nat)(r:S p)(d:S c)(t:F.par c=none)(a:p≠c):
 AX AC 110 #[.pointer (some ⟨bl p,0,none⟩),.pointer (some ⟨bl c,0,none⟩)] w (EH (F.put p (F.kids p).length c) S H B bl w):=by
 have l:=AA (LL o w B bl i h p c r d t a);clear h o t;go_enter func110,ntmps110;go_wp2_with fail;refine l.o.mono ?_;rintro e y ⟨rfl,s,n⟩;have f:=AA s;have m:=AA n;clear s n;go_wp2_with fail
 go_end0;exact⟨rfl,f.o,m.o⟩
theorem XH(o:F.Ok S u)(w:AB)(B:Nat)(bl:Nat->Nat)(r:Nat->Dn)(h:Br F S H B bl r w)(x p c:Nat)(t:F.par x=some p)(g:S c)(a:F.par c=none)(s:p≠c)(l1 l2:List Nat)(y:F.kids p=l1++l2)(hx:l2.head? =some x):
 AX AC 114 #[.pointer (some ⟨bl x,0,none⟩),.pointer (some ⟨bl c,0,none⟩)] w (EH (F.put p l1.length c) S H B bl w):=by
 obtain⟨f,i⟩:=o.dom p x t;obtain⟨-,m,-⟩:=h.dom.cells i;rw[(h.fit x i).par,t]at m;simp only[Au,As]at m;have n:=G1 o w B bl r h p c f g a s l1 l2 y;rw[hx]at n;simp only[Au,As]at n;have b:=AA n;clear h o a n;go_enter func114,ntmps114;go_wp2_with fail;refine b.o.mono ?_;rintro e q ⟨rfl,l,d⟩;have k:=AA l;have v:=AA d;clear l d;go_wp2_with fail
 go_end0;exact⟨rfl,k.o,v.o⟩
theorem Gl(g:Nat)(a:Option Ai)(n c:Nat)(w:AB)(s:w.cell? ⟨g,0,none⟩=some (.slice a n c)):AX AC 135 #[.pointer (some ⟨g,0,none⟩)] w λe w'=>e= .returned (.int .i64 n)/\w'=w:=by
 have t:AX AC 144 #[.pointer (some ⟨g,0,none⟩)] w λe w'=>e= .returned (.int .i64 n)/\w'=w:=by
  go_enter func144,ntmps144;go_wp2;go_ret;exact⟨rfl,rfl⟩
 have o:=AA t;clear t;go_enter func135,ntmps135;go_wp2_with fail;refine o.o.mono ?_;rintro e i ⟨rfl,rfl⟩;go_wp2;go_ret;exact⟨rfl,rfl⟩
theorem MZ{F0:Fo}(I:Inv n F0 D f U Y J s h)(d:∀w∈J,w<n/\D w<=600)(last:Bool)(r:(Ap last s J).op=false):∀k j,j+k=J.length->(Ap last s (J.take j)).op=false:=by
 intro k;induction k with
 |zero=>intro j u;rw[BP (by omega)];exact r
 |succ k l=>
  intro j u;have o:j<J.length:=by omega
  have t:=l (j+1) (by omega);rw[AF o,DW]at t;cases last
  .simp only[Bv,if_false]at t;obtain⟨c,A⟩:=Lr I d j;have a:=AD o;obtain⟨m,i⟩:=d _ a;have y:=I.le;obtain⟨g,E⟩:=DK 600 (Ap false s (J.take j)) c J[j] A.ok (by have:=A.le;omega) (by rw[A.hold _ (by omega),(I.sub _ a _ .self).2];exact i);cases e:(Ap false s (J.take j)).op with
   |false=>rfl
   |true=>rw[E.op e]at t;cases t
  simp only[if_true]at t;exact t
theorem RW{F0:Fo}{s0:bY}(s:∀i,i<Y.length->∃h,Inv n F0 D f U Y J (Bl U s0 Y J i) h)(o:∀w∈J,w<n/\D w<=600)(e:(Bl U s0 Y J Y.length).op=false):∀k i,i+k=Y.length->(Bl U s0 Y J i).op=false:=by
 intro k;induction k with
 |zero=>intro i a;have:i=Y.length:=by omega
        rw[this];exact e
 |succ k t=>
  intro i a;obtain⟨h,I⟩:=s i (by omega);have d:=t (i+1) (by omega);have r:(Ap (decide (i+1=Y.length)) (Bl U s0 Y J i) J).op=false:=d;have:=MZ I o _ r J.length 0 (by omega);rw[BM]at this;exact this
def GJ(bl:Nat->Nat)(ns:List Nat)(B g:Nat)(t:Option Ai)(w:AB):Prop:=
 ∃a c e,DP w g a ns.length c t e/\B<=g/\w.ownsRow B 70 1 (.slice a ns.length c) ns.length (Ad bl ns)
theorem Fw.toW(h:Fw Z G B g L w):GJ Z G B g L w:=by
 obtain⟨a,c,e,i,o,t,-⟩:=h;exact⟨a,c,e,i,o,t⟩
def Oz(F:Fo)(S:Nat->Prop)(nd:Nat->Nd)(B:Nat)(bl:Nat->Nat)(g:Nat)(w:AB)(e:Bx)(w':AB):Prop:=
 e= .returned (.pointer (some ⟨g,0,none⟩))/\(∃t,Br F S nd B bl t w')/\Dy S bl w.heap.size w w'
theorem Ml(o:F.Ok S u)(t:List Nat)(z:∀m∈t,S m)(hml:t.length<=1000)(w:AB)(L:Br F S H B Z V w)
 (C g:Nat)(A:Option Ai)(I:GJ Z t C g A w):
 AX AC 89 #[.pointer (some ⟨g,0,none⟩)] w (Oz (CB F t) S H B Z g w):=by
 obtain⟨Y,c1,O,h,hCg,n⟩:=I;obtain⟨z0,-,-⟩:=h.cells;have P:=h.lt;have HO:=AA o;have HP:=AA L;have HSb:=AA h;have ea:=AA n;have ee:=AA z;have N:Hid (∀W,Dy S Z w.heap.size w W->W.ownsRow C 70 1 (.slice Y t.length c1) t.length (Ad Z t)):=λW k=>
  k.own n (λq hq=>(n.lt q hq).2) (L.Yw n (by decide))
 have et:Hid (∀W,Dy S Z w.heap.size w W->DP W g Y t.length c1 A O):=λW k=>by
  refine(k.block g P λi v e=> ?_).trans h;obtain⟨_,_,_,hh,_⟩:=L.dom.node i v;exact CC h hh (by decide) e
 have D:Hid (∀i (v:i<t.length) W,Dy S Z w.heap.size w W->∃b o,Y=some ⟨b,o,none⟩/\W.cell? ⟨b,o+i,none⟩=some (.pointer (some ⟨Z t[i],0,none⟩))):=λi v W k=>by
  obtain⟨_,_,hv,_,hr⟩:=B6.own (N.o W k);cases hv
  obtain⟨b,o,rfl,_,hc⟩:=hr.at_ (by rw[AM];omega);have U:=hc i (by rw[AM];exact v);rw[A5 v]at U;exact⟨b,o,rfl,U⟩
 clear o L h n z;go_enter func89,ntmps89;go_wp2;go_loopw [10] (λx wr=>∃i:Nat,i<=t.length/\x= .int .i64 i/\(∃V,Br (CB F (t.take i)) S H B Z V wr)/\Dy S Z w.heap.size w wr) (λx _=>t.length-(Aa x).toNat)
 .exact⟨0,by omega,rfl,⟨V,HP.o⟩,Dy.refl _ _ _ _⟩
 clear z0;obtain⟨i,v,rfl,⟨d,a⟩,j⟩:=hrel;obtain⟨wa,rfl⟩:∃wa:AB,wa=wr:=⟨_,rfl⟩;have c:=AA j;by_cases l:i<t.length
 .obtain⟨b,og,rfl,U⟩:=D.o i l _ j;have f:=ee.o t[i] (AD l);have s:Hid (CB F (t.take (i+1))=(CB F (t.take i)).cut t[i]):=by rw[Hid,AF l,Is]
  obtain⟨m,M⟩:∃m,m=t[i]:=⟨_,rfl⟩;rw[<-M]at U f s;have f0:=(a.dom.cells f).2.1;rw[(a.fit m f).par]at f0;have r:=Hh HO.o (t.take i);have X:=AA a;cases y:(CB F (t.take i)).par m with
  |none=>
   rw[y]at f0;simp only[Au,BF]at f0;have HE:Hid (CB F (t.take (i+1))=CB F (t.take i)):=by rw[Hid,s.o,Fo.Y0 r y]
   clear M j a r y;go_wp2;go_roundw
   .exact⟨i+1,by omega,by go_num,⟨d,by rw[HE.o];exact X.o⟩,c.o⟩
   simp[Aa];omega
  |some p=>
   rw[y]at f0;simp only[Au,As]at f0;have R:=AA (Ee r wa B Z d a p m y);clear M j a r y;go_wp2_with fail;refine R.o.mono ?_;rintro e w3 ⟨rfl,⟨G,E⟩,T⟩;have J:=AA E;have K:Hid (Dy S Z w.heap.size w w3):=c.o.trans (Dy.Y3 T);clear E T f0;go_wp2;go_roundw
   .exact⟨i+1,by omega,by go_num,⟨G,by rw[s.o];exact J.o⟩,K.o⟩
   simp[Aa];omega
 have e:i=t.length:=by omega
 subst e;rw[AU]at a;have Q:=AA a;clear a j;go_wp2;go_ret;exact⟨rfl,⟨d,Q.o⟩,c.o⟩
def N6(n B:Nat)(bl:Nat->Nat)(g:Nat)(s:bY)(w:AB)(e:Bx)(w':AB):Prop:=
 e= .returned (.pointer (some ⟨g,0,none⟩))/\∃a t,PW n B bl w s a t w'
theorem Wq{F0:Fo}{h0:Nat->Nat}{nd0:Nat->Nd}{xs ws:List Nat}(hh:∀x∈ws,h0 x<=600)(hal:∀i,i<n->(CU (nd0 i)).length<=2000)(hn:n<=600)(hxs:∀x∈xs,x<n)(K:∀x∈ws,x<n)(hxn:xs.Nodup)(hwn:ws.Nodup)(hx0:xs≠[])
 (hI:∀i,i<xs.length->∃h,Inv n F0 h0 nd0 1 xs ws (Bl 1 ⟨F0,n,nd0,false⟩ xs ws i) h)(hop:(Bl 1 ⟨F0,n,nd0,false⟩ xs ws xs.length).op=false)(hP:Br F0 (λi=>i<n) nd0 B Z V w)(hBw:B<=w.heap.size)
 (C g:Nat)(doc:Option Ai)(hsel:GJ Z xs C g doc w){C2:Nat}(a:Option Ai)(c:Nat)(ho2:w.ownsRow C2 70 1 (.slice a ws.length c) ws.length (Ad Z ws)):
 AX AC 109 #[.pointer (some ⟨g,0,none⟩),.slice a ws.length c,.bool false,.func (.func 110) #[] #[]] w (N6 n B Z g (Bl 1 ⟨F0,n,nd0,false⟩ xs ws xs.length) w):=by
 obtain⟨a1,c1,prev,hsb,hCg,hown⟩:=hsel;obtain⟨z0,-,-⟩:=hsb.cells;have hgl:=hsb.lt;have hxl:xs.length<=600:=by have:=BH hxn hxs;omega
 have hwl:ws.length<=600:=by have:=BH hwn K;omega
 have hxp:0<xs.length:=Bg.2 hx0;have et:∀{C3:Nat} {b3:Option Ai} {k c3:Nat} {l:List Nat},w.ownsRow C3 70 1 (.slice b3 k c3) k (Ad Z l)->∀s M D wr,PW n B Z w s M D wr->B6 wr wr.heap.size b3 (Ad Z l):=λho s M D wr H=>by
  obtain⟨_,_,hv,_,hrs⟩:=B6.own (Al.own H.turn ho (λi hi=>by obtain⟨_,_,_,hhn,_⟩:=hP.dom.node i hi;exact Ax ho hhn (by decide)));cases hv
  exact hrs
 have HRow1:=AA (et hown);have HRow2:=AA (et ho2);have HSz:=AA (Gl g a1 xs.length c1 w z0);have HPW0:Hid (PW n B Z w ⟨F0,n,nd0,false⟩ Z V w):=⟨hP,λ_ _=>rfl,λy h1 h2=>absurd (show y<n from h2) (by omega),Al.refl _ _ _,Lm.refl _ _ _⟩;have HI:=AA hI;have HX:=AA hxs;have HW:=AA K;have HWn:=AA hwn;have HAl:=AA hal;have HHt:Hid (∀x∈ws,x<n/\h0 x<=600):=λx hx=>⟨K x hx,hh x hx⟩;have HOp:=AA (RW hI (λx hx=>⟨K x hx,hh x hx⟩) hop);clear hsb hown ho2 hP hI hxs K et hal hh hx0 hop;go_enter func109,ntmps109;go_wp2_with fail;refine HSz.o.mono ?_;rintro e w1 ⟨rfl,rfl⟩;go_wp2;go_loopw [49] (λv wr=>∃(i:Nat) (M:Nat->Nat) (D:Nat->Dn),i<=xs.length/\v= .int .i64 i/\PW n B Z w1 (Bl 1 ⟨F0,n,nd0,false⟩ xs ws i) M D wr) (λv _=>xs.length-(Aa v).toNat)
 .exact⟨0,Z,V,AY _,rfl,HPW0.o⟩
 clear z0;obtain⟨i,bl2,st2,hi,rfl,hH⟩:=hrel;obtain⟨W2,rfl⟩:∃W2:AB,W2=wr:=⟨_,rfl⟩;by_cases U:i<xs.length
 .obtain⟨h2,J⟩:=HI.o i U;have X:Hid (Bl 1 ⟨F0,n,nd0,false⟩ xs ws (i+1)=Bm 1 (decide (i+1=xs.length)) (Bl 1 ⟨F0,n,nd0,false⟩ xs ws i) xs[i] ws):=by
   show Bm 1 (decide (i+1=xs.length)) _ (xs.getD i 0) ws=_;rw[Ae,AK U,BE]
  have HOp2:Hid ((Bl 1 ⟨F0,n,nd0,false⟩ xs ws (i+1)).op=false):=HOp.o (xs.length-(i+1)) (i+1) (by omega);obtain⟨b,o,rfl,hbB,hc⟩:=(HRow1.o _ _ _ _ hH).at_ (by rw[AM];omega);have g1:=hc i (by rw[AM];exact U);rw[A5 U]at g1;obtain⟨s,hs⟩:∃s,s=Bl 1 ⟨F0,n,nd0,false⟩ xs ws i:=⟨_,rfl⟩;rw[<-hs]at J hH X;obtain⟨last,S⟩:∃last,last=decide (i+1=xs.length):=⟨_,rfl⟩;rw[<-S]at X;have E:=AA S;have hxm:=AD U;have W:Hid (∀j (hj:j<ws.length),_):=λj hj=>JO (.inl rfl) J HWn.o HHt.o HX.o hxm last hj;have N:Hid (∀j,j<=ws.length->(Ap last s (ws.take j)).op=false):=λj hj=>MZ J HHt.o last (by have:=HOp2.o;rw[X.o]at this;exact this) (ws.length-j) j (by omega);have hxn2:xs[i]<n:=HX.o _ hxm;have HLe:Hid (n<=s.N):=J.le;obtain⟨x,hx⟩:∃x,x=xs[i]:=⟨_,rfl⟩;rw[<-hx]at g1 X W hxn2;have HH:=AA hH;clear hc hs J S hH hxm hx;go_wp2;go_loopw [56] (λv wr=>∃(j:Nat) (M:Nat->Nat) (D:Nat->Dn),j<=ws.length/\v= .int .i64 j/\PW n B Z w1 (Bc 1 last s x (ws.take j)) M D wr) (λv _=>ws.length-(Aa v).toNat)
  .exact⟨0,bl2,st2,AY _,rfl,by rw[BM,Hr];exact HH.o⟩
  clear g1;obtain⟨j,r,P,hj,rfl,t⟩:=hrel;obtain⟨W3,rfl⟩:∃W3:AB,W3=wr:=⟨_,rfl⟩;by_cases A:j<ws.length
  .obtain⟨b2,o2,rfl,hbB2,hc2⟩:=(HRow2.o _ _ _ _ t).at_ (by rw[AM];omega);have g2:=hc2 j (by rw[AM];exact A);have hwm:=HW.o _ (AD A);rw[A5 A,<-t.old _ hwm]at g2;obtain⟨⟨hP',okP,hP2,wP,xP,nP,ndP⟩,hm,p,l1,l2,okM,m1,m2,m3,m4,m5,m6,m7,m8,m9⟩:=W.o j A;have hpo:(Bc 1 last s x (ws.take (j+1))).op=false:=N.o (j+1) A;have T:Hid (∀f d u,PW n B Z w1 (DB last (Bc 1 last s x (ws.take j)) ws[j]) f d u->AX AC 110 #[.pointer (some ⟨Z x,0,none⟩),.pointer (some ⟨f (if last then ws[j]else(Bc 1 last s x (ws.take j)).N),0,none⟩)] u (λe w5=>e= .returned (.tuple #[])/\∃m,PW n B Z w1 (Bc 1 last s x (ws.take (j+1))) f m w5)):=by
    intro f d u H4;rw[<-H4.old x hxn2];refine(XG okM u B f d H4.prog x _ m1 m2 m3 (by rw[<-(m7 (by trivial)).1];exact m5)).mono ?_;intro e w5 hp5;obtain⟨e1,m,H5⟩:=H4.put hp5;refine⟨e1,m,?_⟩;obtain⟨ex,el⟩:=m7 (by trivial);subst ex el;rw[<-m9];rw[m6,Ey]at H5;exact H5
   have R:(DB last (Bc 1 last s x (ws.take j)) ws[j]).op=false:=by
    have:=congrArg bY.op m9;exact(show(DB last (Bc 1 last s x (ws.take j)) ws[j]).op=_ from this).trans hpo
   cases last
   .have HCl:=AA (GQ 600 okP t.prog (AH hBw t.turn.size) wP (hP2 rfl) R (λy G=>by obtain⟨z,hz,e⟩:=ndP y G;rw[e];exact HAl.o z hz));have HPc:Hid (∀e u,Dx (Bc 1 false s x (ws.take j)) (CZ 600 (Bc 1 false s x (ws.take j)) ws[j]) B r W3 e u->∃f d,e= .returned (.pointer (some ⟨f (Bc 1 false s x (ws.take j)).N,0,none⟩))/\PW n B Z w1 (DB false (Bc 1 false s x (ws.take j)) ws[j]) f d u):=λe u hp=>t.clone nP hp;have hne:((i:Int) !=(xs.length:Int)-1)=true:=by
     have:=E.o;have:¬(i+1=xs.length):=of_decide_eq_false this.symm;simp;omega
    simp only[Bv,if_false]at T;obtain⟨y,G⟩:∃y,y=r ws[j]:=⟨_,rfl⟩;rw[<-G]at g2 HCl;clear hc2 t hwm G okP hP2 wP xP nP ndP okM m1 m2 m3 m4 m5 m6 m7 m8 m9 hpo R hm E W N;go_wp2_with fail;refine HCl.o.mono ?_;intro e u Q;obtain⟨f,d,rfl,I⟩:=HPc.o e u Q;have Y:=AA (T.o f d u I);clear Q I g2;go_wp2_with fail;refine Y.o.mono ?_;rintro e w5 ⟨rfl,m,O⟩;have ee:=AA O;clear O;go_wp2;go_roundw
    .exact⟨j+1,f,m,A,by go_num,ee.o⟩
    simp[Aa];omega
   have hne:((i:Int) !=(xs.length:Int)-1)=false:=by
    have:=E.o;have:i+1=xs.length:=of_decide_eq_true this.symm;simp;omega
   simp only[if_true]at T;obtain⟨-,c0,-⟩:=t.prog.dom.cells wP;rw[(t.prog.fit _ wP).par]at c0;cases L:(Bc 1 true s x (ws.take j)).F.par ws[j]with
   |none=>
    rw[L]at c0;simp only[Au,BF]at c0;have I:PW n B Z w1 (DB true (Bc 1 true s x (ws.take j)) ws[j]) r P W3:=by
     have e:DB true (Bc 1 true s x (ws.take j)) ws[j]=Bc 1 true s x (ws.take j):=by
      show{Bc 1 true s x (ws.take j)with F:=(Bc 1 true s x (ws.take j)).F.cut ws[j]}=_;rw[Fo.Y0 okP L]
     rw[e];exact t
    have Y:=AA (T.o r P W3 I);obtain⟨y,G⟩:∃y,y=r ws[j]:=⟨_,rfl⟩;rw[<-G]at g2 Y c0;clear hc2 t hwm G okP hP2 wP xP nP ndP okM m1 m2 m3 m4 m5 m6 m7 m8 m9 hpo R hm E W N I L;go_wp2_with fail;refine Y.o.mono ?_;rintro e w5 ⟨rfl,m,O⟩;have ee:=AA O;clear O;go_wp2;go_roundw
    .exact⟨j+1,r,m,A,by go_num,ee.o⟩
    simp[Aa];omega
   |some q=>
    rw[L]at c0;simp only[Au,As]at c0;have HRem:=AA (Ee okP W3 B r P t.prog q ws[j] L);have HPut:Hid (∀e u,EH ((Bc 1 true s x (ws.take j)).F.cut ws[j]) (λi=>i<(Bc 1 true s x (ws.take j)).N) (Bc 1 true s x (ws.take j)).nd B r W3 e u->e= .returned (.tuple #[])/\∃d,PW n B Z w1 (DB true (Bc 1 true s x (ws.take j)) ws[j]) r d u):=λe u hp=>t.put hp;obtain⟨y,G⟩:∃y,y=r ws[j]:=⟨_,rfl⟩;have HClo2:Hid (∀d u,PW n B Z w1 (DB true (Bc 1 true s x (ws.take j)) ws[j]) r d u->AX AC 110 #[.pointer (some ⟨Z x,0,none⟩),.pointer (some ⟨y,0,none⟩)] u (λe w5=>e= .returned (.tuple #[])/\∃m,PW n B Z w1 (Bc 1 true s x (ws.take (j+1))) r m w5)):=λd u H4=>by rw[G];exact T.o r d u H4
    rw[<-G]at g2 HRem c0;clear hc2 t hwm G okP hP2 wP xP nP ndP okM m1 m2 m3 m4 m5 m6 m7 m8 m9 hpo R hm E W N L T;go_wp2_with fail;refine HRem.o.mono ?_;intro e u Q;obtain⟨rfl,d,I⟩:=HPut.o e u Q;have Y:=AA (HClo2.o d u I);clear Q I g2 c0;go_wp2_with fail;refine Y.o.mono ?_;rintro e w5 ⟨rfl,m,O⟩;have ee:=AA O;clear O;go_wp2;go_roundw
    .exact⟨j+1,r,m,A,by go_num,ee.o⟩
    simp[Aa];omega
  have ej:j=ws.length:=by omega
  rw[ej,AU]at t;have HH4:Hid (PW n B Z w1 (Bl 1 ⟨F0,n,nd0,false⟩ xs ws (i+1)) r P W3):=by rw[Hid,X.o];exact t
  clear t ej W N;go_wp2;go_roundw
  .exact⟨i+1,r,P,U,by go_num,HH4.o⟩
  simp[Aa];omega
 have e:i=xs.length:=by omega
 rw[e]at hH;have HH:=AA hH;clear hH;go_wp2;go_ret;exact⟨rfl,bl2,st2,HH.o⟩
theorem X9{F0:Fo}{h0:Nat->Nat}{nd0:Nat->Nd}{xs ws:List Nat}(hh:∀x∈ws,h0 x<=600)(hal:∀i,i<n->(CU (nd0 i)).length<=2000)(hn:n<=600)(hxs:∀x∈xs,x<n)(K:∀x∈ws,x<n)(hxn:xs.Nodup)(hwn:ws.Nodup)(hx0:xs≠[])
 (hI:∀i,i<xs.length->∃h,Inv n F0 h0 nd0 4 xs ws (Bl 4 ⟨F0,n,nd0,false⟩ xs ws i) h)(hop:(Bl 4 ⟨F0,n,nd0,false⟩ xs ws xs.length).op=false)(hP:Br F0 (λi=>i<n) nd0 B Z V w)(hBw:B<=w.heap.size)
 (C g:Nat)(doc:Option Ai)(hsel:GJ Z xs C g doc w){C2:Nat}(a:Option Ai)(c:Nat)(ho2:w.ownsRow C2 70 1 (.slice a ws.length c) ws.length (Ad Z ws)):
 AX AC 109 #[.pointer (some ⟨g,0,none⟩),.slice a ws.length c,.bool false,.func (.func 114) #[] #[]] w (N6 n B Z g (Bl 4 ⟨F0,n,nd0,false⟩ xs ws xs.length) w):=by
 obtain⟨a1,c1,prev,hsb,hCg,hown⟩:=hsel;obtain⟨z0,-,-⟩:=hsb.cells;have hgl:=hsb.lt;have hxl:xs.length<=600:=by have:=BH hxn hxs;omega
 have hwl:ws.length<=600:=by have:=BH hwn K;omega
 have hxp:0<xs.length:=Bg.2 hx0;have et:∀{C3:Nat} {b3:Option Ai} {k c3:Nat} {l:List Nat},w.ownsRow C3 70 1 (.slice b3 k c3) k (Ad Z l)->∀s M D wr,PW n B Z w s M D wr->B6 wr wr.heap.size b3 (Ad Z l):=λho s M D wr H=>by
  obtain⟨_,_,hv,_,hrs⟩:=B6.own (Al.own H.turn ho (λi hi=>by obtain⟨_,_,_,hhn,_⟩:=hP.dom.node i hi;exact Ax ho hhn (by decide)));cases hv
  exact hrs
 have HRow1:=AA (et hown);have HRow2:=AA (et ho2);have HSz:=AA (Gl g a1 xs.length c1 w z0);have HPW0:Hid (PW n B Z w ⟨F0,n,nd0,false⟩ Z V w):=⟨hP,λ_ _=>rfl,λy h1 h2=>absurd (show y<n from h2) (by omega),Al.refl _ _ _,Lm.refl _ _ _⟩;have HI:=AA hI;have HX:=AA hxs;have HW:=AA K;have HWn:=AA hwn;have HAl:=AA hal;have HHt:Hid (∀x∈ws,x<n/\h0 x<=600):=λx hx=>⟨K x hx,hh x hx⟩;have HOp:=AA (RW hI (λx hx=>⟨K x hx,hh x hx⟩) hop);clear hsb hown ho2 hP hI hxs K et hal hh hx0 hop;go_enter func109,ntmps109;go_wp2_with fail;refine HSz.o.mono ?_;rintro e w1 ⟨rfl,rfl⟩;go_wp2;go_loopw [49] (λv wr=>∃(i:Nat) (M:Nat->Nat) (D:Nat->Dn),i<=xs.length/\v= .int .i64 i/\PW n B Z w1 (Bl 4 ⟨F0,n,nd0,false⟩ xs ws i) M D wr) (λv _=>xs.length-(Aa v).toNat)
 .exact⟨0,Z,V,AY _,rfl,HPW0.o⟩
 clear z0;obtain⟨i,bl2,st2,hi,rfl,hH⟩:=hrel;obtain⟨W2,rfl⟩:∃W2:AB,W2=wr:=⟨_,rfl⟩;by_cases U:i<xs.length
 .obtain⟨h2,J⟩:=HI.o i U;have X:Hid (Bl 4 ⟨F0,n,nd0,false⟩ xs ws (i+1)=Bm 4 (decide (i+1=xs.length)) (Bl 4 ⟨F0,n,nd0,false⟩ xs ws i) xs[i] ws):=by
   show Bm 4 (decide (i+1=xs.length)) _ (xs.getD i 0) ws=_;rw[Ae,AK U,BE]
  have HOp2:Hid ((Bl 4 ⟨F0,n,nd0,false⟩ xs ws (i+1)).op=false):=HOp.o (xs.length-(i+1)) (i+1) (by omega);obtain⟨b,o,rfl,hbB,hc⟩:=(HRow1.o _ _ _ _ hH).at_ (by rw[AM];omega);have g1:=hc i (by rw[AM];exact U);rw[A5 U]at g1;obtain⟨s,hs⟩:∃s,s=Bl 4 ⟨F0,n,nd0,false⟩ xs ws i:=⟨_,rfl⟩;rw[<-hs]at J hH X;obtain⟨last,S⟩:∃last,last=decide (i+1=xs.length):=⟨_,rfl⟩;rw[<-S]at X;have E:=AA S;have hxm:=AD U;have W:Hid (∀j (hj:j<ws.length),_):=λj hj=>JO (.inr rfl) J HWn.o HHt.o HX.o hxm last hj;have N:Hid (∀j,j<=ws.length->(Ap last s (ws.take j)).op=false):=λj hj=>MZ J HHt.o last (by have:=HOp2.o;rw[X.o]at this;exact this) (ws.length-j) j (by omega);have hxn2:xs[i]<n:=HX.o _ hxm;have HLe:Hid (n<=s.N):=J.le;obtain⟨x,hx⟩:∃x,x=xs[i]:=⟨_,rfl⟩;rw[<-hx]at g1 X W hxn2;have HH:=AA hH;clear hc hs J S hH hxm hx;go_wp2;go_loopw [56] (λv wr=>∃(j:Nat) (M:Nat->Nat) (D:Nat->Dn),j<=ws.length/\v= .int .i64 j/\PW n B Z w1 (Bc 4 last s x (ws.take j)) M D wr) (λv _=>ws.length-(Aa v).toNat)
  .exact⟨0,bl2,st2,AY _,rfl,by rw[BM,Hr];exact HH.o⟩
  clear g1;obtain⟨j,r,P,hj,rfl,t⟩:=hrel;obtain⟨W3,rfl⟩:∃W3:AB,W3=wr:=⟨_,rfl⟩;by_cases A:j<ws.length
  .obtain⟨b2,o2,rfl,hbB2,hc2⟩:=(HRow2.o _ _ _ _ t).at_ (by rw[AM];omega);have g2:=hc2 j (by rw[AM];exact A);have hwm:=HW.o _ (AD A);rw[A5 A,<-t.old _ hwm]at g2;obtain⟨⟨hP',okP,hP2,wP,xP,nP,ndP⟩,hm,p,l1,l2,okM,m1,m2,m3,m4,m5,m6,m7,m8,m9⟩:=W.o j A;have hpo:(Bc 4 last s x (ws.take (j+1))).op=false:=N.o (j+1) A;have T:Hid (∀f d u,PW n B Z w1 (DB last (Bc 4 last s x (ws.take j)) ws[j]) f d u->AX AC 114 #[.pointer (some ⟨Z x,0,none⟩),.pointer (some ⟨f (if last then ws[j]else(Bc 4 last s x (ws.take j)).N),0,none⟩)] u (λe w5=>e= .returned (.tuple #[])/\∃m,PW n B Z w1 (Bc 4 last s x (ws.take (j+1))) f m w5)):=by
    intro f d u H4;rw[<-H4.old x hxn2];refine(XH okM u B f d H4.prog x p _ (m8 (by trivial)).1 m2 m3 m5 l1 l2 m6 (m8 (by trivial)).2).mono ?_;intro e w5 hp5;obtain⟨e1,m,H5⟩:=H4.put hp5;refine⟨e1,m,?_⟩;rw[<-m9];exact H5
   have R:(DB last (Bc 4 last s x (ws.take j)) ws[j]).op=false:=by
    have:=congrArg bY.op m9;exact(show(DB last (Bc 4 last s x (ws.take j)) ws[j]).op=_ from this).trans hpo
   cases last
   .have HCl:=AA (GQ 600 okP t.prog (AH hBw t.turn.size) wP (hP2 rfl) R (λy G=>by obtain⟨z,hz,e⟩:=ndP y G;rw[e];exact HAl.o z hz));have HPc:Hid (∀e u,Dx (Bc 4 false s x (ws.take j)) (CZ 600 (Bc 4 false s x (ws.take j)) ws[j]) B r W3 e u->∃f d,e= .returned (.pointer (some ⟨f (Bc 4 false s x (ws.take j)).N,0,none⟩))/\PW n B Z w1 (DB false (Bc 4 false s x (ws.take j)) ws[j]) f d u):=λe u hp=>t.clone nP hp;have hne:((i:Int) !=(xs.length:Int)-1)=true:=by
     have:=E.o;have:¬(i+1=xs.length):=of_decide_eq_false this.symm;simp;omega
    simp only[Bv,if_false]at T;obtain⟨y,G⟩:∃y,y=r ws[j]:=⟨_,rfl⟩;rw[<-G]at g2 HCl;clear hc2 t hwm G okP hP2 wP xP nP ndP okM m1 m2 m3 m4 m5 m6 m7 m8 m9 hpo R hm E W N;go_wp2_with fail;refine HCl.o.mono ?_;intro e u Q;obtain⟨f,d,rfl,I⟩:=HPc.o e u Q;have Y:=AA (T.o f d u I);clear Q I g2;go_wp2_with fail;refine Y.o.mono ?_;rintro e w5 ⟨rfl,m,O⟩;have ee:=AA O;clear O;go_wp2;go_roundw
    .exact⟨j+1,f,m,A,by go_num,ee.o⟩
    simp[Aa];omega
   have hne:((i:Int) !=(xs.length:Int)-1)=false:=by
    have:=E.o;have:i+1=xs.length:=of_decide_eq_true this.symm;simp;omega
   simp only[if_true]at T;obtain⟨-,c0,-⟩:=t.prog.dom.cells wP;rw[(t.prog.fit _ wP).par]at c0;cases L:(Bc 4 true s x (ws.take j)).F.par ws[j]with
   |none=>
    rw[L]at c0;simp only[Au,BF]at c0;have I:PW n B Z w1 (DB true (Bc 4 true s x (ws.take j)) ws[j]) r P W3:=by
     have e:DB true (Bc 4 true s x (ws.take j)) ws[j]=Bc 4 true s x (ws.take j):=by
      show{Bc 4 true s x (ws.take j)with F:=(Bc 4 true s x (ws.take j)).F.cut ws[j]}=_;rw[Fo.Y0 okP L]
     rw[e];exact t
    have Y:=AA (T.o r P W3 I);obtain⟨y,G⟩:∃y,y=r ws[j]:=⟨_,rfl⟩;rw[<-G]at g2 Y c0;clear hc2 t hwm G okP hP2 wP xP nP ndP okM m1 m2 m3 m4 m5 m6 m7 m8 m9 hpo R hm E W N I L;go_wp2_with fail;refine Y.o.mono ?_;rintro e w5 ⟨rfl,m,O⟩;have ee:=AA O;clear O;go_wp2;go_roundw
    .exact⟨j+1,r,m,A,by go_num,ee.o⟩
    simp[Aa];omega
   |some q=>
    rw[L]at c0;simp only[Au,As]at c0;have HRem:=AA (Ee okP W3 B r P t.prog q ws[j] L);have HPut:Hid (∀e u,EH ((Bc 4 true s x (ws.take j)).F.cut ws[j]) (λi=>i<(Bc 4 true s x (ws.take j)).N) (Bc 4 true s x (ws.take j)).nd B r W3 e u->e= .returned (.tuple #[])/\∃d,PW n B Z w1 (DB true (Bc 4 true s x (ws.take j)) ws[j]) r d u):=λe u hp=>t.put hp;obtain⟨y,G⟩:∃y,y=r ws[j]:=⟨_,rfl⟩;have HClo2:Hid (∀d u,PW n B Z w1 (DB true (Bc 4 true s x (ws.take j)) ws[j]) r d u->AX AC 114 #[.pointer (some ⟨Z x,0,none⟩),.pointer (some ⟨y,0,none⟩)] u (λe w5=>e= .returned (.tuple #[])/\∃m,PW n B Z w1 (Bc 4 true s x (ws.take (j+1))) r m w5)):=λd u H4=>by rw[G];exact T.o r d u H4
    rw[<-G]at g2 HRem c0;clear hc2 t hwm G okP hP2 wP xP nP ndP okM m1 m2 m3 m4 m5 m6 m7 m8 m9 hpo R hm E W N L T;go_wp2_with fail;refine HRem.o.mono ?_;intro e u Q;obtain⟨rfl,d,I⟩:=HPut.o e u Q;have Y:=AA (HClo2.o d u I);clear Q I g2 c0;go_wp2_with fail;refine Y.o.mono ?_;rintro e w5 ⟨rfl,m,O⟩;have ee:=AA O;clear O;go_wp2;go_roundw
    .exact⟨j+1,r,m,A,by go_num,ee.o⟩
    simp[Aa];omega
  have ej:j=ws.length:=by omega
  rw[ej,AU]at t;have HH4:Hid (PW n B Z w1 (Bl 4 ⟨F0,n,nd0,false⟩ xs ws (i+1)) r P W3):=by rw[Hid,X.o];exact t
  clear t ej W N;go_wp2;go_roundw
  .exact⟨i+1,r,P,U,by go_num,HH4.o⟩
  simp[Aa];omega
 have e:i=xs.length:=by omega
 rw[e]at hH;have HH:=AA hH;clear hH;go_wp2;go_ret;exact⟨rfl,bl2,st2,HH.o⟩
theorem Rt{x:Nd}(h:G' x):(Ic x.kind=3↔x.kind=3):=by
 unfold Ic;rcases h.kind with e|e|e|e|e<;>simp[e]
theorem XO{nd:Nat->Nd}{d:Nat}:∀(l m:List Nat),l.length=m.length->(∀j (t:j<l.length) (o:j<m.length),M4 F nd d l[j] m[j])->(l.filter (Eb nd)).length=(m.filter (Eb nd)).length/\∀j (t:j<(l.filter (Eb nd)).length) (o:j<(m.filter (Eb nd)).length),M4 F nd d (l.filter (Eb nd))[j] (m.filter (Eb nd))[j]:=by
 intro l;induction l with
 |nil=>intro m i _;cases m with
  |nil=>exact⟨rfl,λj t=>by simp at t⟩
  |cons b m=>simp at i
 |cons a l f=>
  intro m i c;cases m with
  |nil=>simp at i
  |cons b m=>
   have n:=c 0 (by simp) (by simp);simp only[List.getElem_cons_zero]at n;obtain⟨u,r⟩:=f m (by simpa using i) (λj t o=>by
    have:=c (j+1) (by simpa using t) (by simpa using o);simpa using this)
   have s:nd a=nd b:=by cases d<;>exact n.1
   have h:Eb nd a=Eb nd b:=by unfold Eb;rw[s]
   rw[CW,CW,h];cases e:Eb nd b
   .simpa using ⟨u,r⟩
   refine⟨by simp[u],λj t o=> ?_⟩;cases j with
   |zero=>simpa using n
   |succ j=>simpa using r j (by simpa using t) (by simpa using o)
theorem V2:∀(d y x:Nat),M4 F H d y x->(II F H d x).isSome->(II F H d y).isSome:=by
 intro d;induction d with
 |zero=>intro y x _ _;rfl
 |succ d u=>
  intro y x m i;obtain⟨w,h,f⟩:=m;obtain⟨e,s⟩:=XO (F:=F) (nd:=H) (d:=d) (F.kids y) (F.kids x) h f;change (H9 F H y).length=(H9 F H x).length at e;change∀j (w:j<(H9 F H y).length) (h:j<(H9 F H x).length),M4 F H d (H9 F H y)[j] (H9 F H x)[j]at s;cases t:H9 F H x with
  |nil=>
   rw[t]at e;rw[Dz (Ag e)];rfl
  |cons b l=>
   cases l with
   |nil=>
    rw[E6 t]at i;cases o:H9 F H y with
    |nil=>rw[t,o]at e;simp at e
    |cons a l2=>
     cases l2 with
     |nil=>
      rw[E6 o];have n:M4 F H d a b:=by
       have:=s 0 (by rw[o];simp) (by rw[t];simp);simp only[o,t,List.getElem_cons_zero]at this;exact this
      exact u a b n i
     |cons c r=>rw[t,o]at e;simp at e
   |cons c r=>rw[G0 t]at i;cases i
theorem OP(o:∀p c,c∈F.kids p->F.par c=some p):∀(d y z:Nat),II F H d y=some z->F.Up y z:=by
 intro d;induction d with
 |zero=>intro y z h;cases h;exact .self
 |succ d t=>
  intro y z h;cases e:H9 F H y with
  |nil=>rw[Dz e]at h;cases h;exact .self
  |cons a l=>
   cases l with
   |nil=>
    rw[E6 e]at h;have:a∈F.kids y:=(Cd.1 (show a∈H9 F H y by rw[e];simp)).1;exact FX (o y a this) (t a z h)
   |cons b l=>rw[G0 e]at h;cases h
theorem PI(o:F.Ok S u)(p:∀i,S i->G' (H i))(r:Br F S H B Z V w)(y:Nat)(M:S y):
 AX AC 139 #[.pointer (some ⟨Z y,0,none⟩)] w λe w'=>e= .returned (Au Z (H9 F H y).head?)/\w'=w:=by
 obtain⟨-,-,c1,-⟩:=r.dom.cells M;rw[(r.fit y M).fst,List.head?_eq_getElem?]at c1;have Y:∀j (f:j<(F.kids y).length),w.cell? ⟨Z (F.kids y)[j],4,none⟩=some (Au Z ((F.kids y)[j+1]?))/\w.cell? ⟨Z (F.kids y)[j],5,none⟩=some (.int .u32 (Ic (H (F.kids y)[j]).kind)):=λj f=>by
  have G:=(o.mem y _).1 (AD f);have c:=(o.dom _ _ G).2;obtain⟨-,-,-,-,-,c4,c5,-⟩:=r.dom.cells c;rw[(r.self _ c).typ]at c5;rw[((r.fit _ c).sib y G).2]at c4;have e2:F.kids y=(F.kids y).take j++(F.kids y)[j]::(F.kids y).drop (j+1):=by rw[List.getElem_cons_drop,Av]
  have W:=o.nodup y;rw[e2]at W;have P:=Bt ((F.kids y).drop (j+1)) (F.kids y)[j] ((F.kids y).take j) (CH W).1;rw[<-e2,List.head?_drop]at P;rw[P]at c4;exact⟨c4,c5⟩
 have X:=AA Y;have Q:Hid (∀j (f:j<(F.kids y).length),(Ic (H (F.kids y)[j]).kind=3↔(H (F.kids y)[j]).kind=3)):=λj f=>Rt (p _ (o.dom _ _ ((o.mem y _).1 (AD f))).2);have h:Hid (∀i (A:i<(F.kids y).length),NB S Z (λz=>(F.kids y).length-(F.kids y).idxOf z) (.pointer (some ⟨Z (F.kids y)[i],0,none⟩))=(F.kids y).length-i+1):=λi A=>by
  rw[Jo r.dom.inj _ ((o.dom _ _ ((o.mem y _).1 (AD A))).2)];show(F.kids y).length-(F.kids y).idxOf (F.kids y)[i]+1=_;rw[(o.nodup y).idxOf_getElem i A]
 have q:Hid (NB S Z (λz=>(F.kids y).length-(F.kids y).idxOf z) (.pointer none)=0):=ON _ _ _;obtain⟨I,s⟩:∃I,I=Au Z ((F.kids y)[0]?):=⟨_,rfl⟩;rw[<-s]at c1;have D:=AA s;obtain⟨C,rfl⟩:∃C,I= .pointer C:=⟨_,s⟩;clear Y s o r p;go_enter func139,ntmps139;go_wp2;go_loopw [3] (λv wr=>∃i,i<=(F.kids y).length/\v=Au Z ((F.kids y)[i]?)/\Hid (((F.kids y).take i).filter (Eb H)=[])/\w=wr) (λv _=>NB S Z (λz=>(F.kids y).length-(F.kids y).idxOf z) v)
 .exact⟨0,AY _,D.o,rfl,rfl⟩
 obtain⟨i,A,rfl,a,rfl⟩:=hrel;by_cases n:i<(F.kids y).length
 .have e1:(F.kids y)[i]? =some (F.kids y)[i]:=AK n;rw[e1];simp only[Au,As];obtain⟨N,x⟩:=X.o i n;have O:=Q.o i n;have k:=AA (h.o i n);by_cases l:(H (F.kids y)[i]).kind=3
  .have g:=O.2 l;rw[g]at x;have t:Hid ((H9 F H y).head? =some (F.kids y)[i]):=by
    have e2:F.kids y=(F.kids y).take i++(F.kids y)[i]::(F.kids y).drop (i+1):=(by rw[List.getElem_cons_drop,Av]);have d:Eb H (F.kids y)[i]=true:=decide_eq_true l;unfold Hid H9;conv=>lhs;rw[e2]
    rw[Ds,a.o,BY,CW,d];rfl
   obtain⟨z,m⟩:∃z,z=(F.kids y)[i]:=⟨_,rfl⟩;rw[<-m]at x t|-;clear e1 N O l g m a;go_wp2;go_ret;exact⟨by rw[t.o];rfl,rfl⟩
  have R:(Ic (H (F.kids y)[i]).kind !=3)=true:=by
   have:¬Ic (H (F.kids y)[i]).kind=3:=λe=>l (O.1 e);simp[this]
  have J:Hid (((F.kids y).take (i+1)).filter (Eb H)=[]):=by
   have d:Eb H (F.kids y)[i]=false:=decide_eq_false l;rw[Hid,AF n,Ds,a.o,CW,d];rfl
  have L:Hid (NB S Z (λz=>(F.kids y).length-(F.kids y).idxOf z) (Au Z ((F.kids y)[i+1]?))<(F.kids y).length-i+1):=by
   by_cases c:i+1<(F.kids y).length
   .have e2:(F.kids y)[i+1]? =some (F.kids y)[i+1]:=AK c;have:=h.o (i+1) c;unfold Hid;rw[e2];simp only[Au,As];omega
   have e2:(F.kids y)[i+1]? =none:=F5 (by omega);have:=q.o;unfold Hid;rw[e2];simp only[Au,BF];omega
  obtain⟨T,b⟩:∃T,T=Ic (H (F.kids y)[i]).kind:=⟨_,rfl⟩;rw[<-b]at x R;obtain⟨z,m⟩:∃z,z=Z (F.kids y)[i]:=⟨_,rfl⟩;rw[<-m]at N x k|-;obtain⟨v,E⟩:∃v,v=Au Z ((F.kids y)[i+1]?):=⟨_,rfl⟩;have K:=AA E;rw[<-E]at N;obtain⟨U,rfl⟩:∃U,v= .pointer U:=⟨_,E⟩;clear e1 O l b m a E;go_wp2;go_roundw
  .exact⟨i+1,n,K.o,J,by trivial⟩
  rw[K.o];have:=k.o;have:=L.o;omega
 have e1:(F.kids y)[i]? =none:=F5 (by omega);have t:Hid ((H9 F H y).head? =none):=by
  have:=a.o;rw[BP (by omega)]at this;unfold Hid H9;rw[this];rfl
 rw[e1];simp only[Au,BF];clear e1 a;go_wp2;go_ret;exact⟨by rw[t.o];rfl,rfl⟩
theorem WW{y:Nat}(u:F.Up x y)(h:F.par y=none):y=x:=by
 cases u with
 |self=>rfl
 |step e _=>rw[h]at e;cases e
structure Cn(R:Nd->Nd->Prop)(T:Nat->Prop)(d:Nat)(P s:bY)(ρ:Nat->Nat):Prop where
 okP:∃h,P.F.Ok (λi=>i<P.N) h
 okS:∃h,s.F.Ok (λi=>i<s.N) h
 num:s.N=P.N+d
 lt:∀i,i<P.N->ρ i<s.N
 inj:∀i j,i<P.N->j<P.N->ρ i=ρ j->i=j
 kids:∀i,i<P.N->s.F.kids (ρ i)=(P.F.kids i).map ρ
 nd:∀i,i<P.N->R (P.nd i) (s.nd (ρ i))
 tp:∀i,T i->i<P.N/\P.F.par i=none
 top:∀i,i<P.N->P.F.par i=none->s.F.par (ρ i)=none\/T i/\s.F.par (ρ i)=some 0/\s.F.par 0=none/\∀j,j<P.N->ρ j≠0
section
variable {R:Nd->Nd->Prop} {T:Nat->Prop} {d:Nat} {P s:bY} {ρ:Nat->Nat}
theorem Cn.Y1(E:Cn R T d P s ρ)(h:c∈P.F.kids p):p<P.N/\c<P.N:=by
 obtain⟨e,o⟩:=E.okP;exact o.dom _ _ ((o.mem p c).1 h)
theorem Cn.par(E:Cn R T d P s ρ)(h:P.F.par i=some p):s.F.par (ρ i)=some (ρ p):=by
 obtain⟨a,o⟩:=E.okP;obtain⟨t,o1⟩:=E.okS;have e:=(o.mem p i).2 h;refine(o1.mem _ _).1 ?_;rw[E.kids p (o.dom _ _ h).1];exact BK e
theorem Cn.Ze(E:Cn R T d P s ρ)(e:i<P.N)(ht:¬T i):s.F.par (ρ i)=(P.F.par i).map ρ:=by
 cases h:P.F.par i with
 |some p=>exact E.par h
 |none=>
  rcases E.top i e h with h|h
  .exact h
  exact absurd h.1 ht
theorem Cn.Z7(E:Cn R T d P s ρ)(t:i<P.N)(h:s.F.par (ρ i)=none):P.F.par i=none:=by
 cases e:P.F.par i with
 |none=>rfl
 |some p=>rw[E.par e]at h;cases h
theorem Cn.up(E:Cn R T d P s ρ){y:Nat}(hx:x<P.N)(r:y<P.N):P.F.Up x y↔s.F.Up (ρ x) (ρ y):=by
 obtain⟨f,o⟩:=E.okP;constructor
 .intro u;induction u with
  |self=>exact .self
  |step t _ i=>exact .step (E.par t) (i (o.dom _ _ t).1)
 intro u;generalize a:ρ y=z at u;induction u generalizing y with
 |self=>rw[E.inj y x r hx a];exact .self
 | @step c m t l i=>
   subst a;cases e:P.F.par y with
   |some p=>
    have:=E.par e;rw[t]at this;injection this with this;exact .step e (i (o.dom _ _ e).1 this.symm)
   |none=>
    rcases E.top y r e with h|⟨_,h,n,a⟩
    .rw[h]at t;cases t
    rw[h]at t;injection t with t;subst t;exfalso;exact a x hx (WW l n).symm
theorem Cn.ZC(E:Cn R T d P s ρ)(hx:∀x∈Y,x<P.N){y:Nat}(a:y<P.N):ρ y∈Y.map ρ↔y∈Y:=by
 constructor
 .intro h;obtain⟨c,t,e⟩:=BL.1 h;rw[<-E.inj c y (hx c t) a e];exact t
 exact BK
theorem Cn.nodup(E:Cn R T d P s ρ)(hx:∀x∈Y,x<P.N):(Y.map ρ).Nodup↔Y.Nodup:=by
 induction Y with
 |nil=>simp
 |cons a l e=>
  rw[Bz,B4,B4,e (λx h=>hx x (Ab _ h)),E.ZC (λx h=>hx x (Ab _ h)) (hx a Af)]
theorem Gh{ρ:Nat->Nat}{q e:Nat->Bool}:∀l:List Nat,(∀c∈l,e (ρ c)=q c)->(l.map ρ).filter e=(l.filter q).map ρ
 |[],_=>rfl
 |a::l,h=>by
  have i:=h a Af;have o:=Gh l (λc t=>h c (Ab _ t));rw[Bz,CW,CW,i,o];split<;>simp
theorem Cn.Zt(E:Cn R T d P s ρ){G:Fo}(o:∃h,F.Ok (λi=>i<P.N) h)(t:∃h,G.Ok (λi=>i<s.N) h)(u:∀i,i<P.N->G.kids (ρ i)=(F.kids i).map ρ)
 (ht:∀i,i<P.N->F.par i=none->G.par (ρ i)=none\/P.F.par i=none/\G.par (ρ i)=s.F.par (ρ i))(h0:(∀j,j<P.N->ρ j≠0)->s.F.par 0=none->G.par 0=none)(n:∀i,T i->F.par i=none):Cn R T d {P with F:=F} {s with F:=G} ρ where
 okP:=o
 okS:=t
 num:=E.num
 lt:=E.lt
 inj:=E.inj
 kids:=u
 nd:=E.nd
 tp:=λi h=>⟨(E.tp i h).1,n i h⟩
 top:=λi r h=>by
  rcases ht i r h with h|⟨f,l⟩
  .exact .inl h
  rcases E.top i r f with m|⟨a,b,c,e⟩
  .exact .inl (l.trans m)
  exact .inr ⟨a,l.trans b,h0 e c,e⟩
theorem Cn.cut(E:Cn R T d P s ρ)(hx:x<P.N):Cn R T d {P with F:=P.F.cut x} {s with F:=s.F.cut (ρ x)} ρ:=by
 obtain⟨u,n⟩:=E.okP;obtain⟨l,o⟩:=E.okS;refine E.Zt ⟨u,n.cut x⟩ ⟨l,o.cut _⟩ (λi t=> ?_) (λi t h=> ?_) (λa f=> ?_) (λi h=> ?_)
 .show(s.F.kids (ρ i)).filter _=((P.F.kids i).filter _).map ρ;rw[E.kids i t];refine Gh _ λc r=> ?_;have a:(ρ c=ρ x)↔c=x:=⟨E.inj c x (E.Y1 r).2 hx,λe=>by rw[e]⟩;simp[a]
 .by_cases e:i=x
  .exact .inl (by subst e;show(if ρ i=ρ i then _ else _)=_;rw[AJ rfl])
  have e2:ρ i≠ρ x:=λh=>e (E.inj i x t hx h);have m:(P.F.cut x).par i=P.F.par i:=AI e;exact .inr ⟨m.symm.trans h,AI e2⟩
 .show(if 0=ρ x then _ else _)=_;split
  .rfl
  exact f
 show(if i=x then _ else _)=_;split
 .rfl
 exact(E.tp i h).2
theorem Cn.Yx(E:Cn R T d P s ρ){xs:List Nat}(hx:∀x∈xs,x<P.N):Cn R T d {P with F:=CB P.F xs} {s with F:=CB s.F (xs.map ρ)} ρ:=by
 induction xs generalizing P s with
 |nil=>exact E
 |cons a l e=>exact e (E.cut (hx a Af)) (λx h=>hx x (Ab _ h))
theorem Cn.row(E:Cn R T d P s ρ)(l:p<P.N){l1 l2 L:List Nat}(k:P.F.kids p=l1++l2)(n:∀r∈L,r<P.N/\P.F.par r=none/\¬T r/\¬P.F.Up r p)(v:L.Nodup):Cn R T d (P.row p l1.length L) (s.row (ρ p) l1.length (L.map ρ)) ρ:=by
 obtain⟨I,x⟩:=E.okP;obtain⟨O,j⟩:=E.okS;have g:s.F.kids (ρ p)=l1.map ρ++l2.map ρ:=by rw[E.kids p l,k,B3]
 have o:∀r∈L,r<P.N:=λr hr=>(n r hr).1;obtain⟨y,o1,_⟩:=F8 x k l (λr hr=>⟨(n r hr).1,(n r hr).2.1,(n r hr).2.2.2⟩) v;obtain⟨w,o2,_⟩:=F8 j (L:=L.map ρ) g (E.lt p l) (λr hr=>by
  obtain⟨q,z,rfl⟩:=BL.1 hr;obtain⟨a,b,c,e⟩:=n q z;refine⟨E.lt q a,?_,λu=>e ((E.up a l).2 u)⟩;rw[E.Ze a c,b];rfl) ((E.nodup o).2 v)
 have el:(l1.map ρ).length=l1.length:=Aq _;rw[el]at o2;refine E.Zt (F:=(P.row p l1.length L).F) (G:=(s.row (ρ p) l1.length (L.map ρ)).F) ⟨y,o1⟩ ⟨w,o2⟩ (λi m=> ?_) (λi m h=> ?_) (λy w=> ?_) (λi h=> ?_)
 .show(if ρ i=ρ p then _ else _)=(if i=p then _ else _:List Nat).map ρ;by_cases e:i=p
  .subst e;rw[AJ rfl,AJ rfl,E.kids i m,B3,B3,List.map_take,List.map_drop]
  have e2:ρ i≠ρ p:=λh=>e (E.inj i p m l h);rw[AI e,AI e2,E.kids i m]
 .have f:(if i∈L then some p else P.F.par i)=none:=h;have e:i∉L:=λt=>by rw[AJ t]at f;cases f
  rw[AI e]at f;have e2:ρ i∉L.map ρ:=λt=>e ((E.ZC o m).1 t);exact .inr ⟨f,AI e2⟩
 .show(if 0∈L.map ρ then _ else _)=_;have e2:0∉L.map ρ:=λt=>by
   obtain⟨c,A,e⟩:=BL.1 t;exact y c (o c A) e
  rw[AI e2];exact w
 show(if i∈L then _ else _)=_;rw[AI (λt=>(n i t).2.2.1 h)];exact(E.tp i h).2
theorem Cn.Zw(E:Cn R T d P s ρ)(h:c∈P.F.kids p):¬T c:=λt=>by
 obtain⟨e,o⟩:=E.okP;have:=(o.mem p c).1 h;rw[(E.tp c t).2]at this;cases this
theorem Cn.all(E:Cn R T d P s ρ):∀(n x:Nat),x<P.N->s.F.lst n (ρ x)=(P.F.lst n x).map ρ
 |0,x,_=>rfl
 |n+1,x,hx=>by
  show ρ x::(s.F.kids (ρ x)).flatMap (s.F.lst n)=(x::(P.F.kids x).flatMap (P.F.lst n)).map ρ;rw[E.kids x hx,Bz,List.flatMap_map,List.map_flatMap];congr 1;have:∀c∈P.F.kids x,s.F.lst n (ρ c)=(P.F.lst n c).map ρ:=λc e=>E.all n c (E.Y1 e).2;clear hx;generalize P.F.kids x=l at this;induction l with
  |nil=>rfl
  |cons a l t=>
   rw[A_,A_,this a Af,t (λc e=>this c (Ab _ e))]
theorem Cn.apart(E:Cn R T d P s ρ)(o:∀x∈J,x<P.N)(hx:∀x∈Y,x<P.N):GB s.F (J.map ρ) (Y.map ρ)↔GB P.F J Y:=by
 unfold GB;simp only[Aq,List.getElem_map];constructor
 .rintro⟨h,n⟩;exact⟨λi j t e a u=>h i j t e a ((E.up (o _ (AD t)) (o _ (AD e))).1 u),λi j t e u=>n i j t e ((E.up (o _ (AD t)) (hx _ (AD e))).1 u)⟩
 rintro⟨h,n⟩;exact⟨λi j t e a u=>h i j t e a ((E.up (o _ (AD t)) (o _ (AD e))).2 u),λi j t e u=>n i j t e ((E.up (o _ (AD t)) (hx _ (AD e))).2 u)⟩
end
structure VI(s s':bY)(A:Nat->Prop)(m:Nat->Nat):Prop where
 img:∀y,s.N<=y->y<s'.N->m y<s.N/\A (m y)
 inj:∀y z,s.N<=y->y<s'.N->s.N<=z->z<s'.N->m y=m z->y=z
 sur:∀a,A a->∃y,s.N<=y/\y<s'.N/\m y=a
 kids:∀y,s.N<=y->y<s'.N->(s'.F.kids y).map m=s.F.kids (m y)
 nd:∀y,s.N<=y->y<s'.N->s'.nd y=s.nd (m y)
theorem U8{y:Nat}(u:F.Up x y):y=x\/∃c,F.par c=some x/\F.Up c y:=by
 induction u with
 |self=>exact .inl rfl
 | @step y p t i a=>
   rcases a with rfl|⟨c,o,e⟩
   .exact .inr ⟨y,t,.self⟩
   exact .inr ⟨c,o,.step t e⟩
theorem Ky{G:Fo}(t:∀p c,c∈F.kids p->F.par c=some p):∀(d k:Nat),(∀y,F.Up k y->G.kids y=F.kids y)->G.lst d k=F.lst d k
 |0,k,_=>rfl
 |d+1,k,h=>by
  show k::(G.kids k).flatMap (G.lst d)=k::(F.kids k).flatMap (F.lst d);rw[h k .self];congr 1;have:∀c∈F.kids k,G.lst d c=F.lst d c:=λc e=>Ky t d c (λy u=>h y (FX (t _ _ e) u));generalize F.kids k=l at this;induction l with
  |nil=>rfl
  |cons a l o=>rw[A_,A_,this a Af,o (λc e=>this c (Ab _ e))]
theorem Kc(f:Nat->Nat)(K:List Nat)(h:i<K.length):((K.take (i+1)).map f).sum=((K.take i).map f).sum+f K[i]:=by
 rw[AF h,B3,List.sum_append];simp
theorem Ko.aZ{a:bY}{m:Nat->Nat}(e:Ko s a h m x)(o:s.F.Ok (λi=>i<s.N) h)(c:k<s.N){y:Nat}:a.F.Up k y↔s.F.Up k y:=by
 constructor
 .intro u;have l:y<s.N:=by
   induction u with
   |self=>exact c
   | @step y p t d r=>
     rcases Be y s.N with h|h
     .exact h
     have:=e.newp y p h t;omega
  induction u with
  |self=>exact .self
  | @step y p t d r=>
    have n:s.F.par y=some p:=(e.par y l).symm.trans t;exact .step n (r (o.dom _ _ n).1)
 intro u;induction u with
 |self=>exact .self
 | @step y p t d r=>exact .step ((e.par y (o.dom _ _ t).2).trans t) r
theorem Fo.Up.ZO{N:Nat}(o:F.Ok (λi=>i<N) h){y:Nat}(u:F.Up k y)(t:k<N):y<N:=by
 cases u with
 |self=>exact t
 |step e _=>exact(o.dom _ _ e).2
theorem Ko.Zb{a:bY}{n:Nat->Nat}(e:Ko s a h n x)(o:s.F.Ok (λi=>i<s.N) h)(t:k<s.N):a.F.all n k=s.F.all h k:=by
 unfold Fo.all;rw[e.hold k t];refine Ky (λp c r=>(o.mem p c).1 r) _ _ (λy u=>e.kids y ?_);exact u.ZO o t
structure YN(s:bY)(h:Nat->Nat)(x i:Nat)(a:bY)(m:Nat->Nat):Prop where
 top:m s.N=x
 img:∀y,s.N<y->y<a.N->m y<s.N/\∃c∈(s.F.kids x).take i,s.F.Up c (m y)
 inj:∀y z,s.N<=y->y<a.N->s.N<=z->z<a.N->m y=m z->y=z
 sur:∀v,(∃c∈(s.F.kids x).take i,s.F.Up c v)->∃y,s.N<=y/\y<a.N/\m y=v
 kids:∀y,s.N<y->y<a.N->(a.F.kids y).map m=s.F.kids (m y)
 kid0:(a.F.kids s.N).map m=(s.F.kids x).take i
 nd:∀y,s.N<=y->y<a.N->a.nd y=s.nd (m y)
 len:a.N=s.N+1+(((s.F.kids x).take i).map λc=>(s.F.all h c).length).sum
theorem Tq{d:Nat}(o:s.F.Ok (λi=>i<s.N) h)(hx:x<s.N)(hd:h x<=d+1)(X:i<(s.F.kids x).length){a:bY}{Z:Nat->Nat}(q:Ko s a h Z x){m:Nat->Nat}(I:YN s h x i a m){b:bY}{hb:Nat->Nat}(H:Ko a b Z hb (s.F.kids x)[i]){N:Nat->Nat}(B:VI a b (a.F.Up (s.F.kids x)[i]) N)(eo:N a.N=(s.F.kids x)[i])(P:b.N=a.N+(a.F.all Z (s.F.kids x)[i]).length):
 ∃S,YN s h x (i+1) (b.Yz s.N s.N a.N) S:=by
 have Y:=AD X;have D:=(o.mem x _).1 Y;have J:=(o.dom _ _ D).2;have hkh:=o.ht _ _ D;have R:=AF X;have M:∀y,a.F.Up (s.F.kids x)[i] y↔s.F.Up (s.F.kids x)[i] y:=λy=>q.aZ o J;generalize G:(s.F.kids x)[i]=k at*;have E:=q.lt;have hblt:=H.lt;have ei:∀y,y<s.N->a.F.kids y=s.F.kids y:=q.kids;have K:∀y,a.N<=y->y<b.N->N y<s.N/\s.F.Up k (N y):=λy r n=>by
  have:=(M _).1 (B.img y r n).2;exact⟨this.ZO o J,this⟩
 have ee:∀c,c∈s.F.kids x->∀y,s.F.Up c y->y≠x:=λc w y u e=>by
  have r:=o.ht _ _ ((o.mem x c).1 w);subst e;rcases u.ht o with n|n
  .rw[n]at r;exact Nat.lt_irrefl _ r
  omega
 obtain⟨S,W⟩:∃S:Nat->Nat,S=λy=>if y<a.N then m y else N y:=⟨_,rfl⟩;have f:∀y,y<a.N->S y=m y:=λy V=>by rw[W];exact AJ V
 have T:∀y,a.N<=y->S y=N y:=λy V=>by rw[W];exact AI (by omega)
 have et:∀y,a.N<=y->y<b.N->∀z∈b.F.kids y,a.N<=z/\z<b.N:=λy r n z A=>by
  have C:=(H.ok.mem y z).1 A;refine⟨?_,(H.ok.dom _ _ C).2⟩;rcases Be z a.N with t|t
  .have:=(H.par z t).symm.trans C;have:=(q.ok.dom _ _ this).1;omega
  exact t
 have F:∀y,s.N<=y->y<a.N->∀z∈a.F.kids y,s.N<=z/\z<a.N:=λy r n z A=>by
  have C:=(q.ok.mem y z).1 A;refine⟨?_,(q.ok.dom _ _ C).2⟩;rcases Be z s.N with t|t
  .have:=(q.par z t).symm.trans C;have:=(o.dom _ _ this).1;omega
  exact t
 have es:(b.Yz s.N s.N a.N).F.kids s.N=a.F.kids s.N++[a.N]:=by
  show(if s.N=s.N then Kv s.N a.N (b.F.kids s.N)else _)=_;rw[AJ rfl,H.kids _ E,KJ];intro hm;have:=q.root;rw[(q.ok.mem _ _).1 hm]at this;cases this
 have en:∀y,y≠s.N->(b.Yz s.N s.N a.N).F.kids y=b.F.kids y:=λy V=>AI V;refine⟨S,?_,?_,?_,?_,?_,?_,?_,?_⟩
 .rw[f _ E];exact I.top
 .intro y r n;have n:y<b.N:=n;rw[R];rcases Be y a.N with t|t
  .rw[f y t];obtain⟨Q,c,w,U⟩:=I.img y r t;exact⟨Q,c,GU _ w,U⟩
  rw[T y t];obtain⟨Q,U⟩:=K y t n;exact⟨Q,k,List.mem_append_right _ (AP.2 rfl),U⟩
 ·
  have O:∀y z,s.N<=y->y<a.N->a.N<=z->z<b.N->m y≠N z:=λy z r n t L e=>by
   obtain⟨Q,U⟩:=K z t L;rcases Nat.eq_or_lt_of_le r with l|l
   .subst l;rw[I.top]at e;exact ee k Y _ U e.symm
   obtain⟨_,c,w,g3⟩:=I.img y l n;rw[e]at g3;have eh:=Ci w;have er:=Fo.Up.uniq o ((o.mem x c).1 eh) D g3 U;obtain⟨j,hj,e2⟩:=C7.1 w;have hj2:j<i:=by omega
   have:=(C0 (o.nodup x)).1 (e2.trans (er.trans G.symm));omega
  intro y z r n t L e;have n:y<b.N:=n;have L:z<b.N:=L;rcases Be y a.N with l|l
  .rcases Be z a.N with p|p
   .rw[f y l,f z p]at e;exact I.inj y z r l t p e
   rw[f y l,T z p]at e;exact absurd e (O y z r l p L)
  rcases Be z a.N with p|p
  .rw[T y l,f z p]at e;exact absurd e.symm (O z y t p l n)
  rw[T y l,T z p]at e;exact B.inj y z l n p L e
 .rintro v ⟨c,w,u⟩;rw[R,AV,AP]at w;rcases w with w|rfl
  .obtain⟨y,r,n,t⟩:=I.sur v ⟨c,w,u⟩;exact⟨y,r,by show y<b.N;omega,by rw[f y n];exact t⟩
  obtain⟨y,r,n,t⟩:=B.sur v ((M v).2 u);exact⟨y,by omega,n,by rw[T y r];exact t⟩
 .intro y r n;have n:y<b.N:=n;rw[en y (by omega)];rcases Be y a.N with t|t
  .rw[f y t,H.kids y t,<-I.kids y r t];exact Ay λz A=>f z (F y (by omega) t z A).2
  rw[T y t];have g:=B.kids y t n;rw[ei _ (K y t n).1]at g;rw[<-g];exact Ay λz A=>T z (et y t n z A).1
 .rw[es,R,<-I.kid0,B3];congr 1
  .exact Ay λz A=>f z (F _ (AG _) E z A).2
  rw[List.map_singleton,T _ (AG _),eo]
 .intro y r n;have n:y<b.N:=n;show b.nd y=_;rcases Be y a.N with t|t
  .rw[f y t,H.ndo y t];exact I.nd y r t
  rw[T y t,B.nd y t n];exact q.ndo _ (K y t n).1
 show b.N=_;rw[P,I.len,q.Zb o J,Kc _ _ X,G];omega
def Xj(d:Nat):Prop:=∀(s:bY) (h:Nat->Nat) (x:Nat),s.F.Ok (λi=>i<s.N) h->x<s.N->h x<=d->(CZ d s x).op=false->
    ∃m,VI s (CZ d s x) (s.F.Up x) m/\m s.N=x/\(CZ d s x).N=s.N+(s.F.all h x).length
theorem Wo{d:Nat}(O:Xj d)(o:s.F.Ok (λi=>i<s.N) h)(hx:x<s.N)(u:h x<=d+1):∀i,i<=(s.F.kids x).length->(DH d s x i).op=false->∃m,YN s h x i (DH d s x i) m:=by
 intro i;induction i with
 |zero=>
  intro _ _;rw[EI];have C:(s.fresh x).N=s.N+1:=rfl;have j:(s.fresh x).F.kids s.N=[]:=(DM o (AG _)).2;refine⟨λ_=>x,rfl,λy g w=>by omega,λy z g w F M _=>by omega,?_,λy g w=>by omega,?_,λy g w=> ?_,?_⟩
  .rintro v ⟨c,T,_⟩;rw[BM]at T;cases T
  .rw[j,BM];rfl
  .have:y=s.N:=by omega
   rw[this];exact AJ rfl
  rw[BM];rfl
 |succ i p=>
  intro L b;obtain⟨r,k⟩:=MR o hx u (by omega) b;obtain⟨m,I⟩:=p (by omega) r;obtain⟨⟨f,e⟩,_,_⟩:=Fk o hx u i (by omega);have E:=AD (l:=s.F.kids x) (n:=i) (by omega);have t:=(o.mem x _).1 E;have S:=(o.dom _ _ t).2;have R:=o.ht _ _ t;have A:=e.lt;have a:f (s.F.kids x)[i]<=d:=by rw[e.hold _ S];omega
  obtain⟨U,H⟩:=DK d (DH d s x i) f (s.F.kids x)[i] e.ok (by omega) a;obtain⟨D,B,q,N⟩:=O (DH d s x i) f (s.F.kids x)[i] e.ok (by omega) a k;rw[Fy d s x (by omega)];exact Tq o hx u (by omega) e I H B q N
theorem XJ(d:Nat):Xj d:=by
 induction d with
 |zero=>
  intro s h x o hx w t;have i:¬600<=s.N:=λi=>by
   have e:CZ 0 s x=(s.fresh x).shut:=by show(if 600<=s.N then _ else _)=_;rw[AJ i]
   rw[e]at t;cases t
  have e:CZ 0 s x=s.fresh x:=by show(if 600<=s.N then _ else _)=_;rw[AI i]
  have f:s.F.kids x=[]:=List.eq_nil_iff_forall_not_mem.2 λc a=>by
   have:=o.ht _ _ ((o.mem x c).1 a);omega
  have p:(s.fresh x).F.kids s.N=[]:=(DM o (AG _)).2;rw[e];have O:(s.fresh x).N=s.N+1:=rfl;refine⟨λ_=>x,⟨λy l r=>⟨hx,.self⟩,λy z l r S N _=>by omega,λv u=> ?_,λy l r=> ?_,λy l r=> ?_⟩,rfl,?_⟩
  .rcases U8 u with rfl|⟨c,a,_⟩
   .exact⟨s.N,AG _,by omega,rfl⟩
   have:=(o.mem x c).2 a;rw[f]at this;cases this
  .have:y=s.N:=by omega
   rw[this,p,f];rfl
  .have:y=s.N:=by omega
   rw[this];exact AJ rfl
  rw[Fo.all_eq o,f];rfl
 |succ d q=>
  intro s h x o hx w t;have i:¬600<=s.N:=λi=>by
   have e:CZ (d+1) s x=(s.fresh x).shut:=by show(if 600<=s.N then _ else _)=_;rw[AJ i]
   rw[e]at t;cases t
  have e:=JB d s x i;rw[<-e]at t|-;obtain⟨m,I⟩:=Wo q o hx w _ (AG _) t;obtain⟨⟨A,T⟩,_,_⟩:=Fk o hx w (s.F.kids x).length (AG _);have ht:=I.img;rw[AU]at ht;have b:=I.sur;rw[AU]at b;refine⟨m,⟨λy l r=> ?_,I.inj,λv u=> ?_,λy l r=> ?_,I.nd⟩,I.top,?_⟩
  .rcases Nat.eq_or_lt_of_le l with n|n
   .subst n;rw[I.top];exact⟨hx,.self⟩
   obtain⟨E,c,a,j⟩:=ht y n r;exact⟨E,FX ((o.mem x c).1 a) j⟩
  .rcases U8 u with rfl|⟨c,a,g⟩
   .exact⟨s.N,AG _,T.lt,I.top⟩
   exact b v ⟨c,(o.mem x c).2 a,g⟩
  .rcases Nat.eq_or_lt_of_le l with n|n
   .subst n;have:=I.kid0;rw[AU]at this;rw[I.top];exact this
   exact I.kids y n r
  have k:=I.len;rw[AU]at k;rw[k,Fo.all_eq o,Ak,List.length_flatMap];omega
theorem U2(f:Nat->Nat)(K:List Nat)(i:Nat):((K.take i).map f).sum<=(K.map f).sum:=by
 have:K.map f=(K.take i).map f++(K.drop i).map f:=by rw[<-B3,Av]
 rw[this,List.sum_append];omega
theorem PD(d:Nat):∀(s:bY) (h:Nat->Nat) (x:Nat),s.F.Ok (λi=>i<s.N) h->x<s.N->h x<=d->s.op=false->s.N+(s.F.all h x).length<=600->(CZ d s x).op=false:=by
 induction d with
 |zero=>
  intro s h x o hx w a f;rw[Fo.all_eq o,Ak]at f;have e:CZ 0 s x=s.fresh x:=by show(if 600<=s.N then _ else _)=_;rw[AI (by omega)]
  rw[e];exact a
 |succ d q=>
  intro s h x o hx w a f;rw[Fo.all_eq o,Ak,List.length_flatMap]at f;rw[<-JB d s x (by omega)];have key:∀i,i<=(s.F.kids x).length->(DH d s x i).op=false:=by
   intro i;induction i with
   |zero=>intro _;exact a
   |succ i y=>
    intro z;have t:=y (by omega);obtain⟨m,I⟩:=Wo (XJ d) o hx w i (by omega) t;obtain⟨⟨v,u⟩,_,_⟩:=Fk o hx w i (by omega);have g:=AD (l:=s.F.kids x) (n:=i) (by omega);have r:=(o.mem x _).1 g;have b:=(o.dom _ _ r).2;have j:=o.ht _ _ r;have k:=u.lt;have p:v (s.F.kids x)[i]<=d:=(by rw[u.hold _ b];omega);rw[Fy d s x (by omega)];refine q _ v _ u.ok (by omega) p t ?_;rw[u.Zb o b,I.len];have A:=Kc (λc=>(s.F.all h c).length) (s.F.kids x) (i:=i) (by omega);have T:=U2 (λc=>(s.F.all h c).length) (s.F.kids x) (i+1);have E:(List.map (λc=>(s.F.all h c).length) (s.F.kids x)).sum=(List.map (Dw∘s.F.all h) (s.F.kids x)).sum:=rfl;omega
  exact key _ (AG _)
structure Jl(s a:bY)(h ha:Nat->Nat):Prop where
 ok:a.F.Ok (λi=>i<a.N) ha
 le:s.N<=a.N
 hold:∀y,y<s.N->ha y=h y
 kids:∀y,y<s.N->a.F.kids y=s.F.kids y
 par:∀y,y<s.N->a.F.par y=s.F.par y
 ndo:∀y,y<s.N->a.nd y=s.nd y
theorem Jl.refl{s:bY}{h:Nat->Nat}(o:s.F.Ok (λi=>i<s.N) h):Jl s s h h:=⟨o,AG _,λ_ _=>rfl,λ_ _=>rfl,λ_ _=>rfl,λ_ _=>rfl⟩
theorem Ko.old{s a:bY}{h ha:Nat->Nat}(e:Ko s a h ha x):Jl s a h ha:=⟨e.ok,Ca e.lt,e.hold,e.kids,e.par,e.ndo⟩
theorem Jl.trans{s a b:bY}{h ha o:Nat->Nat}(e:Jl s a h ha)(f:Jl a b ha o):Jl s b h o:=
 ⟨f.ok,AH e.le f.le,λy t=>(f.hold y (AR t e.le)).trans (e.hold y t),λy t=>(f.kids y (AR t e.le)).trans (e.kids y t),λy t=>(f.par y (AR t e.le)).trans (e.par y t),λy t=>(f.ndo y (AR t e.le)).trans (e.ndo y t)⟩
section
variable {s a:bY} {h ha:Nat->Nat}
theorem Jl.newp(e:Jl s a h ha)(o:s.F.Ok (λi=>i<s.N) h){y:Nat}(d:s.N<=y)(r:a.F.par y=some p):s.N<=p:=by
 rcases Be p s.N with t|t
 .have n:=(e.ok.mem p y).2 r;rw[e.kids p t]at n;have:=(o.dom _ _ ((o.mem p y).1 n)).2;omega
 exact t
theorem Jl.ZM(e:Jl s a h ha)(o:s.F.Ok (λi=>i<s.N) h){y z:Nat}(d:s.N<=y)(r:z∈a.F.kids y):s.N<=z/\z<a.N:=by
 have n:=(e.ok.mem y z).1 r;refine⟨?_,(e.ok.dom _ _ n).2⟩;rcases Be z s.N with t|t
 .have:=(e.par z t).symm.trans n;have:=(o.dom _ _ this).1;omega
 exact t
theorem Jl.aZ(e:Jl s a h ha)(o:s.F.Ok (λi=>i<s.N) h)(c:k<s.N){y:Nat}:a.F.Up k y↔s.F.Up k y:=by
 constructor
 .intro u;have l:y<s.N:=by
   induction u with
   |self=>exact c
   | @step y p t d r=>
     rcases Be y s.N with h|h
     .exact h
     have:=e.newp o h t;omega
  induction u with
  |self=>exact .self
  | @step y p t d r=>
    have n:s.F.par y=some p:=(e.par y l).symm.trans t;exact .step n (r (o.dom _ _ n).1)
 intro u;induction u with
 |self=>exact .self
 | @step y p t d r=>exact .step ((e.par y (o.dom _ _ t).2).trans t) r
theorem Jl.Zb(e:Jl s a h ha)(o:s.F.Ok (λi=>i<s.N) h)(t:k<s.N):a.F.all ha k=s.F.all h k:=by
 unfold Fo.all;rw[e.hold k t];exact Ky (λp c n=>(o.mem p c).1 n) _ _ (λy u=>e.kids y (u.ZO o t))
theorem VI.next{b:bY}{M:Nat->Nat}{A:Nat->Prop}{m q:Nat->Nat}(o:s.F.Ok (λi=>i<s.N) h)(j:Jl s a h ha)(N:Jl a b ha M)(I:VI s a A m)(R:k<s.N)(E:∀y,A y->¬s.F.Up k y)(B:VI a b (a.F.Up k) q):
 ∃f,VI s b (λy=>A y\/s.F.Up k y) f/\(∀y,y<a.N->f y=m y)/\∀y,a.N<=y->f y=q y:=by
 have F:=j.le;have C:=N.le;have T:∀y,a.N<=y->y<b.N->q y<s.N/\s.F.Up k (q y):=λy r n=>by
  have:=(j.aZ o R).1 (B.img y r n).2;exact⟨this.ZO o R,this⟩
 obtain⟨f,x⟩:∃f:Nat->Nat,f=λy=>if y<a.N then m y else q y:=⟨_,rfl⟩;have c:∀y,y<a.N->f y=m y:=λy U=>by rw[x];exact AJ U
 have l:∀y,a.N<=y->f y=q y:=λy U=>by rw[x];exact AI (by omega)
 have p:∀y z,s.N<=y->y<a.N->a.N<=z->z<b.N->m y≠q z:=λy z r n t O e=>by
  refine E _ (I.img y r n).2 ?_;rw[e];exact(T z t O).2
 refine⟨f,⟨λy r n=> ?_,λy z r n t O e=> ?_,λv H=> ?_,λy r n=> ?_,λy r n=> ?_⟩,c,l⟩
 .rcases Be y a.N with t|t
  .rw[c y t];obtain⟨L,D⟩:=I.img y r t;exact⟨L,.inl D⟩
  rw[l y t];obtain⟨L,D⟩:=T y t n;exact⟨L,.inr D⟩
 .rcases Be y a.N with w|w
  .rcases Be z a.N with d|d
   .rw[c y w,c z d]at e;exact I.inj y z r w t d e
   rw[c y w,l z d]at e;exact absurd e (p y z r w d O)
  rcases Be z a.N with d|d
  .rw[l y w,c z d]at e;exact absurd e.symm (p z y t d w n)
  rw[l y w,l z d]at e;exact B.inj y z w n d O e
 .rcases H with H|u
  .obtain⟨y,r,n,t⟩:=I.sur v H;exact⟨y,r,by omega,by rw[c y n];exact t⟩
  obtain⟨y,r,n,t⟩:=B.sur v ((j.aZ o R).2 u);exact⟨y,by omega,n,by rw[l y r];exact t⟩
 .rcases Be y a.N with t|t
  .rw[c y t,N.kids y t,<-I.kids y r t];exact Ay λz S=>c z (j.ZM o r S).2
  rw[l y t];have g:=B.kids y t n;rw[j.kids _ (T y t n).1]at g;rw[<-g];exact Ay λz S=>l z (N.ZM j.ok t S).1
 rcases Be y a.N with t|t
 .rw[c y t,N.ndo y t];exact I.nd y r t
 rw[l y t,B.nd y t n];exact j.ndo _ (T y t n).1
end
structure Xk(s a:bY)(h ha:Nat->Nat)(v L:List Nat)(m:Nat->Nat):Prop where
 old:Jl s a h ha
 cp:VI s a (λy=>∃w∈v,s.F.Up w y) m
 row:L.map m=v
 root:∀r∈L,s.N<=r/\r<a.N/\a.F.par r=none
 len:a.N=s.N+(v.map λw=>(s.F.all h w).length).sum
theorem Vw{s:bY}:∀(v:List Nat) (j:Nat),(Ap false s v).op=false->(Ap false s (v.take j)).op=false:=by
 intro v j o;cases e:(Ap false s (v.take j)).op with
 |false=>rfl
 |true=>
  have n:Ap false s v=Ap false (Ap false s (v.take j)) (v.drop j):=by
   unfold Ap;rw[<-List.foldl_append,Av]
  rw[n]at o;have:∀(l:List Nat) (t:bY),t.op=true->(Ap false t l).op=true:=λl t ht=>IG _ (λs k i=>Gd 600 s k i) l t ht;rw[this _ _ e]at o;cases o
theorem Yf{s:bY}{h:Nat->Nat}(o:s.F.Ok (λi=>i<s.N) h){v:List Nat}(D:∀w∈v,w<s.N/\h w<=600)(F:∀i j (C:i<v.length) (U:j<v.length),i≠j->∀y,s.F.Up v[i] y->¬s.F.Up v[j] y)(q:(Ap false s v).op=false):∀j,j<=v.length->∃ha m,Xk s (Ap false s (v.take j)) h ha (v.take j) (CI false s (v.take j)) m:=by
 intro j;induction j with
 |zero=>
  intro _;rw[BM];exact⟨h,id,Jl.refl o,⟨λy d t=>by have:y<s.N:=t;omega,λy z d t=>by have:y<s.N:=t;omega,λa ⟨w,hw,_⟩=>(by cases hw),λy d t=>by have:y<s.N:=t;omega,λy d t=>by have:y<s.N:=t;omega⟩,rfl,λr hr=>(by cases hr),rfl⟩
 |succ j R=>
  intro U;obtain⟨ha,m,I⟩:=R (by omega);have f:=AF (l:=v) (i:=j) (by omega);have e:=Vw v (j+1) q;have A:=AD (l:=v) (n:=j) (by omega);obtain⟨p,O⟩:=D _ A;rw[f,DW]at e;rw[f,DW,En];simp only[Bv,if_false]at e|-;have T:=I.old.le;have g:ha v[j]<=600:=by rw[I.old.hold _ p];exact O
  obtain⟨W,c⟩:=DK 600 _ ha v[j] I.old.ok (by omega) g;obtain⟨G,B,x,L⟩:=XJ 600 _ ha v[j] I.old.ok (by omega) g e;obtain⟨H,M,S,N⟩:=I.cp.next o I.old c.old p (λy ⟨w,hw,u⟩=>by
   obtain⟨i,C,rfl⟩:=C7.1 hw;exact F i j (by omega) (by omega) (by omega) y u) B
  have E:=c.lt;refine⟨W,H,I.old.trans c.old,⟨λy d t=> ?_,M.inj,λa ha=> ?_,M.kids,M.nd⟩,?_,?_,?_⟩
  .obtain⟨k,b⟩:=M.img y d t;refine⟨k,?_⟩;rcases b with⟨w,hw,u⟩|u
   .exact⟨w,GU _ hw,u⟩
   exact⟨_,List.mem_append_right _ (AP.2 rfl),u⟩
  .refine M.sur a ?_;obtain⟨w,hw,u⟩:=ha;rcases AV.1 hw with hw|hw
   .exact .inl ⟨w,hw,u⟩
   rw[AP.1 hw]at u;exact .inr u
  .rw[B3,List.map_singleton,N _ (AG _),x];congr 1;exact(Ay λr hr=>S r (I.root r hr).2.1).trans I.row
  .intro r hr;rcases AV.1 hr with hr|hr
   .obtain⟨k,b,Y⟩:=I.root r hr;exact⟨k,by omega,by rw[c.par r b];exact Y⟩
   rw[AP.1 hr];exact⟨T,E,c.root⟩
  rw[L,I.len,I.old.Zb o p,B3,List.sum_append];simp only[Bz,List.map_nil,List.sum_cons,List.sum_nil];omega
theorem T3{s:bY}{h:Nat->Nat}(o:s.F.Ok (λi=>i<s.N) h){v:List Nat}(t:∀w∈v,w<s.N/\h w<=600)(n:∀i j (d:i<v.length) (r:j<v.length),i≠j->∀y,s.F.Up v[i] y->¬s.F.Up v[j] y)(e:(Ap false s v).op=false):∃ha m,Xk s (Ap false s v) h ha v (CI false s v) m:=by
 have:=Yf o t n e v.length (AG _)
 rwa [AU]at this
theorem T4{s:bY}{h:Nat->Nat}(o:s.F.Ok (λi=>i<s.N) h){v:List Nat}(g:∀w∈v,w<s.N/\h w<=600)(z:∀i j (p:i<v.length) (x:j<v.length),i≠j->∀y,s.F.Up v[i] y->¬s.F.Up v[j] y)(d:s.op=false)(T:s.N+(v.map λw=>(s.F.all h w).length).sum<=600):∀j,j<=v.length->(Ap false s (v.take j)).op=false:=by
 intro j;induction j with
 |zero=>intro _;rw[BM];exact d
 |succ j b=>
  intro x;have e:=b (by omega);obtain⟨ha,m,I⟩:=T3 o (v:=v.take j) (λw q=>g w (Ci q)) (λi k p t u y=>by
   rw[At]at p t;rw[F_,F_];exact z i k (by omega) (by omega) u y) e
  have r:=AF (l:=v) (i:=j) (by omega);have c:=AD (l:=v) (n:=j) (by omega);obtain⟨t,f⟩:=g _ c;have E:=I.old.le;rw[r,DW];simp only[Bv,if_false];refine PD 600 _ ha v[j] I.old.ok (by omega) (by rw[I.old.hold _ t];exact f) e ?_;rw[I.old.Zb o t,I.len];have O:=Kc (λw=>(s.F.all h w).length) v (i:=j) (by omega);have A:=U2 (λw=>(s.F.all h w).length) v (j+1);omega
theorem Jt{m:Nat->Nat}{Q:Nat->Prop}(o:∀y z,Q y->Q z->m y=m z->y=z):∀(l e:List Nat),(∀y∈l,Q y)->(∀y∈e,Q y)->l.map m=e.map m->l=e
 |[],[],_,_,_=>rfl
 |[],b::e,_,_,h=>by simp at h
 |a::l,[],_,_,h=>by simp at h
 |a::l,b::e,n,i,h=>by
  simp only[Bz,List.cons.injEq]at h;rw[o a b (n a Af) (i b Af) h.1,Jt o l e (λy t=>n y (Ab _ t)) (λy t=>i y (Ab _ t)) h.2]
section
variable {R:Nd->Nd->Prop} {T:Nat->Prop} {d:Nat} {P s P' s':bY} {ρ:Nat->Nat}
theorem Cn.aL(E:Cn R T d P s ρ){hP U hS L:Nat->Nat}(B:P.F.Ok (λi=>i<P.N) hP)(oS:s.F.Ok (λi=>i<s.N) hS)(l:Jl P P' hP U)(r:Jl s s' hS L){A A':Nat->Prop}{m x:Nat->Nat}(cp:VI P P' A m)(v:VI s s' A' x)(hA:∀z,A' z↔∃y,y<P.N/\A y/\ρ y=z)(C:s'.N=P'.N+d):
 ∃t,(∀y,y<P.N->t y=ρ y)/\Cn R T d P' s' t/\∀y,P.N<=y->y<P'.N->s.N<=t y/\t y<s'.N/\x (t y)=ρ (m y):=by
 have D:∀y,P.N<=y->y<P'.N->∃z,s.N<=z/\z<s'.N/\x z=ρ (m y):=λy n a=>by
  obtain⟨b,N⟩:=cp.img y n a;exact v.sur _ ((hA _).2 ⟨m y,b,N,rfl⟩)
 obtain⟨f,hf⟩:∃f:Nat->Nat,∀y,P.N<=y->y<P'.N->s.N<=f y/\f y<s'.N/\x (f y)=ρ (m y):=by
  refine⟨λy=>if h:P.N<=y/\y<P'.N then Classical.choose (D y h.1 h.2)else 0,λy n a=> ?_⟩;simp only[n,a,and_self,dite_true];exact Classical.choose_spec (D y n a)
 obtain⟨t,S⟩:∃t:Nat->Nat,t=λy=>if y<P.N then ρ y else f y:=⟨_,rfl⟩;have r1:∀y,y<P.N->t y=ρ y:=λy F=>by rw[S];exact AJ F
 have r2:∀y,P.N<=y->y<P'.N->s.N<=t y/\t y<s'.N/\x (t y)=ρ (m y):=λy n a=>by
  have e:t y=f y:=by rw[S];exact AI (by omega)
  rw[e];exact hf y n a
 have hle:=l.le;have hles:=r.le;have kN:∀y,P.N<=y->y<P'.N->s'.F.kids (t y)=(P'.F.kids y).map t:=λy n a=>by
  obtain⟨b,N,V⟩:=r2 y n a;obtain⟨i1,i2⟩:=cp.img y n a;refine Jt (Q:=λz=>s.N<=z/\z<s'.N) (λy z F u e=>v.inj y z F.1 F.2 u.1 u.2 e) _ _ (λz u=>r.ZM oS b u) (λz u=> ?_) ?_
  .obtain⟨q,w,rfl⟩:=BL.1 u;obtain⟨M,O⟩:=l.ZM B n w;obtain⟨k3,k4,_⟩:=r2 q M O;exact⟨k3,k4⟩
  rw[v.kids _ b N,V,E.kids _ i1,<-cp.kids y n a,DI,DI];exact Ay λq w=>by
   obtain⟨M,O⟩:=l.ZM B n w;exact(r2 q M O).2.2.symm
 refine⟨t,r1,⟨⟨U,l.ok⟩,⟨L,r.ok⟩,C,λi o=> ?_,λi j o p e=> ?_,λi o=> ?_,λi o=> ?_,λi h=>⟨by have:=(E.tp i h).1;omega,by rw[l.par i (E.tp i h).1];exact(E.tp i h).2⟩,λi o W=> ?_⟩,r2⟩
 .rcases Be i P.N with h|h
  .rw[r1 i h];have:=E.lt i h;omega
  exact(r2 i h o).2.1
 .rcases Be i P.N with h|h
  .rcases Be j P.N with a|a
   .rw[r1 i h,r1 j a]at e;exact E.inj i j h a e
   have:=(r2 j a p).1;rw[r1 i h]at e;have:=E.lt i h;omega
  rcases Be j P.N with a|a
  .have:=(r2 i h o).1;rw[r1 j a]at e;have:=E.lt j a;omega
  obtain⟨Y,J,k⟩:=r2 i h o;obtain⟨b1,b2,K⟩:=r2 j a p;rw[e,K]at k;have:=E.inj _ _ (cp.img j a p).1 (cp.img i h o).1 k;exact(cp.inj j i a p h o this).symm
 .rcases Be i P.N with h|h
  .rw[r1 i h,r.kids _ (E.lt i h),l.kids i h,E.kids i h];exact Ay λc I=>(r1 c (E.Y1 I).2).symm
  exact kN i h o
 .rcases Be i P.N with h|h
  .rw[r1 i h,r.ndo _ (E.lt i h),l.ndo i h];exact E.nd i h
  obtain⟨Y,J,k⟩:=r2 i h o;rw[cp.nd i h o,v.nd _ Y J,k];exact E.nd _ (cp.img i h o).1
 rcases Be i P.N with h|h
 .rw[l.par i h]at W;rw[r1 i h,r.par _ (E.lt i h)];rcases E.top i h W with g|⟨b,N,V,g4⟩
  .exact .inl g
  have h0:0<s.N:=by have:=E.lt i h;omega
  refine .inr ⟨b,N,(r.par 0 h0).trans V,λj p=> ?_⟩;rcases Be j P.N with a|a
  .rw[r1 j a];exact g4 j a
  have:=(r2 j a p).1;omega
 obtain⟨Y,J,k⟩:=r2 i h o;left;cases e:s'.F.par (t i)with
 |none=>rfl
 |some q=>
  exfalso;have w:=r.newp oS Y e;have H:=(r.ok.dom _ _ e).1;obtain⟨M,O⟩:=v.img q w H;obtain⟨y,y1,y2,y3⟩:=(hA _).1 O;obtain⟨z,G,Z,z3⟩:=cp.sur y y2;obtain⟨b1,b2,K⟩:=r2 z G Z;have X:q=t z:=v.inj _ _ w H b1 b2 (by rw[K,z3,y3]);have hm:=(r.ok.mem q _).2 e;rw[X,kN z G Z]at hm;obtain⟨c,I,e2⟩:=BL.1 hm;obtain⟨c1,c2⟩:=l.ZM B G I;obtain⟨d1,d2,d3⟩:=r2 c c1 c2;rw[e2,k]at d3;have:=E.inj _ _ (cp.img i h o).1 (cp.img c c1 c2).1 d3;have:=cp.inj i c h o c1 c2 this;rw[<-this]at I;rw[(l.ok.mem z i).1 I]at W;cases W
end
def rv(op:Int)(l:List Nat):List Nat:=if op=2\/op=3 then l.reverse else l
def Gs(op:Int)(last:Bool)(s:bY)(x:Nat)(ws:List Nat):bY:=
 (Ap last s (rv op ws)).row (CK op (Ap last s (rv op ws)).F x) (DE op (Ap last s (rv op ws)).F x (CK op (Ap last s (rv op ws)).F x)) (rv op (CI last s (rv op ws)))
def CV(op:Int)(s:bY)(xs ws:List Nat):Nat->bY
 |0=>s
 |i+1=>Gs op (decide (i+1=xs.length)) (CV op s xs ws i) (xs.getD i 0) ws
theorem D2{l:List Nat}{y:Nat}:y∈rv U l↔y∈l:=by unfold rv;split<;>simp
theorem Rk(op:Int)(l:List Nat):rv op (rv op l)=l:=by unfold rv;split<;>simp
theorem Q0(op:Int)(f:Nat->Nat)(l:List Nat):rv op (l.map f)=(rv op l).map f:=by unfold rv;split<;>simp
theorem Mr{op:Int}{l:List Nat}:(rv op l).Nodup↔l.Nodup:=by
 unfold rv;split
 .unfold List.Nodup;rw[List.pairwise_reverse];exact⟨λh=>h.imp λe=>e.symm,λh=>h.imp λe=>e.symm⟩
 exact Iff.rfl
theorem Sy{op:Int}{l:List Nat}:(rv op l).length=l.length:=by unfold rv;split<;>simp
theorem XU(op:Int)(f:Nat->Nat)(l:List Nat):((rv op l).map f).sum=(l.map f).sum:=by
 unfold rv;split
 .rw[List.map_reverse,List.sum_reverse]
 rfl
theorem PO(h:¬(U=2\/U=3))(last:Bool)(s:bY)(x:Nat)(ws:List Nat):Gs U last s x ws=Bm U last s x ws:=by
 unfold Gs Bm rv;simp only[h,if_false]
theorem Qb(h:¬(U=2\/U=3))(s:bY)(xs ws:List Nat):∀i,CV U s xs ws i=Bl U s xs ws i
 |0=>rfl
 |i+1=>by
  show Gs U _ (CV U s xs ws i) _ ws=Bm U _ (Bl U s xs ws i) _ ws;rw[Qb h s xs ws i,PO h]
theorem Xc{a b y:Nat}(l:F.Up a y)(n:F.Up b y):F.Up a b\/F.Up b a:=by
 induction l with
 |self=>exact .inr n
 | @step y p i r h=>
   cases n with
   |self=>exact .inl (.step i r)
   |step t o=>
    rw[i]at t;injection t with e;subst e;exact h o
theorem WV{F0 G:Fo}{w:Nat}(e:∀p c,c∈F0.kids p->F0.par c=some p)(o:∀p c,G.par c=some p->c∈G.kids p)(i:∀y,F0.Up w y->G.kids y=F0.kids y){y:Nat}(u:G.Up w y):F0.Up w y:=by
 induction u with
 |self=>exact .self
 | @step y p a n t=>
   have:=o _ _ a;rw[i p t]at this;exact .step (e _ _ this) t
theorem SZ{F0:Fo}{s:bY}(m:F0.Ok (λi=>i<n) D)(I:Inv n F0 D f U Y J s h)(l:∀i j (a:i<J.length) (t:j<J.length),i≠j->¬F0.Up J[i] J[j]):
 ∀i j (a:i<J.length) (t:j<J.length),i≠j->∀y,s.F.Up J[i] y->¬s.F.Up J[j] y:=by
 intro i j a t o y u v;have back:∀k (r:k<J.length) z,s.F.Up J[k] z->F0.Up J[k] z:=λk r z u=>WV (λp c=>(m.mem p c).1) (λp c=>(I.ok.mem p c).2) (λy w=>(I.sub _ (AD r) y w).1) u;rcases Xc u v with g|g
 .exact l i j a t o (back i a _ g)
 exact l j i t a (λe=>o e.symm) (back j t _ g)
theorem U6{f:Nat->Nat}{q e:Nat->Bool}:∀l:List Nat,(∀c∈l,e (f c)=q c)->(l.map f).takeWhile e=(l.takeWhile q).map f
 |[],_=>rfl
 |a::l,h=>by
  rw[Bz,List.takeWhile_cons,List.takeWhile_cons,h a Af];cases q a with
  |false=>rfl
  |true=>
   simp only[if_true,Bz];rw[U6 l (λc t=>h c (Ab _ t))]
section
variable {R:Nd->Nd->Prop} {T:Nat->Prop} {d:Nat} {P s:bY} {ρ:Nat->Nat}
theorem Cn.bQ(E:Cn R T d P s ρ){e:Nat->Nat}(t:s.F.Ok (λi=>i<s.N) e):P.F.Ok (λi=>i<P.N) (λi=>e (ρ i)):=by
 obtain⟨n,o⟩:=E.okP;exact⟨o.nodup,o.mem,o.dom,λp c a=>t.ht _ _ (E.par a)⟩
theorem Cn.Y_(E:Cn R T d P s ρ)(hx:x<P.N)(ht:¬T x)(a:Jn U->s.F.par (ρ x)≠none):CK U s.F (ρ x)=ρ (CK U P.F x)/\CK U P.F x<P.N/\(Jn U->P.F.par x≠none):=by
 unfold CK;have i:=E.Ze hx ht;by_cases h:Jn U
 .rw[AJ h,AJ h];have t:=a h;rw[i]at t|-;cases e:P.F.par x with
  |none=>rw[e]at t;exact absurd rfl t
  |some p=>
   obtain⟨n,o⟩:=E.okP;exact⟨rfl,(o.dom _ _ e).1,λ_=>by simp⟩
 rw[AI h,AI h];exact⟨rfl,hx,λt=>absurd t h⟩
theorem Cn.Y6(E:Cn R T d P s ρ){op:Int}(hx:x<P.N)(t:p<P.N):DE op s.F (ρ x) (ρ p)=DE op P.F x p:=by
 unfold DE;rw[E.kids p t,U6 (q:=λc=> !decide (c=x)) _ (λc a=>by
  have o:(ρ c=ρ x)↔c=x:=⟨E.inj c x (E.Y1 a).2 hx,λe=>by rw[e]⟩;simp[o]),Aq]
theorem Cn.ah(E:Cn R T d P s ρ){q z:Nat}(h:q<P.N)(u:s.F.Up (ρ q) z):∃y,y<P.N/\ρ y=z:=by
 obtain⟨f,o⟩:=E.okS;induction u with
 |self=>exact⟨q,h,rfl⟩
 | @step y p r m n=>
   obtain⟨i,t,rfl⟩:=n;have a:=(o.mem _ _).2 r;rw[E.kids i t]at a;obtain⟨c,l,e⟩:=BL.1 a;exact⟨c,(E.Y1 l).2,e⟩
theorem Cn.inn(E:Cn R T d P s ρ){F0:Fo}{nd0:Nat->Nd}(o0:F0.Ok (λi=>i<n) D)(I:Inv n F0 D nd0 U (Y.map ρ) (J.map ρ) s h)(hh:∀w∈J.map ρ,w<n/\D w<=600)
 (ha:∀i j (W:i<(J.map ρ).length) (M:j<(J.map ρ).length),i≠j->¬F0.Up (J.map ρ)[i] (J.map ρ)[j])(o:∀w∈J,w<P.N)(hwn:J.Nodup)(hwt:∀w∈J,¬T w)(hN:s.N<=600)(K:P.op=false)(last:Bool)(N:(Ap last s (J.map ρ)).op=false):
 ∃m,(∀y,y<P.N->m y=ρ y)/\Cn R T d (Ap last P (rv U J)) (Ap last s (J.map ρ)) m/\CI last s (J.map ρ)=(rv U (CI last P (rv U J))).map m/\(Ap last P (rv U J)).op=false/\P.N<=(Ap last P (rv U J)).N/\(∀r∈rv U (CI last P (rv U J)),r<(Ap last P (rv U J)).N/\¬T r):=by
 obtain⟨hP,oP⟩:=E.okP;cases last with
 |true=>
  have e1:=GL oP (rv U J);have e2:=GL I.ok (J.map ρ);have E1:=E.Yx (xs:=rv U J) (λx hx=>o x (D2.1 hx));have f1:Ap true P (rv U J)={P with F:=CB P.F (rv U J)}:=by
   have hF:(Ap true P (rv U J)).F=CB P.F (rv U J):=Fo.Yv (λi=>by rw[e1.par,DL]) (λi=>by rw[e1.kids,Dm]);have V:=e1.N;have B:=e1.nd;have G:=e1.op;generalize Ap true P (rv U J)=z at hF V B G;obtain⟨_,_,_,_⟩:=z;cases hF;cases V;cases B;cases G
   rfl
  have f2:Ap true s (J.map ρ)={s with F:=CB s.F ((rv U J).map ρ)}:=by
   have hF:(Ap true s (J.map ρ)).F=CB s.F ((rv U J).map ρ):=Fo.Yv (λi=>by rw[e2.par,DL,<-Q0];simp only[D2]) (λi=>by rw[e2.kids,Dm,<-Q0];simp only[D2]);have V:=e2.N;have B:=e2.nd;have G:=e2.op;generalize Ap true s (J.map ρ)=z at hF V B G;obtain⟨_,_,_,_⟩:=z;cases hF;cases V;cases B;cases G
   rfl
  refine⟨ρ,λ_ _=>rfl,?_,?_,?_,?_,?_⟩
  .rw[f1,f2];exact E1
  .show J.map ρ=(rv U (rv U J)).map ρ;rw[Rk]
  .rw[e1.op];exact K
  .rw[e1.N];exact AG _
  intro r hr;have hr:r∈rv U (rv U J):=hr;rw[Rk]at hr;rw[e1.N];exact⟨o r hr,hwt r hr⟩
 |false=>
  have oH:=E.bQ I.ok;have O:∀w∈J,h (ρ w)<=600:=λw l=>by
   have hm:=BK (f:=ρ) l;rw[(I.sub _ hm _ .self).2];exact(hh _ hm).2
  have hlt:∀w∈J.map ρ,w<s.N/\h w<=600:=λw l=>by
   obtain⟨q,p,rfl⟩:=BL.1 l;exact⟨E.lt q (o q p),O q p⟩
  have X:∀w∈rv U J,w<P.N/\(λi=>h (ρ i)) w<=600:=λw l=>⟨o w (D2.1 l),O w (D2.1 l)⟩;have hds:=SZ o0 I ha;have hne:∀a∈J,∀b∈J,a≠b->∀y,s.F.Up (ρ a) y->¬s.F.Up (ρ b) y:=λa ha2 b hb2 hab y=>by
   obtain⟨i,W,rfl⟩:=An ha2;obtain⟨j,M,rfl⟩:=An hb2;have:=hds i j (by simpa using W) (by simpa using M) (λe=>hab (by subst e;rfl)) y;simpa using this
  have Z:∀i j (W:i<(rv U J).length) (M:j<(rv U J).length),i≠j->∀y,P.F.Up (rv U J)[i] y->¬P.F.Up (rv U J)[j] y:=λi j W M hij y u v=>by
   have ma:=D2.1 (AD W);have mb:=D2.1 (AD M);have g:=u.ZO oH (o _ ma);exact hne _ ma _ mb (λe=>hij ((C0 (Mr.2 hwn)).1 e)) (ρ y) ((E.up (o _ ma) g).1 u) ((E.up (o _ mb) g).1 v)
  obtain⟨hS',mS,k⟩:=T3 I.ok hlt hds N;have ee:∀w∈J,(s.F.all h (ρ w)).length=(P.F.all (λi=>h (ρ i)) w).length:=λw l=>by
   unfold Fo.all;rw[E.all _ w (o w l),Aq]
  have A:((J.map ρ).map λw=>(s.F.all h w).length).sum=((rv U J).map λw=>(P.F.all (λi=>h (ρ i)) w).length).sum:=by
   rw[XU,DI];congr 1;exact Ay λw l=>ee w l
  have h6:=(Hk _ _ _ hN N).2;have hnum:=E.num;have et:P.N+((rv U J).map λw=>(P.F.all (λi=>h (ρ i)) w).length).sum<=600:=by
   rw[<-A];have:=k.len;omega
  have S:(Ap false P (rv U J)).op=false:=by
   have:=T4 oH X Z K et (rv U J).length (AG _)
   rwa [AU]at this
  obtain⟨hP',mP,L⟩:=T3 oH X Z S;obtain⟨m,r1,E2,r2⟩:=E.aL oH I.ok L.old k.old L.cp k.cp (λz=>⟨λ⟨w,l,u⟩=>by
   obtain⟨q,p,rfl⟩:=BL.1 l;obtain⟨y,g,rfl⟩:=E.ah (o q p) u;exact⟨y,g,⟨q,D2.2 p,(E.up (o q p) g).2 u⟩,rfl⟩,λ⟨y,g,⟨w,l,u⟩,e⟩=>by
   subst e;have l:=D2.1 l;exact⟨ρ w,BK l,(E.up (o w l) g).1 u⟩⟩) (by rw[k.len,L.len,<-A];omega)
  have c:=L.root;refine⟨m,r1,E2,?_,S,L.old.le,λr hr=> ?_⟩
  .refine Jt (Q:=λz=>s.N<=z/\z<(Ap false s (J.map ρ)).N) (λy z g H e=>k.cp.inj y z g.1 g.2 H.1 H.2 e) _ _ (λz H=>⟨(k.root z H).1,(k.root z H).2.1⟩) (λz H=> ?_) ?_
   .obtain⟨q,p,rfl⟩:=BL.1 H;obtain⟨k1,C,_⟩:=c q (D2.1 p);obtain⟨k3,k4,_⟩:=r2 q k1 C;exact⟨k3,k4⟩
   rw[k.row,DI];have:∀q∈rv U (CI false P (rv U J)),(mS∘m) q=(ρ∘mP) q:=λq p=>by
    obtain⟨k1,C,_⟩:=c q (D2.1 p);exact(r2 q k1 C).2.2
   rw[Ay this,<-DI,<-Q0,L.row,Rk]
  obtain⟨k1,C,_⟩:=c r (D2.1 hr);exact⟨C,λt=>by have:=(E.tp r t).1;omega⟩
end
theorem NY(last:Bool)(s:bY)(ws:List Nat)(h:s.op=true):(Ap last s ws).op=true:=
 IG _ (λs k e=>by cases last with|true=>exact e|false=>exact Gd 600 s k e) ws s h
theorem Nb(op:Int)(s:bY)(xs ws:List Nat)(i:Nat)(h:(Bl op s xs ws i).op=true):∀k,(Bl op s xs ws (i+k)).op=true
 |0=>h
 |k+1=>NY _ (Bl op s xs ws (i+k)) ws (Nb op s xs ws i h k)
section
variable {R:Nd->Nd->Prop} {T:Nat->Prop} {d:Nat} {P s:bY} {ρ:Nat->Nat}
theorem Cn.one(E:Cn R T d P s ρ){F0:Fo}{h0:Nat->Nat}{nd0:Nat->Nd}{op:Int}(A:op=1\/op=2\/op=4\/op=3){xs ws:List Nat}(o0:F0.Ok (λi=>i<n) h0)(I:Inv n F0 h0 nd0 op (xs.map ρ) (ws.map ρ) s h)(hh:∀w∈ws.map ρ,w<n/\h0 w<=600)
 (ha:∀i j (hi:i<(ws.map ρ).length) (hj:j<(ws.map ρ).length),i≠j->¬F0.Up (ws.map ρ)[i] (ws.map ρ)[j])(K:∀x∈xs.map ρ,x<n)(V:∀x∈xs,x<P.N)(B:∀x∈xs,¬T x)(b:∀w∈ws,w<P.N)(v:ws.Nodup)(J:∀w∈ws,¬T w)(hN:s.N<=600)(X:P.op=false)(last:Bool)(hx:x∈xs)(z:(Ap last s (ws.map ρ)).op=false):
 ∃t,(∀y,y<P.N->t y=ρ y)/\Cn R T d (Gs op last P x ws) (Bm op last s (ρ x) (ws.map ρ)) t/\(Gs op last P x ws).op=false/\P.N<=(Gs op last P x ws).N/\CI last s (ws.map ρ)=(rv op (CI last P (rv op ws))).map t:=by
 obtain⟨t,r1,o,D,O,k,q⟩:=E.inn o0 I hh ha b v J hN X last z;have Q:=BK (f:=ρ) hx;have Z:(ws.map ρ).Nodup:=(E.nodup b).2 v;obtain⟨h2,l1,l2,q1,H,C,q4,q5,q6,U,q8⟩:=EM A I Z hh K Q last;have l:=V x hx;have m:x<(Ap last P (rv op ws)).N:=AR l k;have S:Jn op->(Ap last s (ws.map ρ)).F.par (t x)≠none:=λhb e=>by
  rw[r1 x l]at e;rcases q4 with g|g|g|g
  .rcases hb with rfl|rfl<;>simp at g
  .rcases hb with rfl|rfl<;>simp at g
  .rw[e]at g;simp at g
  rw[e]at g;simp at g
 obtain⟨F,c,k3⟩:=o.Y_ m (B x hx) S;have M:=o.Y6 (op:=op) m c;rw[r1 x l]at F M;rw[F]at H C q6 U;rw[M]at C;obtain⟨p,W⟩:∃p,p=CK op (Ap last P (rv op ws)).F x:=⟨_,rfl⟩;have Y:Gs op last P x ws=(Ap last P (rv op ws)).row p (DE op (Ap last P (rv op ws)).F x p) (rv op (CI last P (rv op ws))):=by rw[W];rfl
 have eS:Bm op last s (ρ x) (ws.map ρ)=(Ap last s (ws.map ρ)).row (t p) (DE op (Ap last P (rv op ws)).F x p) ((rv op (CI last P (rv op ws))).map t):=by
  rw[<-D,W,<-M];unfold Bm;rw[F]
 rw[<-W]at H C q6 U c;rw[o.kids p c]at H;have ee:((Ap last P (rv op ws)).F.kids p).take (DE op (Ap last P (rv op ws)).F x p)++((Ap last P (rv op ws)).F.kids p).drop (DE op (Ap last P (rv op ws)).F x p)=(Ap last P (rv op ws)).F.kids p:=Av _ _;have N:(((Ap last P (rv op ws)).F.kids p).take (DE op (Ap last P (rv op ws)).F x p)).length=DE op (Ap last P (rv op ws)).F x p:=by
  rw[At];have:=congrArg Dw H;rw[Aq,AN]at this;omega
 have a:=o.row (p:=p) c (L:=rv op (CI last P (rv op ws))) ee.symm (λr hr=>by
  obtain⟨G,a2⟩:=q r hr;have hm:=BK (f:=t) hr;rw[<-D]at hm;obtain⟨g1,g2,g3,g4⟩:=U _ hm;exact⟨G,o.Z7 G g2,a2,λu=>g4 ((o.up G c).1 u)⟩) (by
   rw[D]at q8;exact(o.nodup (λr hr=>(q r hr).1)).1 q8)
 rw[N]at a;refine⟨t,r1,?_,?_,?_,D⟩
 .rw[Y,eS];exact a
 .rw[Y];exact O
 rw[Y];exact k
theorem Cn.many(E:Cn R T d P s ρ)(N:Df r s){op:Int}(u:op=1\/op=2\/op=4\/op=3)(hx:∀x∈Y.map ρ,x<r)(S:∀x∈J.map ρ,x<r)(hk:Dl op s (Y.map ρ) (J.map ρ))(g:∀x∈Y,x<P.N)(D:∀x∈Y,¬T x)(v:∀w∈J,w<P.N)(U:J.Nodup)(L:∀w∈J,¬T w)(C:P.op=false)
 (z:(Bl op s (Y.map ρ) (J.map ρ) (Y.map ρ).length).op=false):∀i,i<=Y.length->
 ∃t,(∀y,y<P.N->t y=ρ y)/\Cn R T d (CV op P Y J i) (Bl op s (Y.map ρ) (J.map ρ) i) t/\(CV op P Y J i).op=false/\P.N<=(CV op P Y J i).N:=by
 obtain⟨H,Q,Z⟩:=N.ZP;have hI:=KK N u hx S hk Q Z;have hsle:=N.le;have q:∀i,i<=(Y.map ρ).length->(Bl op s (Y.map ρ) (J.map ρ) i).op=false:=λi hi=>by
  cases e:(Bl op s (Y.map ρ) (J.map ρ) i).op with
  |false=>rfl
  |true=>
   have:=Nb op s (Y.map ρ) (J.map ρ) i e ((Y.map ρ).length-i);rw[show i+((Y.map ρ).length-i)=(Y.map ρ).length by omega,z]at this;cases this
 intro i;induction i with
 |zero=>intro _;exact⟨ρ,λ_ _=>rfl,E,C,AG _⟩
 |succ i ih=>
  intro hi;obtain⟨f,r1,Ei,A,l⟩:=ih (by omega);obtain⟨h,I,_⟩:=hI i (by rw[Aq];omega);have ex:Y.map ρ=Y.map f:=Ay λx hx=>(r1 x (g x hx)).symm;have m:J.map ρ=J.map f:=Ay λx hx=>(r1 x (v x hx)).symm;have h6:=(Ma op s (Y.map ρ) (J.map ρ) i N.few (q i (by rw[Aq];omega))).2;have M:=q (i+1) (by rw[Aq];omega);have K:(Y.map ρ).getD i 0=f Y[i]:=by
   rw[Ae,List.getElem?_map,AK (by omega),As,BE];exact(r1 _ (g _ (AD _))).symm
  have p:Y.getD i 0=Y[i]:=by
   rw[Ae,AK (by omega),BE]
  have c:(Ap (decide (i+1=(Y.map ρ).length)) (Bl op s (Y.map ρ) (J.map ρ) i) (J.map ρ)).op=false:=M;have j:∀w∈J.map ρ,w<s.N/\H w<=600:=λw k=>⟨by have:=S w k;omega,Z _ (by have:=S w k;omega)⟩;obtain⟨hk1,F,_⟩:=hk;have G:=F.1;have step:=Ei.one (op:=op) (xs:=Y) (ws:=J) (n:=s.N) (F0:=s.F) (h0:=H) (nd0:=s.nd) (h:=h) u Q (by rw[<-ex,<-m];exact I) (by rw[<-m];exact j) (by
   intro a b ha hb B;have V:a<(J.map ρ).length:=by rw[m];exact ha
   have W:b<(J.map ρ).length:=by rw[m];exact hb
   have:=G a b V W B;simp only[m]at this;exact this) (by rw[<-ex];exact λx o=>by have:=hx x o;omega) (λx o=>AR (g x o) l) D (λx o=>AR (v x o) l) U L h6 A (decide (i+1=Y.length)) (x:=Y[i]) (AD _) (by
   rw[<-m];rw[Aq]at c;exact c)
  obtain⟨t,r2,E2,O,hle2,_⟩:=step;refine⟨t,λy X=>(r2 y (AR X l)).trans (r1 y X),?_,?_,?_⟩
  .show Cn R T d (Gs op (decide (i+1=Y.length)) (CV op P Y J i) (Y.getD i 0) J) (Bm op (decide (i+1=(Y.map ρ).length)) (Bl op s (Y.map ρ) (J.map ρ) i) ((Y.map ρ).getD i 0) (J.map ρ)) t;rw[K,p,Aq];rw[<-m]at E2;exact E2
  .show(Gs op (decide (i+1=Y.length)) (CV op P Y J i) (Y.getD i 0) J).op=false;rw[p];exact O
  show P.N<=(Gs op (decide (i+1=Y.length)) (CV op P Y J i) (Y.getD i 0) J).N;rw[p];omega
end
theorem Sa{F0:Fo}(F:U=1\/U=2\/U=4\/U=3)(P:F0.Ok (λi=>i<n) D)(I:Inv n F0 D f U Y J s h)(V:∀w∈J,w<n/\D w<=600)(H:∀x∈Y,x<n)(hx:x∈Y):
 ∃O,Inv n F0 D f U Y J (Gs U false s x J) O:=by
 obtain⟨ha,t⟩:=Lr (ws:=rv U J) (I.mono λw h=>D2.1 h) (λw h=>V w (D2.1 h)) (rv U J).length;rw[AU]at t;obtain⟨a,K⟩:∃a,a=Ap false s (rv U J):=⟨_,rfl⟩;have b:Gs U false s x J=a.row (CK U a.F x) (DE U a.F x (CK U a.F x)) (rv U (CI false s (rv U J))):=by rw[K];rfl
 rw[<-K]at t;have l:∀z∈Y,z<s.N:=λz k=>by have:=H z k;have:=I.le;omega
 have m:=l x hx;have E:Jn U->a.F.par x≠none:=λe=>by rw[t.par x m];exact I.par e x hx
 obtain⟨T,M⟩:=IM t.ok (AR m t.le) E;obtain⟨l1,l2,B,A,hIn,-⟩:=Fm U F t.ok E;have c:s.F.Up (CK U a.F x) x:=(Dt I.ok t.par m).2 M;have g:CK U a.F x<s.N:=c.Y4 I.ok m;obtain⟨p,hp⟩:∃p,p=CK U a.F x:=⟨_,rfl⟩;rw[<-hp]at b B A T c g;have R:∀w∈J,¬s.F.Up w p:=λw o u=>I.up w o x hx (u.tr c);have hL:∀r∈rv U (CI false s (rv U J)),r<a.N/\a.F.par r=none/\¬a.F.Up r p:=λr hr=>by
  obtain⟨r1,r2,r3⟩:=t.root r (D2.1 hr);refine⟨r2,r3,λu=> ?_⟩;have:=((Dt I.ok t.par g).2 u).Y4 I.ok g;omega
 obtain⟨O,q,W⟩:=F8 t.ok B T hL (Mr.2 t.nodup);rw[A]at q;have C:∀w∈J,∀y,F0.Up w y->s.F.Up w y:=λw o y u=>U9 P.mem I.ok.mem (λy Z=>(I.sub w o y Z).1) u;have L:∀w∈J,∀y,F0.Up w y->y<s.N:=λw o y u=>by
  have Q:=P.Y7 (S:=λi=>i<n) (V w o).1 u;have:=I.le;exact AR Q this
 refine⟨O,?_⟩;rw[b];refine⟨q,AH I.le t.le,λw o y u=> ?_,λw o z k=> ?_,λe z k=> ?_,t.nds⟩
 .have G:=L w o y u;have X:=C w o y u;have j:¬s.F.Up y p:=λv=>R w o (X.tr v);have N:¬a.F.Up y p:=λv=>j ((Dt I.ok t.par g).2 v);have e1:(a.row p (DE U a.F x p) (rv U (CI false s (rv U J)))).F.kids y=a.F.kids y:=AI λe=>j (by rw[e];exact .self);rw[e1,t.kids y G,W y N,t.hold y G];exact I.sub w o y u
 .intro u;have d:=l z k;have hr:∀r∈rv U (CI false s (rv U J)),¬a.F.Up r z:=λr hr v=>by
   have Q:=(t.root r (D2.1 hr)).1;have:=((Dt I.ok t.par d).2 v).Y4 I.ok d;omega
  exact I.up w o z k ((Dt I.ok t.par d).2 ((Uq hr w).2 u))
 have d:=l z k;show(if z∈rv U (CI false s (rv U J))then some p else a.F.par z)≠none;split
 .simp
 rw[t.par z d];exact I.par e z k
theorem T6{F0:Fo}(a:U=1\/U=2\/U=4\/U=3)(o:F0.Ok (λi=>i<n) D)(g:n<=600)(I:Inv n F0 D f U Y J s h)(r:∀w∈J,w<n/\D w<=600)(e:∀x∈Y,x<n)(y:s.N<=1200):∀i,i<Y.length->∃d,Inv n F0 D f U Y J (CV U s Y J i) d/\(CV U s Y J i).N<=1200+i*J.length:=by
 intro i;induction i with
 |zero=>intro _;exact⟨h,I,by rw[Nat.zero_mul];exact y⟩
 |succ i m=>
  intro k;obtain⟨d,c,p⟩:=m (by omega);have e1:decide (i+1=Y.length)=false:=decide_eq_false (by omega);have e2:Y.getD i 0=Y[i]'(by omega):=by rw[Ae,AK (by omega),BE]
  have u:CV U s Y J (i+1)=Gs U false (CV U s Y J i) (Y[i]'(by omega)) J:=by
   show Gs U (decide (i+1=Y.length)) _ (Y.getD i 0) J=_;rw[e1,e2]
  obtain⟨b,v⟩:=Sa a o c r e (AD (show i<Y.length by omega));refine⟨b,by rw[u];exact v,?_⟩;have:=Di (ws:=rv U J) o g (c.mono λw h=>D2.1 h) (λw h=>r w (D2.1 h)) (by omega) p (rv U J).length;rw[AU]at this;have t:=Sy (op:=U) (l:=J);rw[t]at this;rw[u,Nat.succ_mul];show(Ap false (CV U s Y J i) (rv U J)).N<=_;omega
theorem GS{l:List Nat}:l.reverse.Nodup↔l.Nodup:=by
 have:=Mr (op:=2) (l:=l);unfold rv at this;simpa using this
theorem Pg(F:Fo)(p:Nat){l1 l2:List Nat}(t:F.kids p=l1++l2)(L:List Nat)(x:Nat):(F.Yr p l1.length L).put p l1.length x=F.Yr p l1.length (x::L):=by
 refine Fo.Yv (λi=> ?_) (λq=> ?_)
 .show(if i=x then some p else if i∈L then some p else F.par i)=if i∈x::L then some p else F.par i;by_cases e:i=x
  .rw[AJ e,AJ (by rw[e];exact Af)]
  rw[AI e];by_cases h:i∈L
  .rw[AJ h,AJ (Ab _ h)]
  rw[AI h,AI (by simp[e,h])]
 by_cases e:q=p
 .subst e;have o:=DU F q t L;rw[DU F q t (x::L)];show(if q=q then G6 ((F.Yr q l1.length L).kids q) l1.length x else _)=_;rw[AJ rfl,o,Bw,Dd];simp
 show(if q=p then _ else(F.Yr p l1.length L).kids q)=_;rw[AI e];have a:(F.Yr p l1.length L).kids q=F.kids q:=AI e;have b:(F.Yr p l1.length (x::L)).kids q=F.kids q:=AI e;rw[a,b]
def Bu(op:Int)(last:Bool)(s:bY)(x:Nat)(ws:List Nat):bY:=
 (Ap last s ws).row (CK op (Ap last s ws).F x) (DE op (Ap last s ws).F x (CK op (Ap last s ws).F x)) (CI last s ws).reverse
theorem Np(op:Int)(last:Bool)(s:bY)(x:Nat):Bu op last s x []=s:=by
 cases last<;>exact Rh s _ _
theorem No(h:U=2\/U=3)(last:Bool)(s:bY)(x:Nat)(ws:List Nat):Bu U last s x ws.reverse=Gs U last s x ws:=by
 unfold Bu Gs rv;simp only[h,if_true]
theorem Mh{F0:Fo}(hop:U=2\/U=3)(I:Inv n F0 D f U Y J s h)(hn:J.Nodup)(hh:∀w∈J,w<n/\D w<=600)(G:∀x∈Y,x<n)(hx:x∈Y)(last:Bool){j:Nat}(hj:j<J.length):
 (∃hP,(Bu U last s x (J.take j)).F.Ok (λi=>i<(Bu U last s x (J.take j)).N) hP/\(last=false->hP J[j]<=600)/\J[j]<(Bu U last s x (J.take j)).N/\x<(Bu U last s x (J.take j)).N/\n<=(Bu U last s x (J.take j)).N/\∀y,y<(Bu U last s x (J.take j)).N->∃z,z<n/\(Bu U last s x (J.take j)).nd y=f z)/\
 ∃H p l1 l2,(DB last (Bu U last s x (J.take j)) J[j]).F.Ok (λi=>i<(DB last (Bu U last s x (J.take j)) J[j]).N) H/\x<(DB last (Bu U last s x (J.take j)) J[j]).N/\(if last then J[j]else(Bu U last s x (J.take j)).N)<(DB last (Bu U last s x (J.take j)) J[j]).N/\(DB last (Bu U last s x (J.take j)) J[j]).F.par (if last then J[j]else(Bu U last s x (J.take j)).N)=none/\p<(DB last (Bu U last s x (J.take j)) J[j]).N/\p≠(if last then J[j]else(Bu U last s x (J.take j)).N)/\
  (DB last (Bu U last s x (J.take j)) J[j]).F.kids p=l1++l2/\(U=2->p=x/\l1=[])/\(U=3->(DB last (Bu U last s x (J.take j)) J[j]).F.par x=some p/\l1.getLast? =some x)/\
  {DB last (Bu U last s x (J.take j)) J[j]with F:=(DB last (Bu U last s x (J.take j)) J[j]).F.put p l1.length (if last then J[j]else(Bu U last s x (J.take j)).N)}=Bu U last s x (J.take (j+1)):=by
 have C:U=1\/U=2\/U=4\/U=3:=by rcases hop with h|h<;>simp[h]
 have d:∀m,∀w∈J.take m,w∈J:=λm w hw=>Ci hw;have hh':∀m,∀w∈J.take m,w<n/\D w<=600:=λm w hw=>hh w (d m w hw);have hn':∀m,(J.take m).Nodup:=λm=>hn.sublist (List.take_sublist m J);have N:=AD hj;obtain⟨hw1,hw2⟩:=hh _ N;have hxn:=G x hx;have hle:=I.le;have v:x<s.N:=by omega
 have P:J[j]<s.N:=by omega
 have W:x≠J[j]:=λe=>I.up _ N x hx (by rw[e];exact .self);obtain⟨a,K⟩:∃a,a=Ap last s (J.take j):=⟨_,rfl⟩;obtain⟨L,hL⟩:∃L,L=CI last s (J.take j):=⟨_,rfl⟩;obtain⟨b,hB⟩:∃b,b=Ap last s (J.take (j+1)):=⟨_,rfl⟩;have g:b=if last then a.cut J[j]else CZ 600 a J[j]:=by rw[hB,K,AF hj,DW]
 have hL2:CI last s (J.take (j+1))=L++[if last then J[j]else a.N]:=by rw[K,hL,AF hj,En]
 obtain⟨ha,k1,k2,p1,p2,p3,p4,p5,p6,p7,p8⟩:=EM C (I.mono (d j)) (hn' j) (hh' j) G hx last;obtain⟨hb,l1,l2,q1,X,Q,q4,q5,q6,S,q8⟩:=EM C (I.mono (d (j+1))) (hn' (j+1)) (hh' (j+1)) G hx last;rw[<-K]at p1 p2 p3 p4 p5 p6 p7;rw[<-hL]at p7 p8;rw[<-hB]at q1 X Q q4 q5 q6 S;rw[hL2]at S q8;have t:Bu U last s x (J.take j)=a.row (CK U a.F x) (DE U a.F x (CK U a.F x)) L.reverse:=by rw[K,hL];rfl
 have O:Bu U last s x (J.take (j+1))=b.row (CK U b.F x) (DE U b.F x (CK U b.F x)) (L++[if last then J[j]else a.N]).reverse:=by rw[hB,<-hL2];rfl
 have hfa:n<=a.N/\a.F.par x=s.F.par x/\J[j]<a.N/\(last=false->¬a.F.Up J[j] (CK U a.F x))/\(∀y,y<a.N->∃z,z<n/\a.nd y=f z)/\∃o,a.F.Ok (λi=>i<a.N) o/\(last=false->o J[j]<=600):=by
  cases last
  .obtain⟨o,A⟩:=Lr I hh j;rw[<-K]at A;have B:Jn U->a.F.par x≠none:=λe=>by rw[A.par x v];exact I.par e x hx
   obtain⟨hpN,hpU⟩:=IM A.ok (AR v A.le) B;have hUs:=(Dt I.ok A.par v).2 hpU;have hps:=hUs.Y4 I.ok v;exact⟨AH hle A.le,A.par x v,AR P A.le,λ_ u=>I.up _ N x hx (((Dt I.ok A.par hps).2 u).tr hUs),A.nds,o,A.ok,λ_=>by rw[A.hold _ P,(I.sub _ N _ .self).2];exact hw2⟩
  have T:=GL I.ok (J.take j);rw[<-K]at T;have hxw2:x∉J.take j:=λH=>I.up x (d j x H) x hx .self;exact⟨by rw[T.N];exact hle,by rw[T.par,AI hxw2],by rw[T.N];exact P,(λe=>by cases e),(λy hy=>by rw[T.nd];exact I.nds y (by rw[<-T.N];exact hy)),h,T.ok,(λe=>by cases e)⟩
 obtain⟨f0,f1,f2,f3,f4,o,f5,f6⟩:=hfa;have B:Jn U->a.F.par x≠none:=λe=>by rw[f1];exact I.par e x hx
 obtain⟨p,hp⟩:∃p,p=CK U a.F x:=⟨_,rfl⟩;rw[<-hp]at p2 p3 p4 p6 p7 f3 t;have hfb:CK U b.F x=p/\(Bu U last s x (J.take j)).N=a.N/\DB last (Bu U last s x (J.take j)) J[j]=b.row p (DE U b.F x p) L.reverse:=by
  have hLa:∀r∈L,r<a.N:=λr hr=>(p7 r hr).1;cases last
  .simp only[Bv,if_false]at g;obtain⟨hb',E⟩:=DK 600 a o J[j] f5 f2 (f6 rfl);rw[<-g]at E;have e1:CK U b.F x=p:=by rw[hp];unfold CK;rw[E.par x p5]
   have e2:DE U b.F x p=DE U a.F x p:=by unfold DE;rw[E.kids p p6]
   refine⟨e1,by rw[t];rfl,?_⟩;rw[e2,g,t];exact RP 600 a o J[j] p _ L.reverse f5 f2 (f6 rfl) (f3 rfl) p6 (λr hr=>hLa r (CA.1 hr))
  simp only[if_true]at g;have e0:b.F=a.F.cut J[j]:=by rw[g];rfl
  have e1:CK U b.F x=p:=by rw[hp];unfold CK;rw[e0];show(if Jn U then(if x=J[j]then none else a.F.par x).getD 0 else x)=_;rw[AI W]
  refine⟨e1,by rw[t];rfl,?_⟩;have hwL:J[j]∉L.reverse:=λH=>by
   rw[CA,hL]at H;obtain⟨q,hq,e⟩:=An (show J[j]∈J.take j from H);rw[F_]at e;have:=(C0 hn).1 e;simp only[At]at hq;omega
  have hcut:∃m1 m2,a.F.kids p=m1++m2/\m1.length=DE U a.F x p/\(m1.filter λc=> !decide (c=J[j])).length=DE U b.F x p:=by
   have e2:(b.F.kids p).takeWhile (λc=> !decide (c=x))=((a.F.kids p).takeWhile λc=> !decide (c=x)).filter λc=> !decide (c=J[j]):=by rw[e0];exact Nz (Ne.symm W) _
   rcases hop with h|h
   .subst h;exact⟨[],a.F.kids p,rfl,rfl,rfl⟩
   subst h;have hpa:a.F.par x=some p:=by
    have:=B (.inl rfl);rw[hp];unfold CK;rw[AJ (.inl rfl)];cases e:a.F.par x with
    |none=>exact absurd e this
    |some q=>rfl
   have hxm:=(f5.mem p x).2 hpa;have hsp:=I8 x (a.F.kids p);have Z:=Ob hxm;cases e:(a.F.kids p).dropWhile (λc=> !decide (c=x))with
   |nil=>rw[e]at Z;simp at Z
   |cons y l=>
    rw[e]at Z hsp;simp only[List.head?_cons,Option.some.injEq]at Z;subst Z;refine⟨(a.F.kids p).takeWhile (λc=> !decide (c=y))++[y],l,by rw[Bw];exact hsp,?_,?_⟩
    .unfold DE;rw[AI (by decide),AJ rfl,AN];rfl
    unfold DE;rw[AI (by decide),AJ rfl,e2,Ds,AN];simp[W]
  obtain⟨m1,m2,hm1,V,hm3⟩:=hcut;have e5:=Rg (F:=a.F) (p:=p) (k:=DE U a.F x p) (L:=L.reverse) (w:=J[j]) hm1 V hwL;rw[t,<-hm3,g];show{a.row p (DE U a.F x p) L.reverse with F:=(a.F.Yr p (DE U a.F x p) L.reverse).cut J[j]}=_;rw[e5];rfl
 obtain⟨g1,g2,g3⟩:=hfb;rw[g1]at X Q q4 q6 S O;obtain⟨hP',okP,hhP⟩:=F8 p1 p2 p6 (L:=L.reverse) (λr hr=>by have hr:=CA.1 hr;exact⟨(p7 r hr).1,(p7 r hr).2.1,(p7 r hr).2.2.2⟩) (GS.2 p8);obtain⟨hP2,R,hhP2⟩:=F8 f5 p2 p6 (L:=L.reverse) (λr hr=>by have hr:=CA.1 hr;exact⟨(p7 r hr).1,(p7 r hr).2.1,(p7 r hr).2.2.2⟩) (GS.2 p8);rw[p3]at R;have q8':L.Nodup:=(BA.1 q8).1;obtain⟨H,okM,-⟩:=F8 q1 X q6 (L:=L.reverse) (λr hr=>by have hr:=CA.1 hr;exact⟨(S r (GU _ hr)).1,(S r (GU _ hr)).2.1,(S r (GU _ hr)).2.2.2⟩) (GS.2 q8');rw[Q]at okM;obtain⟨r,hr⟩:∃r,r=if last then J[j]else a.N:=⟨_,rfl⟩;have hr':(if last then J[j]else(Bu U last s x (J.take j)).N)=r:=by rw[hr,g2]
 rw[hr',g3,O,<-hr];rw[<-hr]at S q8;have M:=S r (by simp);have hrL:r∉L:=λV=>by
  have:=(BA.1 q8).2.2 r V r (by simp);exact this rfl
 refine⟨⟨hP2,by rw[t];exact R,λe=>by rw[hhP2 _ (f3 e)];exact f6 e,by rw[g2];exact f2,by rw[g2];exact p5,by rw[g2];exact f0,λy hy=>by rw[t];exact f4 y (by rw[<-g2];exact hy)⟩,H,p,l1,L.reverse++l2,okM,q5,M.1,?_,q6,M.2.2.1,?_,?_,?_,?_⟩
 .show(if r∈L.reverse then some p else b.F.par r)=none;rw[AI (λh=>hrL (CA.1 h))];exact M.2.1
 .show(b.F.Yr p (DE U b.F x p) L.reverse).kids p=_;rw[<-Q,DU _ _ X,Bw]
 .intro e;rcases q4 with h|h|h|h
  .omega
  .exact⟨h.2.1,h.2.2⟩
  .omega
  have:=h.1;omega
 .intro e;rcases q4 with h|h|h|h
  .omega
  .omega
  .omega
  refine⟨?_,h.2.2⟩;show(if x∈L.reverse then some p else b.F.par x)=some p;split
  .rfl
  exact h.2.1
 show{b.row p (DE U b.F x p) L.reverse with F:=(b.F.Yr p (DE U b.F x p) L.reverse).put p l1.length r}=_;rw[<-Q,Pg _ _ X,List.reverse_append];rfl
theorem Br.ZX(h:Br F S H B Z V w)(a:w.heap[g]? =some (.cells E 70 (0,0)))(o:Al (λ_=>True) (λ_=>g) w N):Br F S H B Z V N:=by
 refine⟨⟨λi t=> ?_,h.dom.inj,h.dom.Zd (λi t=>by
  obtain⟨_,aa,ac,e,_⟩:=h.dom.node i t;exact o.block _ (AE.1 e).1 (λ_ _=>CC e a (by decide)))⟩,h.fit,h.self⟩
 obtain⟨s,aa,ac,e,n⟩:=h.dom.node i t;exact⟨s,aa,ac,(o.block _ (AE.1 e).1 (λ_ _=>CC e a (by decide))).trans e,o.own n λ_ _=>Ax n a (by decide)⟩
def Lu(n i q:Nat):Nat:=if q<i\/n-i<=q then n-1-q else q
theorem Pm{q:Nat}(e:q<n):Lu n 0 q=q:=by unfold Lu;rw[AI (by omega)]
theorem Rj{q:Nat}(e:q<n)(a:2*i<=n)(t:n<=2*i+1):Lu n i q=n-1-q:=by
 unfold Lu;by_cases h:q<i\/n-i<=q
 .rw[AJ h]
 rw[AI h];omega
def VY(g n i:Nat)(bl:Nat->Nat)(ws:List Nat)(wr:AB):Prop:=∃e,wr.heap[g]? =some (.cells e 70 (0,0))/\∀q,q<n->e[q]? =some (.pointer (some ⟨bl (ws.getD (Lu n i q) 0),0,none⟩))
theorem VY.cell(h:VY g n i Z J wr){q:Nat}(t:q<n):wr.cell? ⟨g,q,none⟩=some (.pointer (some ⟨Z (J.getD (Lu n i q) 0),0,none⟩))/\wr.frozen? ⟨g,q,none⟩=false:=by
 obtain⟨o,e,a⟩:=h;exact⟨by rw[AZ wr g q _ _ _ e,a q t],A7 wr g q _ _ e⟩
theorem VY.swap(h:VY g n i Z J wr){j:Nat}(w:i<j)(y:j=n-1-i)(m:j<n):
 VY g n (i+1) Z J ((wr.drew.setCell ⟨g,i,none⟩ (.pointer (some ⟨Z (J.getD (Lu n i j) 0),0,none⟩))).setCell ⟨g,j,none⟩ (.pointer (some ⟨Z (J.getD (Lu n i i) 0),0,none⟩))):=by
 obtain⟨t,f,a⟩:=h;have r:wr.drew.heap[g]? =some (.cells t 70 (0,0)):=f;have u:=Ao wr.drew g i _ _ (.pointer (some ⟨Z (J.getD (Lu n i j) 0),0,none⟩)) r;have l:=Ao _ g j _ _ (.pointer (some ⟨Z (J.getD (Lu n i i) 0),0,none⟩)) u;refine⟨_,l,λq c=> ?_⟩;have s:i<t.size:=(AE.1 (a i (by omega))).1;have o:j<t.size:=(AE.1 (a j m)).1;have r1:Lu n i i=i:=by unfold Lu;rw[AI (by omega)]
 have r2:Lu n i j=j:=by unfold Lu;rw[AI (by omega)]
 rw[r1,r2];by_cases e:q=j
 .subst e;have:Lu n (i+1) q=i:=by unfold Lu;rw[AJ (by omega)];omega
  rw[this];simp[o]
 by_cases e2:q=i
 .subst e2;have:Lu n (q+1) q=j:=by unfold Lu;rw[AJ (by omega)];omega
  rw[this];simp[Ne.symm e,s]
 have:Lu n (i+1) q=Lu n i q:=by
  unfold Lu;by_cases d:q<i\/n-i<=q
  .rw[AJ d,AJ (by omega)]
  rw[AI d,AI (by omega)]
 rw[this,<-a q c];simp[Ne.symm e,Ne.symm e2]
theorem Al.Zm(h:Al (λ_=>True) (λ_=>g) w N)(j:Nat)(v:AS):Al (λ_=>True) (λ_=>g) w (N.setCell ⟨g,j,none⟩ v):=Al.set (S:=λ_=>True) (kb:=λ_=>g) h (i:=0) trivial j v
theorem XP(o:F.Ok S u)(w:AB)(B:Nat)(bl:Nat->Nat)(n:Nat->Dn)(h:Br F S H B bl n w)(x c:Nat)(hx:S x)(m:S c)(t:F.par c=none)(i:x≠c):
 AX AC 111 #[.pointer (some ⟨bl x,0,none⟩),.pointer (some ⟨bl c,0,none⟩)] w (EH (F.put x 0 c) S H B bl w):=by
 obtain⟨-,-,c1,-⟩:=h.dom.cells hx;rw[(h.fit x hx).fst]at c1;have d:=AA (G1 o w B bl n h x c hx m t i [] (F.kids x) rfl);obtain⟨v,a⟩:∃v,v=Au bl (F.kids x).head? :=⟨_,rfl⟩;rw[<-a]at c1 d;obtain⟨q,l⟩:∃q,v= .pointer q:=⟨_,a⟩;subst l;clear h o t a;go_enter func111,ntmps111;go_wp2_with fail;refine d.o.mono ?_;rintro e g ⟨rfl,r,s⟩;have y:=AA r;have f:=AA s;clear r s;go_wp2_with fail
 go_end0;exact⟨rfl,y.o,f.o⟩
theorem XF(o:F.Ok S u)(w:AB)(B:Nat)(bl:Nat->Nat)(k:Nat->Dn)(h:Br F S H B bl k w)(x p c:Nat)(i:F.par x=some p)(I:S c)(m:F.par c=none)(b:p≠c)(l1 l2:List Nat)(g:F.kids p=l1++l2)(hx:l1.getLast? =some x):
 AX AC 113 #[.pointer (some ⟨bl x,0,none⟩),.pointer (some ⟨bl c,0,none⟩)] w (EH (F.put p l1.length c) S H B bl w):=by
 obtain⟨A,n⟩:=o.dom p x i;obtain⟨-,j,c1,c2,c3,c4,-⟩:=h.dom.cells n;have t:=((h.fit x n).sib p i).2;obtain⟨s,l⟩:∃s,l1=s++[x]:=by
  obtain⟨s,e⟩:=List.getLast?_eq_some_iff.1 hx;exact⟨s,e⟩
 have r:EC (F.kids p) x=l2.head? :=by
  have d:=o.nodup p;rw[g,l,Bw]at d|-;have f:x∉s:=λO=>(BA.1 d).2.2 x O x (by simp) rfl;exact Bt l2 x s f
 rw[t,r]at c4;rw[(h.fit x n).par,i]at j;simp only[Au,As]at j;have z:=AA (G1 o w.drew B bl k (h.kept (AW _ _).drew) p c A I m b l1 l2 g);obtain⟨v,y⟩:∃v,v=Au bl l2.head? :=⟨_,rfl⟩;rw[<-y]at c4 z;obtain⟨q,T⟩:∃q,v= .pointer q:=⟨_,y⟩;subst T;clear h o m y c1 c2 c3 t r l g hx;go_enter func113,ntmps113;go_wp2_with fail;refine wp_region_still_tail 9 (by kernel_rfl) (by kernel_rfl) ?_;simp only[List.take_succ_cons,BM,List.drop_succ_cons,List.drop_zero];iterate 9 still_step
 refine wpStill_nil ?_;change wpList _ _ _ _ _ w.drew;go_wp2_with fail;refine z.o.mono ?_;rintro e E ⟨rfl,f,a⟩;have R:=AA f;have N:Hid (GI S bl w E):=⟨a.os,a.tape,a.output,a.size,a.block,a.row⟩;clear f a;go_wp2_with fail
 go_end0;exact⟨rfl,R.o,N.o⟩
theorem Na(op:Int)(s:bY)(xs ws:List Nat)(i:Nat)(h:(CV op s xs ws i).op=true):∀k,(CV op s xs ws (i+k)).op=true
 |0=>h
 |k+1=>NY _ (CV op s xs ws (i+k)) (rv op ws) (Na op s xs ws i h k)
theorem RV(t:(CV U s Y J Y.length).op=false):∀i,i<=Y.length->(CV U s Y J i).op=false:=λi a=>by
 cases e:(CV U s Y J i).op with
 |false=>rfl
 |true=>
  have:=Na U s Y J i e (Y.length-i);rw[show i+(Y.length-i)=Y.length by omega,t]at this;cases this
def R7(n B:Nat)(bl:Nat->Nat)(g gb:Nat)(s:bY)(w:AB)(e:Bx)(w':AB):Prop:=
 e= .returned (.pointer (some ⟨g,0,none⟩))/\∃o a t,Al (λ_=>True) (λ_=>gb) w o/\PW n B bl o s a t w'
theorem X8{F0:Fo}{h0:Nat->Nat}{nd0:Nat->Nd}{xs vs:List Nat}(hh:∀x∈vs,h0 x<=600)(hal:∀i,i<n->(CU (nd0 i)).length<=2000)(hn:n<=600)(hxs:∀x∈xs,x<n)(hws:∀x∈vs,x<n)(hxn:xs.Nodup)(hwn:vs.Nodup)(hx0:xs≠[])(hv0:vs≠[])
 (hI:∀i,i<xs.length->∃h,Inv n F0 h0 nd0 2 xs vs.reverse (CV 2 ⟨F0,n,nd0,false⟩ xs vs.reverse i) h)(hop:(CV 2 ⟨F0,n,nd0,false⟩ xs vs.reverse xs.length).op=false)(hP:Br F0 (λi=>i<n) nd0 B Z V w)(hBw:B<=w.heap.size)
 (g:Nat)(doc prev a1:Option Ai)(c1 C:Nat)(K:DP w g a1 xs.length c1 doc prev)(hown:w.ownsRow C 70 1 (.slice a1 xs.length c1) xs.length (Ad Z xs)){C2:Nat}(gb:Nat)(hdis:(AO a1 xs.length c1).ownBlock≠some gb)(c:Nat)(ho2:w.ownsRow C2 70 1 (.slice (some ⟨gb,0,none⟩) vs.length c) vs.length (Ad Z vs.reverse)):
 AX AC 109 #[.pointer (some ⟨g,0,none⟩),.slice (some ⟨gb,0,none⟩) vs.length c,.bool true,.func (.func 111) #[] #[]] w (R7 n B Z g gb (CV 2 ⟨F0,n,nd0,false⟩ xs vs.reverse xs.length) w):=by
 obtain⟨z0,-,-⟩:=K.cells;have hgl:=K.lt;have hxl:xs.length<=600:=by have:=BH hxn hxs;omega
 have hwl:vs.length<=600:=by have:=BH hwn hws;omega
 have hxp:0<xs.length:=Bg.2 hx0;have hpos:0<vs.length:=Bg.2 hv0;have HSz:=AA (Gl g a1 xs.length c1 w z0);have hRv0:VY gb vs.length 0 Z vs.reverse w:=by
  rcases ho2.2 with⟨e,_⟩|⟨g',cap,cur,e,_,hh,hcap,_,hsz,htk⟩
  .cases e
  injection e with e1 _ _;injection e1 with e1;injection e1 with e1;subst e1;refine⟨cur,hh,λq hq=> ?_⟩;have hq2:q<vs.reverse.length:=by rw[EF];exact hq
  rw[Pm hq];have h1:(Ad Z vs.reverse)[q]? =some (.pointer (some ⟨Z (vs.reverse.getD q 0),0,none⟩)):=by
   unfold Ad;rw[List.getElem?_map,AK hq2,Ae,AK hq2];rfl
  rw[<-htk,List.getElem?_take,AJ (by omega)]at h1;simpa using h1
 have hgbl:gb<w.heap.size:=(ho2.lt gb rfl).2;have HRv0:=AA hRv0;obtain⟨cur0,hg0,-⟩:=hRv0;have HAft:Hid (∀w0,Al (λ_=>True) (λ_=>gb) w w0->Br F0 (λi=>i<n) nd0 B Z V w0/\DP w0 g a1 xs.length c1 doc prev/\w0.ownsRow C 70 1 (.slice a1 xs.length c1) xs.length (Ad Z xs)):=λw0 hT=>by
  refine⟨hP.ZX hg0 hT,(hT.block g K.lt (λ_ _=>CC K hg0 (by decide))).trans K,?_⟩;exact hT.own hown λ_ _ e=>hdis e
 have HGn:Hid (∀i,i<n->gb≠Z i):=λi hi=>by
  obtain⟨_,_,_,hh,_⟩:=hP.dom.node i hi;exact CC hg0 hh (by decide)
 have R:∀i,i<xs.length->∃h,Inv n F0 h0 nd0 2 xs vs (CV 2 ⟨F0,n,nd0,false⟩ xs vs.reverse i) h:=λi hi=>by
  obtain⟨h,I⟩:=hI i hi;exact⟨h,I.mono λw hw=>CA.2 hw⟩
 have HI:=AA R;have HX:=AA hxs;have HW:=AA hws;have HWn:=AA hwn;have HAl:=AA hal;have HHt:Hid (∀x∈vs,x<n/\h0 x<=600):=λx hx=>⟨hws x hx,hh x hx⟩;have HOp:=AA (RV hop);have HNn:Hid (∀b3 k c3 l C3 w0,w0.ownsRow C3 70 1 (.slice b3 k c3) k (Ad Z l)->Br F0 (λi=>i<n) nd0 B Z V w0->∀s S N wr,PW n B Z w0 s S N wr->B6 wr wr.heap.size b3 (Ad Z l)):=λb3 k c3 l C3 w0 ho hP0 s S N wr H=>by
  obtain⟨_,_,hv,_,hrs⟩:=B6.own (Al.own H.turn ho (λi hi=>by obtain⟨_,_,_,hhn,_⟩:=hP0.dom.node i hi;exact Ax ho hhn (by decide)));cases hv
  exact hrs
 clear K hown ho2 hP hI R hxs hws hal hh hx0 hop hg0;go_enter func109,ntmps109;go_wp2_with fail;refine HSz.o.mono ?_;rintro e w1 ⟨rfl,rfl⟩;go_wp2;go_loopw [10,11] (λv10 v11 wr=>∃i:Nat,2*i<=vs.length/\v10= .int .i64 i/\v11= .int .i64 ((vs.length:Int)-1-(i:Int))/\VY gb vs.length i Z vs.reverse wr/\Al (λ_=>True) (λ_=>gb) w1 wr) (λv10 _ _=>vs.length-(Aa v10).toNat)
 .exact⟨0,by omega,rfl,by simp,HRv0.o,Al.refl _ _ _⟩
 obtain⟨i,hi,rfl,rfl,Y,hT⟩:=hrel;clear z0;by_cases hij:2*i+1<vs.length
 .obtain⟨j,hj⟩:∃j,j=vs.length-1-i:=⟨_,rfl⟩;have ej:(vs.length:Int)-1-(i:Int)=(j:Int):=by omega
  rw[ej];have hjn:j<vs.length:=by omega
  obtain⟨c1',f1⟩:=Y.cell (q:=i) (by omega);obtain⟨c2',f2⟩:=Y.cell (q:=j) hjn;have hs2:=Y.swap (show i<j by omega) hj hjn;obtain⟨p1,hp1⟩:∃p1,p1=Z (vs.reverse.getD (Lu vs.length i i) 0):=⟨_,rfl⟩;obtain⟨p2,hp2⟩:∃p2,p2=Z (vs.reverse.getD (Lu vs.length i j) 0):=⟨_,rfl⟩;rw[<-hp1]at c1' hs2;rw[<-hp2]at c2' hs2;have hT2:Al (λ_=>True) (λ_=>gb) w1 ((wr.drew.setCell ⟨gb,i,none⟩ (.pointer (some ⟨p2,0,none⟩))).setCell ⟨gb,j,none⟩ (.pointer (some ⟨p1,0,none⟩))):=((hT.drew).Zm i _).Zm j _;have HS2:=AA hs2;have HT2:=AA hT2;have M:i<j:=by omega
  have hjm:Hid (j=vs.length-1-i):=hj;clear Y hT hs2 hT2 hp1 hp2 ej hj;go_wp2_with fail
  go_region;all_goals
   go_wp2;go_roundw
   .exact⟨i+1,by omega,by go_num,by have:=hjm.o;congr 1;omega,HS2.o,HT2.o⟩
   simp[Aa];omega
 have nij:¬((i:Int)<(vs.length:Int)-1-(i:Int)):=by omega
 obtain⟨O,rfl⟩:∃O:AB,O=wr:=⟨_,rfl⟩;obtain⟨hP0,hsb0,hrx⟩:=HAft.o O hT;obtain⟨y0,-,-⟩:=hsb0.cells;have HT0:=AA hT;have HPW0:Hid (PW n B Z O ⟨F0,n,nd0,false⟩ Z V O):=⟨hP0,λ_ _=>rfl,λy h1 h2=>absurd (show y<n from h2) (by omega),Al.refl _ _ _,Lm.refl _ _ _⟩;have HRow1:=AA (HNn.o _ _ _ _ _ O hrx hP0);have HRow2:Hid (∀s S N wr,PW n B Z O s S N wr->∀m (hm:m<vs.length),wr.cell? ⟨gb,m,none⟩=some (.pointer (some ⟨Z vs[m],0,none⟩))):=λs S N wr H m hm=>by
  have h1:=(Y.cell (q:=m) hm).1;rw[Rj hm hi (by omega)]at h1;have h3:vs.reverse.getD (vs.length-1-m) 0=vs[m]:=by
   have hm2:vs.length-1-m<vs.reverse.length:=by rw[EF];omega
   rw[Ae,AK hm2,BE,List.getElem_reverse];congr 1;omega
  rw[h3]at h1;obtain⟨cur,h2,_⟩:=Y;exact(Am (a:=⟨gb,m,none⟩) (H.turn.block gb (AE.1 h2).1 (λi hi=>HGn.o i hi))).trans h1
 have hBw0:B<=O.heap.size:=AH hBw hT.size;clear Y hT hP0 hsb0 hrx hij;go_wp2;go_loopw [49] (λv wr=>∃(i:Nat) (S:Nat->Nat) (N:Nat->Dn),i<=xs.length/\v= .int .i64 i/\PW n B Z O (CV 2 ⟨F0,n,nd0,false⟩ xs vs.reverse i) S N wr) (λv _=>xs.length-(Aa v).toNat)
 .exact⟨0,Z,V,AY _,rfl,HPW0.o⟩
 clear y0;obtain⟨i,bl2,st2,hi,rfl,hH⟩:=hrel;obtain⟨W2,rfl⟩:∃W2:AB,W2=wr:=⟨_,rfl⟩;by_cases M:i<xs.length
 .obtain⟨h2,R⟩:=HI.o i M;have HS1:Hid (CV 2 ⟨F0,n,nd0,false⟩ xs vs.reverse (i+1)=Bu 2 (decide (i+1=xs.length)) (CV 2 ⟨F0,n,nd0,false⟩ xs vs.reverse i) xs[i] vs):=by
   show Gs 2 (decide (i+1=xs.length)) _ (xs.getD i 0) vs.reverse=_;rw[Ae,AK M,BE,<-No (by decide),CO]
  have HOp2:Hid ((CV 2 ⟨F0,n,nd0,false⟩ xs vs.reverse (i+1)).op=false):=HOp.o (i+1) (by omega);obtain⟨b,o,rfl,hbB,hc⟩:=(HRow1.o _ _ _ _ hH).at_ (by rw[AM];omega);have g1:=hc i (by rw[AM];exact M);rw[A5 M]at g1;obtain⟨s,hs⟩:∃s,s=CV 2 ⟨F0,n,nd0,false⟩ xs vs.reverse i:=⟨_,rfl⟩;rw[<-hs]at R hH HS1;obtain⟨last,G⟩:∃last,last=decide (i+1=xs.length):=⟨_,rfl⟩;rw[<-G]at HS1;have T:=AA G;have hxm:=AD M;have J:Hid (∀j (hj:j<vs.length),_):=λj hj=>Mh (.inl rfl) R HWn.o HHt.o HX.o hxm last hj;have U:Hid (∀j,j<=vs.length->(Ap last s (vs.take j)).op=false):=λj hj=>MZ R HHt.o last (by have:=HOp2.o;rw[HS1.o]at this;exact this) (vs.length-j) j (by omega);have hxn2:xs[i]<n:=HX.o _ hxm;have HLe:Hid (n<=s.N):=R.le;obtain⟨x,hx⟩:∃x,x=xs[i]:=⟨_,rfl⟩;rw[<-hx]at g1 HS1 J hxn2;have HH:=AA hH;clear hc hs R G hH hxm hx;go_wp2;go_loopw [56] (λv wr=>∃(j:Nat) (S:Nat->Nat) (N:Nat->Dn),j<=vs.length/\v= .int .i64 j/\PW n B Z O (Bu 2 last s x (vs.take j)) S N wr) (λv _=>vs.length-(Aa v).toNat)
  .exact⟨0,bl2,st2,AY _,rfl,by rw[BM,Np];exact HH.o⟩
  clear g1;obtain⟨j,r,st3,hj,rfl,t⟩:=hrel;obtain⟨W3,rfl⟩:∃W3:AB,W3=wr:=⟨_,rfl⟩;by_cases W:j<vs.length
  .have g2:=HRow2.o _ _ _ _ t j W;have hwm:=HW.o _ (AD W);rw[<-t.old _ hwm]at g2;obtain⟨⟨hP',okP,hP2,wP,xP,nP,ndP⟩,hm,p,l1,l2,okM,m1,m2,m3,m4,m5,m6,m7,m8,m9⟩:=J.o j W;have hpo:(Bu 2 last s x (vs.take (j+1))).op=false:=U.o (j+1) W;have A:Hid (∀E d u,PW n B Z O (DB last (Bu 2 last s x (vs.take j)) vs[j]) E d u->AX AC 111 #[.pointer (some ⟨Z x,0,none⟩),.pointer (some ⟨E (if last then vs[j]else(Bu 2 last s x (vs.take j)).N),0,none⟩)] u (λe w5=>e= .returned (.tuple #[])/\∃f,PW n B Z O (Bu 2 last s x (vs.take (j+1))) E f w5)):=by
    intro E d u H4;rw[<-H4.old x hxn2];refine(XP okM u B E d H4.prog x _ m1 m2 m3 (by rw[<-(m7 (by trivial)).1];exact m5)).mono ?_;intro e w5 hp5;obtain⟨e1,f,H5⟩:=H4.put hp5;refine⟨e1,f,?_⟩;obtain⟨ex,el⟩:=m7 (by trivial);subst ex el;rw[<-m9];exact H5
   have P:(DB last (Bu 2 last s x (vs.take j)) vs[j]).op=false:=by
    have:=congrArg bY.op m9;exact(show(DB last (Bu 2 last s x (vs.take j)) vs[j]).op=_ from this).trans hpo
   cases last
   .have HCl:=AA (GQ 600 okP t.prog (AH hBw0 t.turn.size) wP (hP2 rfl) P (λy hy=>by obtain⟨z,hz,e⟩:=ndP y hy;rw[e];exact HAl.o z hz));have HPc:Hid (∀e u,Dx (Bu 2 false s x (vs.take j)) (CZ 600 (Bu 2 false s x (vs.take j)) vs[j]) B r W3 e u->∃E d,e= .returned (.pointer (some ⟨E (Bu 2 false s x (vs.take j)).N,0,none⟩))/\PW n B Z O (DB false (Bu 2 false s x (vs.take j)) vs[j]) E d u):=λe u hp=>t.clone nP hp;have hne:((i:Int) !=(xs.length:Int)-1)=true:=by
     have:=T.o;have:¬(i+1=xs.length):=of_decide_eq_false this.symm;simp;omega
    simp only[Bv,if_false]at A;obtain⟨y,hy⟩:∃y,y=r vs[j]:=⟨_,rfl⟩;rw[<-hy]at g2 HCl;clear t hwm hy okP hP2 wP xP nP ndP okM m1 m2 m3 m4 m5 m6 m7 m8 m9 hpo P hm T J U;go_wp2_with fail;refine HCl.o.mono ?_;intro e u hp4;obtain⟨E,d,rfl,L⟩:=HPc.o e u hp4;have X:=AA (A.o E d u L);clear hp4 L g2;go_wp2_with fail;refine X.o.mono ?_;rintro e w5 ⟨rfl,f,D⟩;have HH5:=AA D;clear D;go_wp2;go_roundw
    .exact⟨j+1,E,f,W,by go_num,HH5.o⟩
    simp[Aa];omega
   have hne:((i:Int) !=(xs.length:Int)-1)=false:=by
    have:=T.o;have:i+1=xs.length:=of_decide_eq_true this.symm;simp;omega
   simp only[if_true]at A;obtain⟨-,c0,-⟩:=t.prog.dom.cells wP;rw[(t.prog.fit _ wP).par]at c0;cases Q:(Bu 2 true s x (vs.take j)).F.par vs[j]with
   |none=>
    rw[Q]at c0;simp only[Au,BF]at c0;have L:PW n B Z O (DB true (Bu 2 true s x (vs.take j)) vs[j]) r st3 W3:=by
     have e:DB true (Bu 2 true s x (vs.take j)) vs[j]=Bu 2 true s x (vs.take j):=by
      show{Bu 2 true s x (vs.take j)with F:=(Bu 2 true s x (vs.take j)).F.cut vs[j]}=_;rw[Fo.Y0 okP Q]
     rw[e];exact t
    have X:=AA (A.o r st3 W3 L);obtain⟨y,hy⟩:∃y,y=r vs[j]:=⟨_,rfl⟩;rw[<-hy]at g2 X c0;clear t hwm hy okP hP2 wP xP nP ndP okM m1 m2 m3 m4 m5 m6 m7 m8 m9 hpo P hm T J U L Q;go_wp2_with fail;refine X.o.mono ?_;rintro e w5 ⟨rfl,f,D⟩;have HH5:=AA D;clear D;go_wp2;go_roundw
    .exact⟨j+1,r,f,W,by go_num,HH5.o⟩
    simp[Aa];omega
   |some q=>
    rw[Q]at c0;simp only[Au,As]at c0;have HRem:=AA (Ee okP W3 B r st3 t.prog q vs[j] Q);have HPut:Hid (∀e u,EH ((Bu 2 true s x (vs.take j)).F.cut vs[j]) (λi=>i<(Bu 2 true s x (vs.take j)).N) (Bu 2 true s x (vs.take j)).nd B r W3 e u->e= .returned (.tuple #[])/\∃d,PW n B Z O (DB true (Bu 2 true s x (vs.take j)) vs[j]) r d u):=λe u hp=>t.put hp;obtain⟨y,hy⟩:∃y,y=r vs[j]:=⟨_,rfl⟩;have HClo2:Hid (∀d u,PW n B Z O (DB true (Bu 2 true s x (vs.take j)) vs[j]) r d u->AX AC 111 #[.pointer (some ⟨Z x,0,none⟩),.pointer (some ⟨y,0,none⟩)] u (λe w5=>e= .returned (.tuple #[])/\∃f,PW n B Z O (Bu 2 true s x (vs.take (j+1))) r f w5)):=λd u H4=>by rw[hy];exact A.o r d u H4
    rw[<-hy]at g2 HRem c0;clear t hwm hy okP hP2 wP xP nP ndP okM m1 m2 m3 m4 m5 m6 m7 m8 m9 hpo P hm T J U Q A;go_wp2_with fail;refine HRem.o.mono ?_;intro e u hp4;obtain⟨rfl,d,L⟩:=HPut.o e u hp4;have X:=AA (HClo2.o d u L);clear hp4 L g2 c0;go_wp2_with fail;refine X.o.mono ?_;rintro e w5 ⟨rfl,f,D⟩;have HH5:=AA D;clear D;go_wp2;go_roundw
    .exact⟨j+1,r,f,W,by go_num,HH5.o⟩
    simp[Aa];omega
  have ej:j=vs.length:=by omega
  rw[ej,AU]at t;have HH4:Hid (PW n B Z O (CV 2 ⟨F0,n,nd0,false⟩ xs vs.reverse (i+1)) r st3 W3):=by rw[Hid,HS1.o];exact t
  clear t ej J U;go_wp2;go_roundw
  .exact⟨i+1,r,st3,M,by go_num,HH4.o⟩
  simp[Aa];omega
 have e:i=xs.length:=by omega
 rw[e]at hH;have HH:=AA hH;clear hH;go_wp2;go_ret;exact⟨rfl,O,bl2,st2,HT0.o,HH.o⟩
theorem Wr{F0:Fo}{h0:Nat->Nat}{nd0:Nat->Nd}{xs vs:List Nat}(hh:∀x∈vs,h0 x<=600)(hal:∀i,i<n->(CU (nd0 i)).length<=2000)(hn:n<=600)(hxs:∀x∈xs,x<n)(hws:∀x∈vs,x<n)(hxn:xs.Nodup)(hwn:vs.Nodup)(hx0:xs≠[])(hv0:vs≠[])
 (hI:∀i,i<xs.length->∃h,Inv n F0 h0 nd0 3 xs vs.reverse (CV 3 ⟨F0,n,nd0,false⟩ xs vs.reverse i) h)(hop:(CV 3 ⟨F0,n,nd0,false⟩ xs vs.reverse xs.length).op=false)(hP:Br F0 (λi=>i<n) nd0 B Z V w)(hBw:B<=w.heap.size)
 (g:Nat)(doc prev a1:Option Ai)(c1 C:Nat)(K:DP w g a1 xs.length c1 doc prev)(hown:w.ownsRow C 70 1 (.slice a1 xs.length c1) xs.length (Ad Z xs)){C2:Nat}(gb:Nat)(hdis:(AO a1 xs.length c1).ownBlock≠some gb)(c:Nat)(ho2:w.ownsRow C2 70 1 (.slice (some ⟨gb,0,none⟩) vs.length c) vs.length (Ad Z vs.reverse)):
 AX AC 109 #[.pointer (some ⟨g,0,none⟩),.slice (some ⟨gb,0,none⟩) vs.length c,.bool true,.func (.func 113) #[] #[]] w (R7 n B Z g gb (CV 3 ⟨F0,n,nd0,false⟩ xs vs.reverse xs.length) w):=by
 obtain⟨z0,-,-⟩:=K.cells;have hgl:=K.lt;have hxl:xs.length<=600:=by have:=BH hxn hxs;omega
 have hwl:vs.length<=600:=by have:=BH hwn hws;omega
 have hxp:0<xs.length:=Bg.2 hx0;have hpos:0<vs.length:=Bg.2 hv0;have HSz:=AA (Gl g a1 xs.length c1 w z0);have hRv0:VY gb vs.length 0 Z vs.reverse w:=by
  rcases ho2.2 with⟨e,_⟩|⟨g',cap,cur,e,_,hh,hcap,_,hsz,htk⟩
  .cases e
  injection e with e1 _ _;injection e1 with e1;injection e1 with e1;subst e1;refine⟨cur,hh,λq hq=> ?_⟩;have hq2:q<vs.reverse.length:=by rw[EF];exact hq
  rw[Pm hq];have h1:(Ad Z vs.reverse)[q]? =some (.pointer (some ⟨Z (vs.reverse.getD q 0),0,none⟩)):=by
   unfold Ad;rw[List.getElem?_map,AK hq2,Ae,AK hq2];rfl
  rw[<-htk,List.getElem?_take,AJ (by omega)]at h1;simpa using h1
 have hgbl:gb<w.heap.size:=(ho2.lt gb rfl).2;have HRv0:=AA hRv0;obtain⟨cur0,hg0,-⟩:=hRv0;have HAft:Hid (∀w0,Al (λ_=>True) (λ_=>gb) w w0->Br F0 (λi=>i<n) nd0 B Z V w0/\DP w0 g a1 xs.length c1 doc prev/\w0.ownsRow C 70 1 (.slice a1 xs.length c1) xs.length (Ad Z xs)):=λw0 hT=>by
  refine⟨hP.ZX hg0 hT,(hT.block g K.lt (λ_ _=>CC K hg0 (by decide))).trans K,?_⟩;exact hT.own hown λ_ _ e=>hdis e
 have HGn:Hid (∀i,i<n->gb≠Z i):=λi hi=>by
  obtain⟨_,_,_,hh,_⟩:=hP.dom.node i hi;exact CC hg0 hh (by decide)
 have R:∀i,i<xs.length->∃h,Inv n F0 h0 nd0 3 xs vs (CV 3 ⟨F0,n,nd0,false⟩ xs vs.reverse i) h:=λi hi=>by
  obtain⟨h,I⟩:=hI i hi;exact⟨h,I.mono λw hw=>CA.2 hw⟩
 have HI:=AA R;have HX:=AA hxs;have HW:=AA hws;have HWn:=AA hwn;have HAl:=AA hal;have HHt:Hid (∀x∈vs,x<n/\h0 x<=600):=λx hx=>⟨hws x hx,hh x hx⟩;have HOp:=AA (RV hop);have HNn:Hid (∀b3 k c3 l C3 w0,w0.ownsRow C3 70 1 (.slice b3 k c3) k (Ad Z l)->Br F0 (λi=>i<n) nd0 B Z V w0->∀s S N wr,PW n B Z w0 s S N wr->B6 wr wr.heap.size b3 (Ad Z l)):=λb3 k c3 l C3 w0 ho hP0 s S N wr H=>by
  obtain⟨_,_,hv,_,hrs⟩:=B6.own (Al.own H.turn ho (λi hi=>by obtain⟨_,_,_,hhn,_⟩:=hP0.dom.node i hi;exact Ax ho hhn (by decide)));cases hv
  exact hrs
 clear K hown ho2 hP hI R hxs hws hal hh hx0 hop hg0;go_enter func109,ntmps109;go_wp2_with fail;refine HSz.o.mono ?_;rintro e w1 ⟨rfl,rfl⟩;go_wp2;go_loopw [10,11] (λv10 v11 wr=>∃i:Nat,2*i<=vs.length/\v10= .int .i64 i/\v11= .int .i64 ((vs.length:Int)-1-(i:Int))/\VY gb vs.length i Z vs.reverse wr/\Al (λ_=>True) (λ_=>gb) w1 wr) (λv10 _ _=>vs.length-(Aa v10).toNat)
 .exact⟨0,by omega,rfl,by simp,HRv0.o,Al.refl _ _ _⟩
 obtain⟨i,hi,rfl,rfl,Y,hT⟩:=hrel;clear z0;by_cases hij:2*i+1<vs.length
 .obtain⟨j,hj⟩:∃j,j=vs.length-1-i:=⟨_,rfl⟩;have ej:(vs.length:Int)-1-(i:Int)=(j:Int):=by omega
  rw[ej];have hjn:j<vs.length:=by omega
  obtain⟨c1',f1⟩:=Y.cell (q:=i) (by omega);obtain⟨c2',f2⟩:=Y.cell (q:=j) hjn;have hs2:=Y.swap (show i<j by omega) hj hjn;obtain⟨p1,hp1⟩:∃p1,p1=Z (vs.reverse.getD (Lu vs.length i i) 0):=⟨_,rfl⟩;obtain⟨p2,hp2⟩:∃p2,p2=Z (vs.reverse.getD (Lu vs.length i j) 0):=⟨_,rfl⟩;rw[<-hp1]at c1' hs2;rw[<-hp2]at c2' hs2;have hT2:Al (λ_=>True) (λ_=>gb) w1 ((wr.drew.setCell ⟨gb,i,none⟩ (.pointer (some ⟨p2,0,none⟩))).setCell ⟨gb,j,none⟩ (.pointer (some ⟨p1,0,none⟩))):=((hT.drew).Zm i _).Zm j _;have HS2:=AA hs2;have HT2:=AA hT2;have M:i<j:=by omega
  have hjm:Hid (j=vs.length-1-i):=hj;clear Y hT hs2 hT2 hp1 hp2 ej hj;go_wp2_with fail
  go_region;all_goals
   go_wp2;go_roundw
   .exact⟨i+1,by omega,by go_num,by have:=hjm.o;congr 1;omega,HS2.o,HT2.o⟩
   simp[Aa];omega
 have nij:¬((i:Int)<(vs.length:Int)-1-(i:Int)):=by omega
 obtain⟨O,rfl⟩:∃O:AB,O=wr:=⟨_,rfl⟩;obtain⟨hP0,hsb0,hrx⟩:=HAft.o O hT;obtain⟨y0,-,-⟩:=hsb0.cells;have HT0:=AA hT;have HPW0:Hid (PW n B Z O ⟨F0,n,nd0,false⟩ Z V O):=⟨hP0,λ_ _=>rfl,λy h1 h2=>absurd (show y<n from h2) (by omega),Al.refl _ _ _,Lm.refl _ _ _⟩;have HRow1:=AA (HNn.o _ _ _ _ _ O hrx hP0);have HRow2:Hid (∀s S N wr,PW n B Z O s S N wr->∀m (hm:m<vs.length),wr.cell? ⟨gb,m,none⟩=some (.pointer (some ⟨Z vs[m],0,none⟩))):=λs S N wr H m hm=>by
  have h1:=(Y.cell (q:=m) hm).1;rw[Rj hm hi (by omega)]at h1;have h3:vs.reverse.getD (vs.length-1-m) 0=vs[m]:=by
   have hm2:vs.length-1-m<vs.reverse.length:=by rw[EF];omega
   rw[Ae,AK hm2,BE,List.getElem_reverse];congr 1;omega
  rw[h3]at h1;obtain⟨cur,h2,_⟩:=Y;exact(Am (a:=⟨gb,m,none⟩) (H.turn.block gb (AE.1 h2).1 (λi hi=>HGn.o i hi))).trans h1
 have hBw0:B<=O.heap.size:=AH hBw hT.size;clear Y hT hP0 hsb0 hrx hij;go_wp2;go_loopw [49] (λv wr=>∃(i:Nat) (S:Nat->Nat) (N:Nat->Dn),i<=xs.length/\v= .int .i64 i/\PW n B Z O (CV 3 ⟨F0,n,nd0,false⟩ xs vs.reverse i) S N wr) (λv _=>xs.length-(Aa v).toNat)
 .exact⟨0,Z,V,AY _,rfl,HPW0.o⟩
 clear y0;obtain⟨i,bl2,st2,hi,rfl,hH⟩:=hrel;obtain⟨W2,rfl⟩:∃W2:AB,W2=wr:=⟨_,rfl⟩;by_cases M:i<xs.length
 .obtain⟨h2,R⟩:=HI.o i M;have HS1:Hid (CV 3 ⟨F0,n,nd0,false⟩ xs vs.reverse (i+1)=Bu 3 (decide (i+1=xs.length)) (CV 3 ⟨F0,n,nd0,false⟩ xs vs.reverse i) xs[i] vs):=by
   show Gs 3 (decide (i+1=xs.length)) _ (xs.getD i 0) vs.reverse=_;rw[Ae,AK M,BE,<-No (by decide),CO]
  have HOp2:Hid ((CV 3 ⟨F0,n,nd0,false⟩ xs vs.reverse (i+1)).op=false):=HOp.o (i+1) (by omega);obtain⟨b,o,rfl,hbB,hc⟩:=(HRow1.o _ _ _ _ hH).at_ (by rw[AM];omega);have g1:=hc i (by rw[AM];exact M);rw[A5 M]at g1;obtain⟨s,hs⟩:∃s,s=CV 3 ⟨F0,n,nd0,false⟩ xs vs.reverse i:=⟨_,rfl⟩;rw[<-hs]at R hH HS1;obtain⟨last,G⟩:∃last,last=decide (i+1=xs.length):=⟨_,rfl⟩;rw[<-G]at HS1;have T:=AA G;have hxm:=AD M;have J:Hid (∀j (hj:j<vs.length),_):=λj hj=>Mh (.inr rfl) R HWn.o HHt.o HX.o hxm last hj;have U:Hid (∀j,j<=vs.length->(Ap last s (vs.take j)).op=false):=λj hj=>MZ R HHt.o last (by have:=HOp2.o;rw[HS1.o]at this;exact this) (vs.length-j) j (by omega);have hxn2:xs[i]<n:=HX.o _ hxm;have HLe:Hid (n<=s.N):=R.le;obtain⟨x,hx⟩:∃x,x=xs[i]:=⟨_,rfl⟩;rw[<-hx]at g1 HS1 J hxn2;have HH:=AA hH;clear hc hs R G hH hxm hx;go_wp2;go_loopw [56] (λv wr=>∃(j:Nat) (S:Nat->Nat) (N:Nat->Dn),j<=vs.length/\v= .int .i64 j/\PW n B Z O (Bu 3 last s x (vs.take j)) S N wr) (λv _=>vs.length-(Aa v).toNat)
  .exact⟨0,bl2,st2,AY _,rfl,by rw[BM,Np];exact HH.o⟩
  clear g1;obtain⟨j,r,st3,hj,rfl,t⟩:=hrel;obtain⟨W3,rfl⟩:∃W3:AB,W3=wr:=⟨_,rfl⟩;by_cases W:j<vs.length
  .have g2:=HRow2.o _ _ _ _ t j W;have hwm:=HW.o _ (AD W);rw[<-t.old _ hwm]at g2;obtain⟨⟨hP',okP,hP2,wP,xP,nP,ndP⟩,hm,p,l1,l2,okM,m1,m2,m3,m4,m5,m6,m7,m8,m9⟩:=J.o j W;have hpo:(Bu 3 last s x (vs.take (j+1))).op=false:=U.o (j+1) W;have A:Hid (∀E d u,PW n B Z O (DB last (Bu 3 last s x (vs.take j)) vs[j]) E d u->AX AC 113 #[.pointer (some ⟨Z x,0,none⟩),.pointer (some ⟨E (if last then vs[j]else(Bu 3 last s x (vs.take j)).N),0,none⟩)] u (λe w5=>e= .returned (.tuple #[])/\∃f,PW n B Z O (Bu 3 last s x (vs.take (j+1))) E f w5)):=by
    intro E d u H4;rw[<-H4.old x hxn2];refine(XF okM u B E d H4.prog x p _ (m8 (by trivial)).1 m2 m3 m5 l1 l2 m6 (m8 (by trivial)).2).mono ?_;intro e w5 hp5;obtain⟨e1,f,H5⟩:=H4.put hp5;refine⟨e1,f,?_⟩;rw[<-m9];exact H5
   have P:(DB last (Bu 3 last s x (vs.take j)) vs[j]).op=false:=by
    have:=congrArg bY.op m9;exact(show(DB last (Bu 3 last s x (vs.take j)) vs[j]).op=_ from this).trans hpo
   cases last
   .have HCl:=AA (GQ 600 okP t.prog (AH hBw0 t.turn.size) wP (hP2 rfl) P (λy hy=>by obtain⟨z,hz,e⟩:=ndP y hy;rw[e];exact HAl.o z hz));have HPc:Hid (∀e u,Dx (Bu 3 false s x (vs.take j)) (CZ 600 (Bu 3 false s x (vs.take j)) vs[j]) B r W3 e u->∃E d,e= .returned (.pointer (some ⟨E (Bu 3 false s x (vs.take j)).N,0,none⟩))/\PW n B Z O (DB false (Bu 3 false s x (vs.take j)) vs[j]) E d u):=λe u hp=>t.clone nP hp;have hne:((i:Int) !=(xs.length:Int)-1)=true:=by
     have:=T.o;have:¬(i+1=xs.length):=of_decide_eq_false this.symm;simp;omega
    simp only[Bv,if_false]at A;obtain⟨y,hy⟩:∃y,y=r vs[j]:=⟨_,rfl⟩;rw[<-hy]at g2 HCl;clear t hwm hy okP hP2 wP xP nP ndP okM m1 m2 m3 m4 m5 m6 m7 m8 m9 hpo P hm T J U;go_wp2_with fail;refine HCl.o.mono ?_;intro e u hp4;obtain⟨E,d,rfl,L⟩:=HPc.o e u hp4;have X:=AA (A.o E d u L);clear hp4 L g2;go_wp2_with fail;refine X.o.mono ?_;rintro e w5 ⟨rfl,f,D⟩;have HH5:=AA D;clear D;go_wp2;go_roundw
    .exact⟨j+1,E,f,W,by go_num,HH5.o⟩
    simp[Aa];omega
   have hne:((i:Int) !=(xs.length:Int)-1)=false:=by
    have:=T.o;have:i+1=xs.length:=of_decide_eq_true this.symm;simp;omega
   simp only[if_true]at A;obtain⟨-,c0,-⟩:=t.prog.dom.cells wP;rw[(t.prog.fit _ wP).par]at c0;cases Q:(Bu 3 true s x (vs.take j)).F.par vs[j]with
   |none=>
    rw[Q]at c0;simp only[Au,BF]at c0;have L:PW n B Z O (DB true (Bu 3 true s x (vs.take j)) vs[j]) r st3 W3:=by
     have e:DB true (Bu 3 true s x (vs.take j)) vs[j]=Bu 3 true s x (vs.take j):=by
      show{Bu 3 true s x (vs.take j)with F:=(Bu 3 true s x (vs.take j)).F.cut vs[j]}=_;rw[Fo.Y0 okP Q]
     rw[e];exact t
    have X:=AA (A.o r st3 W3 L);obtain⟨y,hy⟩:∃y,y=r vs[j]:=⟨_,rfl⟩;rw[<-hy]at g2 X c0;clear t hwm hy okP hP2 wP xP nP ndP okM m1 m2 m3 m4 m5 m6 m7 m8 m9 hpo P hm T J U L Q;go_wp2_with fail;refine X.o.mono ?_;rintro e w5 ⟨rfl,f,D⟩;have HH5:=AA D;clear D;go_wp2;go_roundw
    .exact⟨j+1,r,f,W,by go_num,HH5.o⟩
    simp[Aa];omega
   |some q=>
    rw[Q]at c0;simp only[Au,As]at c0;have HRem:=AA (Ee okP W3 B r st3 t.prog q vs[j] Q);have HPut:Hid (∀e u,EH ((Bu 3 true s x (vs.take j)).F.cut vs[j]) (λi=>i<(Bu 3 true s x (vs.take j)).N) (Bu 3 true s x (vs.take j)).nd B r W3 e u->e= .returned (.tuple #[])/\∃d,PW n B Z O (DB true (Bu 3 true s x (vs.take j)) vs[j]) r d u):=λe u hp=>t.put hp;obtain⟨y,hy⟩:∃y,y=r vs[j]:=⟨_,rfl⟩;have HClo2:Hid (∀d u,PW n B Z O (DB true (Bu 3 true s x (vs.take j)) vs[j]) r d u->AX AC 113 #[.pointer (some ⟨Z x,0,none⟩),.pointer (some ⟨y,0,none⟩)] u (λe w5=>e= .returned (.tuple #[])/\∃f,PW n B Z O (Bu 3 true s x (vs.take (j+1))) r f w5)):=λd u H4=>by rw[hy];exact A.o r d u H4
    rw[<-hy]at g2 HRem c0;clear t hwm hy okP hP2 wP xP nP ndP okM m1 m2 m3 m4 m5 m6 m7 m8 m9 hpo P hm T J U Q A;go_wp2_with fail;refine HRem.o.mono ?_;intro e u hp4;obtain⟨rfl,d,L⟩:=HPut.o e u hp4;have X:=AA (HClo2.o d u L);clear hp4 L g2 c0;go_wp2_with fail;refine X.o.mono ?_;rintro e w5 ⟨rfl,f,D⟩;have HH5:=AA D;clear D;go_wp2;go_roundw
    .exact⟨j+1,r,f,W,by go_num,HH5.o⟩
    simp[Aa];omega
  have ej:j=vs.length:=by omega
  rw[ej,AU]at t;have HH4:Hid (PW n B Z O (CV 3 ⟨F0,n,nd0,false⟩ xs vs.reverse (i+1)) r st3 W3):=by rw[Hid,HS1.o];exact t
  clear t ej J U;go_wp2;go_roundw
  .exact⟨i+1,r,st3,M,by go_num,HH4.o⟩
  simp[Aa];omega
 have e:i=xs.length:=by omega
 rw[e]at hH;have HH:=AA hH;clear hH;go_wp2;go_ret;exact⟨rfl,O,bl2,st2,HT0.o,HH.o⟩
structure AT(n C:Nat)(bl:Nat->Nat)(w w':AB):Prop where
 os:w'.os=w.os
 tape:w'.tape=w.tape
 output:w'.output=w.output
 size:w.heap.size<=w'.heap.size
 block:∀b,b<C->(∀i,i<n->b≠bl i/\rowAt w (bl i)≠some b)->w'.heap[b]? =w.heap[b]?
def VZ(n m C:Nat)(bl e:Nat->Nat)(w w':AB):Prop:=∀y,y<m->∀b,rowAt w' (e y)=some b->(y<n/\rowAt w (bl y)=some b)\/C<=b
theorem AT.refl(n C:Nat)(bl:Nat->Nat)(w:AB):AT n C bl w w:=⟨rfl,rfl,rfl,AG _,λ_ _ _=>rfl⟩
theorem VZ.refl(n C:Nat)(bl:Nat->Nat)(w:AB):VZ n n C bl bl w w:=λy e b h=> .inl ⟨e,h⟩
theorem AT.aq{C:Nat}(h:Al (λi=>i<n) Z w N)(o:C<=w.heap.size):AT n C Z w N:=⟨h.os,h.tape,h.output,h.size,λb a e=>h.block b (by omega) (λi t=>(e i t).1)⟩
theorem AT.ar{C:Nat}(h:Al (λ_=>True) (λ_=>g) w N)(a:C<=w.heap.size)(e:C<=g):AT n C Z w N:=⟨h.os,h.tape,h.output,h.size,λb t _=>h.block b (by omega) (λ_ _=>by omega)⟩
theorem AT.ZB{C:Nat}(h:Dy (λi=>i<n) Z B w N)(o:C<=B):AT n C Z w N:=⟨h.os,h.tape,h.output,h.size,λb a e=>h.block b (by omega) (λi t=>(e i t).1)⟩
theorem VZ.ZB{C:Nat}(h:Dy (λi=>i<n) Z B w N)(a:∀i,i<n->Z i<B):VZ n n C Z Z w N:=λy t b e=> .inl ⟨t,by rw[<-h.row y t (a y t)];exact e⟩
theorem Lm.cc{m C:Nat}{t:Nat->Nat}(h:Lm n m Z t w N)(o:C<=w.heap.size):VZ n m C Z t w N:=λy a b e=>(h y a b e).imp id λh=>by omega
structure PA(n B C:Nat)(bl:Nat->Nat)(w:AB)(s:bY)(bl':Nat->Nat)(st':Nat->Dn)(wr:AB):Prop where
 prog:Br s.F (λi=>i<s.N) s.nd B bl' st' wr
 old:∀y,y<n->bl' y=bl y
 new:∀y,n<=y->y<s.N->C<=bl' y
 turn:AT n C bl w wr
 rw:VZ n s.N C bl bl' w wr
theorem PA.refl{C:Nat}(e:s.N=n)(h:Br s.F (λi=>i<s.N) s.nd B Z V w):PA n B C Z w s Z V w:=⟨h,λ_ _=>rfl,λy a t=>by omega,AT.refl _ _ _ _,by rw[e];exact VZ.refl _ _ _ _⟩
theorem PW.pa{C:Nat}{e:Nat->Nat}(h:PW n B Z w s e W wr)(t:C<=w.heap.size):PA n B C Z w s e W wr:=⟨h.prog,h.old,λy o a=>AH t (h.new y o a),AT.aq h.turn t,h.rw.cc t⟩
theorem PA.trans{C:Nat}{s2:bY}{l d:Nat->Nat}{g r:Nat->Dn}{p:AB}(h:PA n B C Z w s l g p)(k:PA s.N B C l p s2 d r M)(q:n<=s.N):PA n B C Z w s2 d r M:=by
 refine⟨k.prog,λy c=>(k.old y (by omega)).trans (h.old y c),λy o f=> ?_,⟨k.turn.os.trans h.turn.os,k.turn.tape.trans h.turn.tape,k.turn.output.trans h.turn.output,AH h.turn.size k.turn.size,λb v a=> ?_⟩,λy c b e=> ?_⟩
 .rcases Be y s.N with t|t
  .rw[k.old y t];exact h.new y o t
  exact k.new y t f
 .rw[k.turn.block b v (λi m=> ?_)]
  .exact h.turn.block b v a
  rcases Be i n with t|t
  .rw[h.old i t];refine⟨(a i t).1,λe=> ?_⟩;rcases h.rw i m b (by rw[h.old i t];exact e)with⟨_,u⟩|u
   .exact(a i t).2 u
   omega
  refine⟨λe=>by have:=h.new i t m;omega,λe=> ?_⟩;rcases h.rw i m b e with⟨u,_⟩|u
  .omega
  omega
 rcases k.rw y c b e with⟨o,f⟩|o
 .exact h.rw y o b f
 exact .inr o
theorem PA.up{C:Nat}{a:Nat->Nat}(h:PA n B C Z w s a W wr)(t:AL wr.heap.size wr M)(l:C<=wr.heap.size):PA n B C Z w s a W M:=by
 refine⟨h.prog.kept t,h.old,h.new,⟨t.os.trans h.turn.os,t.tape.trans h.turn.tape,t.output.trans h.turn.output,AH h.turn.size t.size,λb o r=>(t.block b (by omega)).trans (h.turn.block b o r)⟩,λy i b e=> ?_⟩;obtain⟨_,aa,ac,d,_⟩:=h.prog.dom.node y i;rw[Ce (t.block _ (AE.1 d).1)]at e;exact h.rw y i b e
theorem PA.own{C:Nat}{s0:bY}{u:Nat->Nat}(h:PA n B C Z w s u W wr)(h0:Br s0.F (λi=>i<n) s0.nd B Z V w){e size:Nat}{xs:List AS}(c:w.ownsRow A e size v k xs)(x:e≠101)(j:e≠133)(q:∀g,v.ownBlock=some g->g<C):wr.ownsRow A e size v k xs:=
 Cv c λb a _=>h.turn.block b (q b a) λi p=>by
  obtain⟨_,aa,ac,m,d⟩:=h0.dom.node i p;rcases c.2 with⟨e1,_⟩|⟨g,cap,T,e1,O,r,_⟩
  .rw[e1]at a;simp[A6]at a
  have e2:g=b:=by rw[e1]at a;simpa [A6]using a
  subst e2;refine⟨CC r m x,λo=> ?_⟩;rw[E4 m]at o;rcases d.2 with⟨l,_⟩|⟨z,y,f,l,_,t,_⟩
  .rw[l]at o;simp[A6]at o
  have E:z=g:=by rw[l]at o;simpa [A6]using o
  subst E;rw[r]at t;simp at t;exact j t.2
theorem PA.other{C:Nat}{s0:bY}{l:Nat->Nat}(h:PA n B C Z w s l W wr)(h0:Br s0.F (λi=>i<n) s0.nd B Z V w){c:Array AS}{e:TypeId}(r:w.heap[g]? =some (.cells c e (0,0)))(v:e≠101)(b:e≠133)(p:g<C):wr.heap[g]? =some (.cells c e (0,0)):=by
 rw[h.turn.block g p λi y=> ?_]
 .exact r
 obtain⟨_,aa,ac,u,o⟩:=h0.dom.node i y;refine⟨CC r u v,λa=> ?_⟩;rw[E4 u]at a;rcases o.2 with⟨d,_⟩|⟨k,f,m,d,_,t,_⟩
 .rw[d]at a;simp[A6]at a
 have q:k=g:=by rw[d]at a;simpa [A6]using a
 subst q;rw[r]at t;simp at t;exact b t.2
theorem PA.below{C:Nat}{s0:bY}{t:Nat->Nat}(h:PA n B C Z w s t W wr)(h0:Br s0.F (λi=>i<n) s0.nd B Z V w)(u:B<=C):AL B w wr:=
 ⟨h.turn.os,h.turn.tape,h.turn.output,h.turn.size,λb l=>h.turn.block b (by omega) λi o=>by
  obtain⟨d,aa,ac,r,e⟩:=h0.dom.node i o;refine⟨by omega,λa=> ?_⟩;rw[E4 r]at a;have:=(e.lt b a).1;omega⟩
def R'(n:Nat)(bl:Nat->Nat)(S:Nat->Prop)(e:Nat->Nat)(w:AB):Prop:=∀i,i<n->∀j,S j->bl i≠e j/\∀g,rowAt w (bl i)=some g->rowAt w (e j)≠some g/\g≠e j
def Bk(g:Nat)(R:AB->Prop)(e:Bx)(w':AB):Prop:=e= .returned (.pointer (some ⟨g,0,none⟩))/\R w'
theorem Bk.mono{t:AB->Prop}(h:∀w,R w->t w){e:Bx}(k:Bk g R e N):Bk g t e N:=⟨k.1,h _ k.2⟩
theorem Jd(w:AB)(g:Nat)(a:Option Ai)(m c:Nat)(h:AX AC 109 #[.pointer (some ⟨g,0,none⟩),.slice a m c,.bool false,.func (.func 110) #[] #[]] w (Bk g R)):
 AX AC 84 #[.pointer (some ⟨g,0,none⟩),.slice a m c] w (Bk g R):=by
 have H:=AA h;clear h;go_enter func84,ntmps84;go_wp2_with fail;refine H.o.mono ?_;rintro e i ⟨rfl,t⟩;have o:=AA t;clear t;go_wp2;go_ret;exact⟨rfl,o.o⟩
theorem MC(w:AB)(g:Nat)(a:Option Ai)(m c:Nat)(h:AX AC 109 #[.pointer (some ⟨g,0,none⟩),.slice a m c,.bool true,.func (.func 111) #[] #[]] w (Bk g R)):
 AX AC 85 #[.pointer (some ⟨g,0,none⟩),.slice a m c] w (Bk g R):=by
 have H:=AA h;clear h;go_enter func85,ntmps85;go_wp2_with fail;refine H.o.mono ?_;rintro e i ⟨rfl,t⟩;have o:=AA t;clear t;go_wp2;go_ret;exact⟨rfl,o.o⟩
theorem H_(w:AB)(g:Nat)(a:Option Ai)(m c:Nat)(h:AX AC 109 #[.pointer (some ⟨g,0,none⟩),.slice a m c,.bool true,.func (.func 113) #[] #[]] w (Bk g R)):
 AX AC 86 #[.pointer (some ⟨g,0,none⟩),.slice a m c] w (Bk g R):=by
 have H:=AA h;clear h;go_enter func86,ntmps86;go_wp2_with fail;refine H.o.mono ?_;rintro e i ⟨rfl,t⟩;have o:=AA t;clear t;go_wp2;go_ret;exact⟨rfl,o.o⟩
theorem M2(w:AB)(g:Nat)(a:Option Ai)(m c:Nat)(h:AX AC 109 #[.pointer (some ⟨g,0,none⟩),.slice a m c,.bool false,.func (.func 114) #[] #[]] w (Bk g R)):
 AX AC 87 #[.pointer (some ⟨g,0,none⟩),.slice a m c] w (Bk g R):=by
 have H:=AA h;clear h;go_enter func87,ntmps87;go_wp2_with fail;refine H.o.mono ?_;rintro e i ⟨rfl,t⟩;have o:=AA t;clear t;go_wp2;go_ret;exact⟨rfl,o.o⟩
theorem Kp{n:AB->Prop}(w:AB)(g:Nat)(a:Option Ai)(m c:Nat)(h:AX AC 86 #[.pointer (some ⟨g,0,none⟩),.slice a m c] w (Bk g R))(t:∀o,R o->AX AC 89 #[.pointer (some ⟨g,0,none⟩)] o (Bk g n)):
 AX AC 88 #[.pointer (some ⟨g,0,none⟩),.slice a m c] w (Bk g n):=by
 have H:=AA h;have d:=AA t;clear h t;go_enter func88,ntmps88;go_wp2_with fail;refine H.o.mono ?_;rintro e o ⟨rfl,t⟩;have r:=AA (d.o o t);clear t;go_wp2_with fail;refine r.o.mono ?_;rintro e l ⟨rfl,i⟩;have s:=AA i;clear i;go_wp2;go_ret;exact⟨rfl,s.o⟩
theorem J3(w:AB)(g o:Nat)(a:Option Ai)(m c:Nat)(s:w.cell? ⟨o,0,none⟩=some (.slice a m c))(h:AX AC 84 #[.pointer (some ⟨g,0,none⟩),.slice a m c] w (Bk g R)):
 AX AC 140 #[.pointer (some ⟨g,0,none⟩),.pointer (some ⟨o,0,none⟩)] w (Bk g R):=by
 have H:=AA h;clear h;go_enter func140,ntmps140;go_wp2_with fail;refine H.o.mono ?_;rintro e n ⟨rfl,t⟩;have i:=AA t;clear t;go_wp2;go_ret;exact⟨rfl,i.o⟩
theorem IB(w:AB)(g o:Nat)(a:Option Ai)(m c:Nat)(s:w.cell? ⟨o,0,none⟩=some (.slice a m c))(h:AX AC 88 #[.pointer (some ⟨g,0,none⟩),.slice a m c] w (Bk g R)):
 AX AC 119 #[.pointer (some ⟨g,0,none⟩),.pointer (some ⟨o,0,none⟩)] w (Bk g R):=by
 have H:=AA h;clear h;go_enter func119,ntmps119;go_wp2_with fail;refine H.o.mono ?_;rintro e n ⟨rfl,t⟩;have i:=AA t;clear t;go_wp2;go_ret;exact⟨rfl,i.o⟩
theorem Br.nodes(h:Br F (λi=>i<n) H B Z V w):EA Z n w:=
 ⟨h.dom.inj,λi e=>by
  obtain⟨_,aa,ac,t,_⟩:=h.dom.node i e;exact(AE.1 t).1,λi e=>by
  obtain⟨_,aa,ac,t,_⟩:=h.dom.node i e;exact⟨_,t,rfl⟩⟩
def Xo(F:Fo)(bl:Nat->Nat)(xs:List Nat)(e B:Nat)(w:AB)(v x:AS)(wr:AB):Prop:=
 ∃(k:Nat) (a:Option Ai) (c:Nat),k<=xs.length/\x= .int .i64 (k:Nat)/\v= .slice a (Cm F (xs.take k)).length c/\wr.ownsRow B 70 1 (.slice a (Cm F (xs.take k)).length c) (Cm F (xs.take k)).length (Ad bl (Cm F (xs.take k)))/\Jb bl (Cm F (xs.take k)) e wr/\AL B w wr
theorem Pb(o:F.Ok (λi=>i<n) u)(K:∀i,i<n->G' (H i))(hP:Br F (λi=>i<n) H B Z V w)(xs:List Nat)(hxl:xs.length<=100000)(hx:∀x∈xs,x<n/\∃p,F.par x=some p/\(H p).kind=3)(a:Option Ai)(c:Nat)(h:B6 w w.heap.size a (Ad Z xs)):
 AX AC 136 #[.slice a xs.length c] w (Hc Z (Cm F xs) w):=by
 have hmk:∀(m:Int) (w:AB),(Instr.makeMap 143 (some (.int .i64 m))).run AC w= .ok (.map (some w.heap.size)) (w.alloc (.map #[] 0)):=λm w=>K_ _ _ _ _ _ underlying143 w;have HP:=AA hP;have HO:=AA o;have HNd:=AA K;have HX:=AA hx;have HH:=AA h;have X:AL w.heap.size w (w.alloc (.map #[] 0)):=Ac;have HB0:=AA X;have HP0:=AA (Jb.new Z w);have HPl:Hid (∀k,(Cm F (xs.take k)).length<=100000/\∀p∈Cm F (xs.take k),p<n):=λk=>by
  obtain⟨_,h2,h3⟩:=Ec F (xs.take k);refine⟨by rw[At]at h2;omega,λp D=> ?_⟩;obtain⟨x,_,hpx⟩:=h3 p D;exact(o.dom _ _ hpx).1
 clear hP o K hx h X;go_enter func136,ntmps136;go_wp2;go_loopw [3,13] (λv x wr=>Xo F Z xs w.heap.size w.heap.size w v x wr) (λ_ x _=>xs.length-(Aa x).toNat)
 .exact⟨0,none,0,by omega,rfl,rfl,Aw _ _ _ _,HP0.o,HB0.o⟩
 clear hmk;obtain⟨k,G,c1,hk,rfl,rfl,t,s,O⟩:=hrel;by_cases g:k<xs.length
 .obtain⟨b,o,rfl,hbB,hc⟩:=(HH.o.up O).at_ (by rw[AM];omega);have g1:=hc k (by rw[AM];exact g);rw[A5 g]at g1;obtain⟨C,p,D,M⟩:=HX.o xs[k] (AD g);have j:=(HO.o.dom _ _ D).1;have E:=AA (HP.o.kept O);obtain⟨-,g2,-⟩:=E.o.dom.cells C;rw[(E.o.fit _ C).par,D]at g2;simp only[Au,As]at g2;obtain⟨-,-,-,-,-,-,g3,-⟩:=E.o.dom.cells j;have hty:(V p).typ=3:=by rw[(E.o.self _ j).typ];exact(Rt (HNd.o p j)).2 M
  rw[hty]at g3;have hN:=E.o.nodes;obtain⟨hl1,z⟩:=HPl.o k;have I:=s.look hN z j;have l:Cm F (xs.take (k+1))=if p∈Cm F (xs.take k)then Cm F (xs.take k)else Cm F (xs.take k)++[p]:=by
   rw[AF g,Nn];unfold ID;rw[D]
  obtain⟨x,U⟩:∃x,x=xs[k]:=⟨_,rfl⟩;rw[<-U]at g1 g2 C;obtain⟨L,hL⟩:∃L,L=Cm F (xs.take k):=⟨_,rfl⟩;rw[<-hL]at hl1 z I l t s|-;have HBb:=AA O;by_cases d:p∈L
  .rw[decide_eq_true d]at I;rw[AJ d]at l;have W:=AA t;have r:=AA s;have f:=AA l;clear hc hN s t O D M z U hL l d;go_wp2;go_roundw
   .exact⟨k+1,G,c1,g,by go_num,by rw[f.o],by rw[f.o];exact W.o,by rw[f.o];exact r.o,HBb.o⟩
   simp[Aa];omega
  rw[decide_eq_false d]at I;rw[AI d]at l;obtain⟨Y,hst,R,N⟩:=s.store hN z j d;have r:=AA R;have P:=Nk t s;have hs1:=N.size;have hlt2:=s.lt;have T:Hid (Y.ownsRow w.heap.size 70 1 (.slice G L.length c1) L.length (Ad Z L)):=by
   refine World.ownsRow.kept t N ?_;by_cases e:(AO G L.length c1).ownBlock=none
   .exact .inl e
   exact .inr P
  have hbs:=O.size;have ee:=AA (O.grown N O.size (λq hq=>by cases hq;omega));have f:=AA l;clear hc s R t P hN N O D M z U hL l d;go_wp2_with(at_builtin;refine Db _ rfl (.tmp 37) (.tmp 39) rfl Z w.heap.size (.slice G L.length c1) L rfl (T.o.alloc _) (some ⟨Y.heap.size,0,none⟩) 1 1 [p] rfl rfl (Iz Y Z p) (by simp;omega) (by simp;omega) ?_);intro a3 c3 w2 A y _;have J:AL w.heap.size w w2:=(ee.o.alloc ee.o.size _).grown y (by simp;omega) (λq hq=>(T.o.lt q hq).1);have S:Jb Z (L++[p]) w.heap.size w2:=by
   refine r.o.block ?_;rw[y.block _ (by simp;omega) (λe=>by
    have:=Nk T.o r.o;exact this e.symm)]
   exact((AW Y.heap.size Y).alloc (AG _) _).block _ r.o.lt
  have W:=AA A;have HP2:=AA S;have HB2:=AA J;have Q:(L++[p]).length=L.length+1:=by simp
  clear A y J S I hst;go_wp2;go_roundw
  .exact⟨k+1,a3,c3,g,by go_num,by rw[f.o,Q],by rw[f.o,Q];exact W.o,by rw[f.o];exact HP2.o,HB2.o⟩
  simp[Aa];omega
 obtain rfl:k=xs.length:=by omega
 rw[AU]at t|-;go_wp2;go_ret;exact⟨_,rfl,⟨G,c1,rfl,t⟩,O⟩
theorem Po(o:F.Ok (λi=>i<n) u)(l:∀i,i<n->G' (H i))(E:Br F (λi=>i<n) H B Z V w)(xs:List Nat)(j:xs.length<=100000)(hx:∀x∈xs,x<n/\∃p,F.par x=some p/\(H p).kind=3)(D g:Nat)(r:Option Ai)(N:GJ Z xs D g r w):
 AX AC 116 #[.pointer (some ⟨g,0,none⟩)] w (Lz Z (Cm F xs) r w):=by
 obtain⟨a,c,y,h,_,t⟩:=N;obtain⟨U,_,_⟩:=h.cells;have s:B6 w w.heap.size a (Ad Z xs):=by
  obtain⟨_,_,I,_,s⟩:=B6.own t;cases I
  exact s
 have R:=AA (Pb o l E xs j hx a c s);have A:=AA h;clear h t E o l hx s;go_enter func116,ntmps116;go_wp2_with fail;refine R.o.mono ?_;rintro e O ⟨v,rfl,⟨T,c1,rfl,t⟩,k⟩;have S:=AA t;have q:=AA k;clear t k;go_wp2_with fail;refine(KV g a xs.length c r y T _ c1 O (A.o.below q.o A.o.lt)).mono ?_;rintro e L ⟨rfl,d,m⟩;have z:=AA d;have f:=AA m;clear d m;go_wp2;go_ret;exact⟨_,rfl,⟨T,c1,_,z.o,q.o.size,BB S.o (λb _ k=>f.o.block b k),_,rfl⟩,BT q.o f.o⟩
theorem IV(bl:Nat->Nat)(y:Nat)(t:Option Ai)(w:AB):
 AX AC 126 #[.pointer (some ⟨bl y,0,none⟩),.pointer t] w (λe w'=>e= .returned (.pointer (some ⟨w.heap.size+1,0,none⟩))/\DP w' (w.heap.size+1) (some ⟨w.heap.size,0,none⟩) 1 1 t none/\w'.ownsRow w.heap.size 70 1 (.slice (some ⟨w.heap.size,0,none⟩) 1 1) 1 (Ad bl [y])/\AL w.heap.size w w'):=by
 obtain⟨a,o⟩:∃a,a=w.alloc (.cells #[.pointer (some ⟨bl y,0,none⟩)] 70):=⟨_,rfl⟩;have n:a.heap.size=w.heap.size+1:=by rw[o];simp
 have s:a.heap[w.heap.size]? =some (.cells #[.pointer (some ⟨bl y,0,none⟩)] 70 (0,0)):=by rw[o];exact Ah w _
 have i:AL w.heap.size w a:=by rw[o];exact Ac
 have r:Hid (DP (a.alloc (.cells #[.slice (some ⟨w.heap.size,0,none⟩) 1 1,.pointer t,.pointer none] 66)) (w.heap.size+1) (some ⟨w.heap.size,0,none⟩) 1 1 t none/\(a.alloc (.cells #[.slice (some ⟨w.heap.size,0,none⟩) 1 1,.pointer t,.pointer none] 66)).ownsRow w.heap.size 70 1 (.slice (some ⟨w.heap.size,0,none⟩) 1 1) 1 (Ad bl [y])/\AL w.heap.size w (a.alloc (.cells #[.slice (some ⟨w.heap.size,0,none⟩) 1 1,.pointer t,.pointer none] 66))):=by
  refine⟨?_,?_,i.alloc i.size _⟩
  .rw[<-n];exact Ah a _
  have h:a.ownsRow w.heap.size 70 1 (.slice (some ⟨w.heap.size,0,none⟩) 1 1) 1 (Ad bl [y]):=⟨by simp[Ad],.inr ⟨w.heap.size,1,_,rfl,AG _,s,AG _,by simp[maxLen],rfl,rfl⟩⟩;exact h.alloc _
 subst o;clear s i n;go_enter func126,ntmps126;go_wp2;go_ret;exact⟨rfl,r.o⟩
theorem Ts{I:Nat->AB->Prop}(g:Nat)(t:List Nat)(bl:Nat->Nat)(a i:Option Ai)(c:Nat)(Y:t.length<=100000)(w:AB)(p:I 0 w)
 (h0:∀k W,I k W->W.cell? ⟨g,0,none⟩=some (.slice a t.length c)/\W.cell? ⟨g,1,none⟩=some (.pointer i)/\B6 W W.heap.size a (Ad bl t))
 (u:∀k (S:k<t.length) W r,I k W->DP r (W.heap.size+1) (some ⟨W.heap.size,0,none⟩) 1 1 i none->r.ownsRow W.heap.size 70 1 (.slice (some ⟨W.heap.size,0,none⟩) 1 1) 1 (Ad bl [t[k]])->AL W.heap.size W r->
  AX AC 118 #[.int .i64 k,.pointer (some ⟨W.heap.size+1,0,none⟩)] r (λe w'=>e= .returned (.tuple #[])/\I (k+1) w')):
 AX AC 117 #[.pointer (some ⟨g,0,none⟩),.func (.func 118) #[] #[]] w (Bk g (I t.length)):=by
 have q:=AA u;have C:=AA h0;have U:=AA p;obtain⟨L,-,-⟩:=h0 0 w p;clear u h0 p;go_enter func117,ntmps117;go_wp2;go_loopw [12] (λx wr=>∃k:Nat,k<=t.length/\x= .int .i64 k/\Hid (I k wr)) (λx _=>t.length-(Aa x).toNat)
 .exact⟨0,by omega,rfl,U.o⟩
 obtain⟨k,S,rfl,l⟩:=hrel;obtain⟨W,rfl⟩:∃W:AB,W=wr:=⟨_,rfl⟩;clear L;by_cases d:k<t.length
 .obtain⟨-,G,s⟩:=C.o k W l.o;obtain⟨b,o,rfl,M,E⟩:=s.at_ (by rw[AM];omega);have T:=E k (by rw[AM];exact d);rw[A5 d]at T;have O:=AA (λr (D:DP r (W.heap.size+1) (some ⟨W.heap.size,0,none⟩) 1 1 i none) R H=>q.o k d W r l.o D R H);have A:=AA (IV bl t[k] i W);obtain⟨y,z⟩:∃y,y=bl t[k]:=⟨_,rfl⟩;rw[<-z]at T A;clear E s z;go_wp2_with fail;refine A.o.mono ?_;rintro e N ⟨rfl,n,h,m⟩;have j:=AA (O.o N n (by exact h) m);clear n h m O;go_wp2_with fail;refine j.o.mono ?_;rintro e F ⟨rfl,f⟩;have v:=AA f;clear f;go_wp2;go_roundw
  .exact⟨k+1,by omega,by go_num,v.o⟩
  simp[Aa];omega
 have e:k=t.length:=by omega
 subst e;go_wp2;go_ret;exact⟨rfl,l.o⟩
theorem SG{I:Nat->AB->Prop}(g:Nat)(t:List Nat)(bl:Nat->Nat)(a i:Option Ai)(c:Nat)(T:Nat)(G:t.length<=100000)(w:AB)(p:I 0 w)
 (h0:∀k W,I k W->W.cell? ⟨g,0,none⟩=some (.slice a t.length c)/\W.cell? ⟨g,1,none⟩=some (.pointer i)/\B6 W W.heap.size a (Ad bl t))
 (u:∀k (H:k<t.length) W r,I k W->DP r (W.heap.size+1) (some ⟨W.heap.size,0,none⟩) 1 1 i none->r.ownsRow W.heap.size 70 1 (.slice (some ⟨W.heap.size,0,none⟩) 1 1) 1 (Ad bl [t[k]])->AL W.heap.size W r->
  AX AC 148 #[.int .i64 k,.pointer (some ⟨W.heap.size+1,0,none⟩),.pointer (some ⟨T,0,none⟩)] r (λe w'=>e= .returned (.tuple #[])/\I (k+1) w')):
 AX AC 117 #[.pointer (some ⟨g,0,none⟩),.func (.func 148) #[] #[.pointer (some ⟨T,0,none⟩)]] w (Bk g (I t.length)):=by
 have q:=AA u;have M:=AA h0;have C:=AA p;obtain⟨U,-,-⟩:=h0 0 w p;clear u h0 p;go_enter func117,ntmps117;go_wp2;go_loopw [12] (λx wr=>∃k:Nat,k<=t.length/\x= .int .i64 k/\Hid (I k wr)) (λx _=>t.length-(Aa x).toNat)
 .exact⟨0,by omega,rfl,C.o⟩
 obtain⟨k,H,rfl,l⟩:=hrel;obtain⟨W,rfl⟩:∃W:AB,W=wr:=⟨_,rfl⟩;clear U;by_cases d:k<t.length
 .obtain⟨-,P,s⟩:=M.o k W l.o;obtain⟨b,o,rfl,F,E⟩:=s.at_ (by rw[AM];omega);have A:=E k (by rw[AM];exact d);rw[A5 d]at A;have N:=AA (λr (L:DP r (W.heap.size+1) (some ⟨W.heap.size,0,none⟩) 1 1 i none) D R=>q.o k d W r l.o L D R);have O:=AA (IV bl t[k] i W);obtain⟨y,z⟩:∃y,y=bl t[k]:=⟨_,rfl⟩;rw[<-z]at A O;clear E s z;go_wp2_with fail;refine O.o.mono ?_;rintro e S ⟨rfl,n,h,m⟩;have j:=AA (N.o S n (by exact h) m);clear n h m N;go_wp2_with fail;refine j.o.mono ?_;rintro e Y ⟨rfl,f⟩;have v:=AA f;clear f;go_wp2;go_roundw
  .exact⟨k+1,by omega,by go_num,v.o⟩
  simp[Aa];omega
 have e:k=t.length:=by omega
 subst e;go_wp2;go_ret;exact⟨rfl,l.o⟩
theorem QN{I:Nat->AB->Prop}(g:Nat)(t:List Nat)(bl:Nat->Nat)(a i:Option Ai)(c:Nat)(T:Nat)(G:t.length<=100000)(w:AB)(p:I 0 w)
 (h0:∀k W,I k W->W.cell? ⟨g,0,none⟩=some (.slice a t.length c)/\W.cell? ⟨g,1,none⟩=some (.pointer i)/\B6 W W.heap.size a (Ad bl t))
 (u:∀k (H:k<t.length) W r,I k W->DP r (W.heap.size+1) (some ⟨W.heap.size,0,none⟩) 1 1 i none->r.ownsRow W.heap.size 70 1 (.slice (some ⟨W.heap.size,0,none⟩) 1 1) 1 (Ad bl [t[k]])->AL W.heap.size W r->
  AX AC 150 #[.int .i64 k,.pointer (some ⟨W.heap.size+1,0,none⟩),.pointer (some ⟨T,0,none⟩)] r (λe w'=>e= .returned (.tuple #[])/\I (k+1) w')):
 AX AC 117 #[.pointer (some ⟨g,0,none⟩),.func (.func 150) #[] #[.pointer (some ⟨T,0,none⟩)]] w (Bk g (I t.length)):=by
 have q:=AA u;have M:=AA h0;have C:=AA p;obtain⟨U,-,-⟩:=h0 0 w p;clear u h0 p;go_enter func117,ntmps117;go_wp2;go_loopw [12] (λx wr=>∃k:Nat,k<=t.length/\x= .int .i64 k/\Hid (I k wr)) (λx _=>t.length-(Aa x).toNat)
 .exact⟨0,by omega,rfl,C.o⟩
 obtain⟨k,H,rfl,l⟩:=hrel;obtain⟨W,rfl⟩:∃W:AB,W=wr:=⟨_,rfl⟩;clear U;by_cases d:k<t.length
 .obtain⟨-,P,s⟩:=M.o k W l.o;obtain⟨b,o,rfl,F,E⟩:=s.at_ (by rw[AM];omega);have A:=E k (by rw[AM];exact d);rw[A5 d]at A;have N:=AA (λr (L:DP r (W.heap.size+1) (some ⟨W.heap.size,0,none⟩) 1 1 i none) D R=>q.o k d W r l.o L D R);have O:=AA (IV bl t[k] i W);obtain⟨y,z⟩:∃y,y=bl t[k]:=⟨_,rfl⟩;rw[<-z]at A O;clear E s z;go_wp2_with fail;refine O.o.mono ?_;rintro e S ⟨rfl,n,h,m⟩;have j:=AA (N.o S n (by exact h) m);clear n h m N;go_wp2_with fail;refine j.o.mono ?_;rintro e Y ⟨rfl,f⟩;have v:=AA f;clear f;go_wp2;go_roundw
  .exact⟨k+1,by omega,by go_num,v.o⟩
  simp[Aa];omega
 have e:k=t.length:=by omega
 subst e;go_wp2;go_ret;exact⟨rfl,l.o⟩
structure Xl(bl:Nat->Nat)(p:Nat)(K:List Nat)(b1 b2 b3:Nat)(w:AB):Prop where
 st_:w.cell? ⟨b1,0,none⟩=some (.int .i64 4)
 par:w.cell? ⟨b2,0,none⟩=some (.pointer (some ⟨bl p,0,none⟩))
 skip:w.cell? ⟨b3,0,none⟩=some (.pointer none)
 fst:w.cell? ⟨bl p,1,none⟩=some (Ih bl K 0)
 nxt:∀k (h:k<K.length),w.cell? ⟨bl K[k],4,none⟩=some (Ih bl K (k+1))
 typ:∀k (h:k<K.length),∃y,w.cell? ⟨bl K[k],5,none⟩=some (.int .u32 y)
theorem Xl.below{K:List Nat}{n i o:Nat}(h:Xl Z p K n i o w)(s:AL w.heap.size w N):Xl Z p K n i o N:=
 have e:∀{p:Ai} {v:AS},w.cell? p=some v->N.cell? p=some v:=λa=>(s.cell (Bn w _ a)).trans a
 ⟨e h.st_,e h.par,e h.skip,e h.fst,λk t=>e (h.nxt k t),λk t=>by obtain⟨y,q⟩:=h.typ k t;exact⟨y,e q⟩⟩
theorem Sb(bl:Nat->Nat)(p:Nat)(K:List Nat)(g f m:Nat)(w:AB)(h:Xl bl p K g f m w)(k:Nat)(j:k<=K.length):
 AX AC 153 #[Ll bl K k,.pointer (some ⟨g,0,none⟩),.pointer (some ⟨f,0,none⟩),.pointer (some ⟨m,0,none⟩)] w λe w'=>e= .returned (Ih bl K k)/\w=w':=by
 have c1:=h.st_;have c2:=h.par;have c3:=h.skip;have c4:=h.fst;have b:=AA h.nxt;have v:=AA h.typ;clear h;by_cases u:k<K.length
 .obtain⟨y,c⟩:=v.o k u;have t:=Ft (bl:=bl) u;by_cases l:k=0
  .subst l;have a:Hid (Ll bl K 0= .pointer none):=rfl;rw[t]at c4|-;rw[a.o];obtain⟨q,s⟩:∃q,q=K[0]:=⟨_,rfl⟩;rw[<-s]at c c4|-;clear s t;go_enter func153,ntmps153;go_wp2;go_loopw [0] (λx wr=>x= .pointer none/\w=wr) (λx _=>0)
   .exact⟨rfl,rfl⟩
   obtain⟨rfl,rfl⟩:=hrel;cases d:(y==3)
   .have i:(y==3)=false:=d;go_wp2;go_ret;exact⟨rfl,rfl⟩
   have i:(y==3)=true:=d;go_wp2;go_ret;exact⟨rfl,rfl⟩
  have o:k-1<K.length:=by omega
  have n:=b.o (k-1) o;rw[Nat.sub_add_cancel (by omega),t]at n;have a:Hid (Ll bl K k= .pointer (some ⟨bl K[k-1],0,none⟩)):=by
   unfold Ll Hid;rw[AI l,Ft o]
  rw[t,a.o];obtain⟨r,hr⟩:∃r,r=K[k-1]:=⟨_,rfl⟩;obtain⟨q,s⟩:∃q,q=K[k]:=⟨_,rfl⟩;rw[<-hr]at n a|-;rw[<-s]at c n|-;clear s hr t c4 a;go_enter func153,ntmps153;go_wp2;go_loopw [0] (λx wr=>x= .pointer (some ⟨bl r,0,none⟩)/\w=wr) (λx _=>0)
  .exact⟨rfl,rfl⟩
  obtain⟨rfl,rfl⟩:=hrel;cases d:(y==3)
  .have i:(y==3)=false:=d;go_wp2;go_ret;exact⟨rfl,rfl⟩
  have i:(y==3)=true:=d;go_wp2;go_ret;exact⟨rfl,rfl⟩
 have t:Ih bl K k= .pointer none:=KT (by omega);by_cases l:k=0
 .subst l;have a:Hid (Ll bl K 0= .pointer none):=rfl;rw[t]at c4|-;rw[a.o];clear t;go_enter func153,ntmps153;go_wp2;go_loopw [0] (λx wr=>x= .pointer none/\w=wr) (λx _=>0)
  .exact⟨rfl,rfl⟩
  obtain⟨rfl,rfl⟩:=hrel;go_wp2;go_ret;exact⟨rfl,rfl⟩
 have o:k-1<K.length:=by omega
 have n:=b.o (k-1) o;rw[Nat.sub_add_cancel (by omega),t]at n;have a:Hid (Ll bl K k= .pointer (some ⟨bl K[k-1],0,none⟩)):=by
  unfold Ll Hid;rw[AI l,Ft o]
 rw[t,a.o];obtain⟨r,hr⟩:∃r,r=K[k-1]:=⟨_,rfl⟩;rw[<-hr]at n a|-;clear hr t c4 a;go_enter func153,ntmps153;go_wp2;go_loopw [0] (λx wr=>x= .pointer (some ⟨bl r,0,none⟩)/\w=wr) (λx _=>0)
 .exact⟨rfl,rfl⟩
 obtain⟨rfl,rfl⟩:=hrel;go_wp2;go_ret;exact⟨rfl,rfl⟩
def VR(bl:Nat->Nat)(K:List Nat)(B:Nat)(W:AB)(v x:AS)(wr:AB):Prop:=
 ∃(k:Nat) (a:Option Ai) (c:Nat),k<=K.length/\v= .slice a k c/\x=Ih bl K k/\
  wr.ownsRow B 70 1 (.slice a k c) k (Ad bl (K.take k))/\AL B W wr
theorem PJ(bl:Nat->Nat)(p:Nat)(K:List Nat)(T:K.length<=700)(w:AB)
 (O:w.cell? ⟨bl p,1,none⟩=some (Ih bl K 0))(E:∀k (h:k<K.length),w.cell? ⟨bl K[k],4,none⟩=some (Ih bl K (k+1)))
 (b:∀k (h:k<K.length),∃y,w.cell? ⟨bl K[k],5,none⟩=some (.int .u32 y))(A:∀i j (h1:i<K.length) (h2:j<K.length),bl K[i]=bl K[j]->i=j):
 AX AC 147 #[.pointer (some ⟨bl p,0,none⟩),.int .i64 4,.pointer none,.nilFunc] w (Hc bl K w):=by
 have hmf:∀(fn:Fn) (first cap:Array AS) (w:AB),(Instr.makeFunc fn first cap).run AC w= .ok (.func fn first cap) w:=λ_ _ _ _=>rfl;obtain⟨i0,ee,hz0,hz1,hz2⟩:=info_parts Tryz.ZF;have V:=λ(n:Nat) (hn:n<=700)=>G8 (P:=AC) 63 70 i0 (.pointer none) underlying63 ee hz0 .i64 .i64 0 n (by omega) (by rw[hz2];omega) (by omega);obtain⟨W,S⟩:∃W,W=((w.alloc (.cells #[.pointer (some ⟨bl p,0,none⟩)] 70)).alloc (.cells #[.int .i64 4] 178)).alloc (.cells #[.pointer none] 70):=⟨_,rfl⟩;have R:AL w.heap.size w W:=by rw[S];exact(((AW _ _).alloc (AG _) _).alloc (by simp) _).alloc (by simp;omega) _
 have B:W.heap.size=w.heap.size+3:=by rw[S];simp
 have hc:∀{q:Ai} {v:AS},w.cell? q=some v->W.cell? q=some v:=λhp=>(R.cell (Bn w _ hp)).trans hp;have U:Xl bl p K (w.heap.size+1) w.heap.size (w.heap.size+2) W:=by
  refine⟨?_,?_,?_,hc O,λk h=>hc (E k h),λk h=> ?_⟩
  .rw[S,Fv _ _ _ (by simp),World.cell?_alloc_at _ _ _ _ (by simp)];rfl
  .rw[S,Fv _ _ _ (by simp;omega),Fv _ _ _ (by simp),BI];rfl
  .rw[S,World.cell?_alloc_at _ _ _ _ (by simp)];rfl
  obtain⟨y,q1⟩:=b k h;exact⟨y,hc q1⟩
 have HB0:=AA R;have HMk:=AA V;have l:=AA A;have I:=U.st_;have HW:=AA S;have z:w.heap.size<=W.heap.size:=by omega
 have HSz:=AA B;have s:Hid (∀u,AL W.heap.size W u->∀k,k<=K.length->AX AC 153 #[Ll bl K k,.pointer (some ⟨w.heap.size+1,0,none⟩),.pointer (some ⟨w.heap.size,0,none⟩),.pointer (some ⟨w.heap.size+2,0,none⟩)] u λe w'=>e= .returned (Ih bl K k)/\u=w'):=
  λu D k hk=>Sb bl p K _ _ _ u (U.below D) k hk
 have hge3:w.heap.size+3<=W.heap.size:=by omega
 clear V S R U A O E b B hc;go_enter func147,ntmps147;go_wp2_with fail;rw[<-HW.o];refine(s.o W (AW _ _) 0 (AY _)).mono ?_;rintro e Y ⟨rfl,rfl⟩;go_wp2;go_loopw [10,11] (λv x wr=>∃k:Nat,k<=K.length/\v= .int .i64 k/\x=Ih bl K k/\W=wr) (λ_ x _=>UW bl K x)
 .exact⟨0,AY _,rfl,rfl,rfl⟩
 obtain⟨k,hk,rfl,rfl,rfl⟩:=hrel;have o:=AA (KO l.o hk);by_cases t:k<K.length
 .have g:=s.o W (AW _ _) (k+1) (by omega);have e1:Ll bl K (k+1)= .pointer (some ⟨bl K[k],0,none⟩):=by
   unfold Ll;rw[AI (by omega),Nat.add_sub_cancel,Ft t]
  rw[e1]at g;have g:=AA g;rw[Ft t];rw[Ft t]at o;have M:=AA (KO l.o (show k+1<=K.length by omega));obtain⟨q,N⟩:∃q,q=K[k]:=⟨_,rfl⟩;rw[<-N]at g o|-;clear N e1;go_wp2_with fail;refine g.o.mono ?_;rintro e Y ⟨rfl,rfl⟩;go_wp2;go_roundw
  .exact⟨k+1,t,by go_num,rfl,by trivial⟩
  rw[M.o,o.o];omega
 have H:k=K.length:=by omega
 subst H;rw[KT (bl:=bl) (K:=K) (k:=K.length) (AG _)];have hKl:K.length<=700:=T;obtain⟨n,hn⟩:∃n,n=K.length:=⟨_,rfl⟩;rw[<-hn]at T|-;have Z:∀w:AB,(Instr.makeSlice 63 (.int .i64 0) (.int .i64 (n:Int))).run AC w= .ok (.slice (some ⟨w.heap.size,0,none⟩) 0 n) (w.alloc (.cells (DG #[.pointer none] n) 70)):=λw=>by
  have h:=HMk.o n (by omega) w;rw[hz1,Nat.mul_one]at h;exact h
 have HN:=AA hn;clear hn t o hk;go_wp2_with fail;have r:AL W.heap.size W (W.alloc (.cells (DG #[.pointer none] n) 70)):=Ac;refine(s.o _ r 0 (AY _)).mono ?_;rintro e Y ⟨rfl,rfl⟩;have c:(W.alloc (.cells (DG #[.pointer none] n) 70)).ownsRow W.heap.size 70 1 (.slice (some ⟨W.heap.size,0,none⟩) 0 n) 0 []:=by
  refine⟨rfl,.inr ⟨W.heap.size,n,_,rfl,AG _,Ah W _,AY _,by unfold maxLen;omega,?_,rfl⟩⟩;show(DG #[.pointer none] n).size=_;rw[size_madeCells];omega
 have F:=AA c;have HB1:=AA r;clear c r Z;go_wp2;go_loopw [8,12] (λv x wr=>VR bl K W.heap.size W v x wr) (λ_ x _=>UW bl K x)
 .exact⟨0,some ⟨W.heap.size,0,none⟩,n,AY _,rfl,rfl,F.o,HB1.o⟩
 obtain⟨d,a1,c1,hk2,rfl,rfl,a,G⟩:=hrel;have o:=AA (KO l.o hk2);have et:=(G.cell (p:=⟨w.heap.size+1,0,none⟩) (show w.heap.size+1<W.heap.size by omega)).trans I;by_cases t:d<K.length
 .have e1:Ll bl K (d+1)= .pointer (some ⟨bl K[d],0,none⟩):=by
   unfold Ll;rw[AI (by omega),Nat.add_sub_cancel,Ft t]
  have g:Hid (∀u,AL W.heap.size W u->AX AC 153 #[.pointer (some ⟨bl K[d],0,none⟩),.pointer (some ⟨w.heap.size+1,0,none⟩),.pointer (some ⟨w.heap.size,0,none⟩),.pointer (some ⟨w.heap.size+2,0,none⟩)] u λe w'=>e= .returned (Ih bl K (d+1))/\u=w'):=by
   intro u D;have:=s.o u D (d+1) (by omega);rw[e1]at this;exact this
  rw[Ft t];rw[Ft t]at o;have M:=AA (KO l.o (show d+1<=K.length by omega));have C:Hid (K.take (d+1)=K.take d++[K[d]]):=AF t;have Q:(K.take d).length=d:=by rw[At];omega
  obtain⟨L,hL⟩:∃L,L=K.take d:=⟨_,rfl⟩;rw[<-hL]at C a Q;obtain⟨q,N⟩:∃q,q=K[d]:=⟨_,rfl⟩;rw[<-N]at g o C|-;have hszr:=G.size;have X:=AA (show d<K.length from t);subst Q;have J:=AA a;clear N hL e1 a;go_wp2_with(at_builtin;refine Db _ rfl (.tmp 47) (.tmp 49) rfl bl W.heap.size (.slice a1 L.length c1) L rfl (J.o.alloc _) (some ⟨wr.heap.size,0,none⟩) 1 1 [q] rfl rfl (Iz wr bl q) (by simp;omega) (by simp;omega) ?_);intro a3 c3 Y m f _;have r:AL W.heap.size W Y:=(G.alloc G.size _).grown f (by simp;omega) (λq N=>(J.o.lt q N).1);have HO1:=AA m;have gbox1:=(r.cell (p:=⟨w.heap.size+1,0,none⟩) (show w.heap.size+1<W.heap.size by omega)).trans I;have HC1:=AA (g.o Y r);have HB2:=AA r;clear m f et r;go_wp2_with fail;refine HC1.o.mono ?_;rintro e w2 ⟨rfl,rfl⟩;go_wp2;go_roundw
  .exact⟨L.length+1,a3,c3,X.o,by simp,rfl,by rw[C.o];have:=HO1.o;simpa using this,HB2.o⟩
  rw[M.o,o.o];have:=X.o;omega
 have H:d=K.length:=by omega
 subst H;rw[KT (bl:=bl) (K:=K) (k:=K.length) (AG _)];rw[AU]at a;have HOw:=AA a;clear t o a;go_wp2;go_ret;exact⟨_,rfl,⟨a1,c1,rfl,Bf HOw.o z⟩,HB0.o.trans (G.mono z)⟩
theorem X7(o:F.Ok (λi=>i<n) u)(m:n<=600)(t:Br F (λi=>i<n) H B Z V w)(y:Nat)(l:y<n):
 AX AC 147 #[.pointer (some ⟨Z y,0,none⟩),.int .i64 4,.pointer none,.nilFunc] w (Hc Z (F.kids y) w):=by
 have s:∀c∈F.kids y,F.par c=some y/\c<n:=λc r=>⟨(o.mem y c).1 r,(o.dom _ _ ((o.mem y c).1 r)).2⟩;refine PJ Z y (F.kids y) (by have:=BH (o.nodup y) (λc r=>(s c r).2);omega) w ?_ (λk h=> ?_) (λk h=> ?_) (λi j d a e=> ?_)
 .obtain⟨-,-,c1,-⟩:=t.dom.cells (i:=y) l;rw[(t.fit y l).fst,List.head?_eq_getElem?]at c1;exact c1
 .obtain⟨d,a⟩:=s _ (AD h);obtain⟨-,-,-,-,-,c4,-⟩:=t.dom.cells (i:=(F.kids y)[k]) a;rw[((t.fit _ a).sib y d).2,Ju (o.nodup y) h]at c4;exact c4
 .obtain⟨d,a⟩:=s _ (AD h);obtain⟨-,-,-,-,-,-,c5,-⟩:=t.dom.cells (i:=(F.kids y)[k]) a;exact⟨_,c5⟩
 exact(C0 (o.nodup y)).1 (t.dom.inj _ _ (s _ (AD d)).2 (s _ (AD a)).2 e)
theorem KE(o:F.Ok (λi=>i<n) u)(hn:n<=600)(E:Br F (λi=>i<n) H B Z V w)(y:Nat)(hy:y<n)(D g:Nat)(z:Option Ai)(hs:GJ Z [y] D g z w):
 AX AC 120 #[.pointer (some ⟨g,0,none⟩)] w (Lz Z (F.kids y) z w):=by
 have hmf:∀(fn:Fn) (first cap:Array AS) (w:AB),(Instr.makeFunc fn first cap).run AC w= .ok (.func fn first cap) w:=λ_ _ _ _=>rfl;obtain⟨a,c,N,d,_,t⟩:=hs;obtain⟨c0,_,_⟩:=d.cells;obtain⟨W,k⟩:∃W,W=w.alloc (.cells #[.int .i64 4] 178):=⟨_,rfl⟩;have r:AL w.heap.size w W:=by rw[k];exact Ac
 have m:W.cell? ⟨w.heap.size,0,none⟩=some (.int .i64 4):=by rw[k,BI];rfl
 have h:B6 w w.heap.size a (Ad Z [y]):=by
  obtain⟨_,_,hv,_,h⟩:=B6.own t;cases hv
  exact h
 obtain⟨K,T⟩:∃K,K=F.kids y:=⟨_,rfl⟩;have j:=AA (λW' (C:AL w.heap.size w W')=>X7 o hn (E.kept C) y hy);rw[<-T]at j|-;rw[show[y].length=1 from rfl]at c0;have inner:AX AC 146 #[.int .i64 0,.pointer (some ⟨Z y,0,none⟩),.pointer (some ⟨w.heap.size,0,none⟩)] W (Hc Z K W):=by
  have Q:=AA (j.o W r);have P:=AA (j.o W.drew r.drew);clear E o d t h k j T;go_enter func146,ntmps146;go_wp2_with fail;refine(by first|exact Q.o|exact P.o:AX AC 147 _ _ _).mono ?_;rintro e S ⟨v,rfl,t,s⟩;have q:=AA t;have l:=AA s;clear t s;go_wp2;go_ret;exact⟨_,rfl,q.o,l.o⟩
 have x:AX AC 145 #[.slice a 1 c,.func (.func 146) #[] #[.pointer (some ⟨w.heap.size,0,none⟩)]] W (Hc Z K W):=by
  have G:=AA inner;obtain⟨b,o2,rfl,hbB,X⟩:=(h.up r).at_ (by simp[Ad]);have g1:=X 0 (by simp[Ad]);have e1:(Ad Z [y])[0]'(by simp[Ad])= .pointer (some ⟨Z y,0,none⟩):=rfl;rw[e1,Dj]at g1;clear E o d t h k j T inner m X e1;go_enter func145,ntmps145;go_wp2_with fail;refine G.o.mono ?_;rintro e S ⟨v,rfl,t,s⟩;have q:=AA t;have l:=AA s;clear t s;go_wp2;go_ret;exact⟨_,rfl,q.o,l.o⟩
 have HM:=AA x;have HW:=AA k;have J:=AA r;have p:=r.size;have f:AX AC 137 #[.slice a 1 c,.int .i64 4] w (Hc Z K w):=by
  clear E o d t h k j T inner x m r c0;go_enter func137,ntmps137;go_wp2_with fail;rw[<-HW.o];refine HM.o.mono ?_;rintro e S ⟨v,rfl,⟨L,c1,rfl,t⟩,s⟩;have q:=AA (Bf t p);have l:=AA (BT J.o s);clear t s;go_wp2;go_ret;exact⟨_,rfl,⟨L,c1,rfl,q.o⟩,l.o⟩
 have Y:=AA f;have HS:=AA d;clear E o d t h k j T inner x f m r p;go_enter func120,ntmps120;go_wp2_with fail;refine Y.o.mono ?_;rintro e S ⟨v,rfl,⟨L,c1,rfl,t⟩,R⟩;have q:=AA t;have U:=AA R;clear t R;go_wp2_with fail;refine(KV g a [y].length c z N L _ c1 S (HS.o.below U.o HS.o.lt)).mono ?_;rintro e w2 ⟨rfl,A,O⟩;have M:=AA A;have I:=AA O;clear A O;go_wp2;go_ret;exact⟨_,rfl,⟨L,c1,_,M.o,U.o.size,BB q.o (λb _ R=>I.o.block b R),_,rfl⟩,BT U.o I.o⟩
def TT(S:Nat->Prop)(kb:Nat->Nat)(w w':AB):Prop:=∀y,S y->∀u,w'.cell? ⟨kb y,7,none⟩=some u->w.cell? ⟨kb y,7,none⟩=some u\/∀b,u.ownBlock=some b->w.heap.size<=b
def J5(F:Fo)(S:Nat->Prop)(nd:Nat->Nd)(t:Nat->Int)(B:Nat)(kb:Nat->Nat)(i:Nat)(w:AB)(e:Bx)(w':AB):Prop:=
 e= .returned (.tuple #[])/\(Ct (F.cut i) S nd t B kb w'/\TT S kb w w')/\Al S kb w w'
theorem XL{ht:Nat->Nat}(o:F.Ok S ht)(h:Ct F S H P B O w)(hBw:B<=w.heap.size)(i p:Nat)(hp:F.par i=some p)(l1 l2:List Nat)(hk:F.kids p=l1++i::l2)(hlen:(F.kids p).length<=100000)
 (ka:Option Ai)(x:Nat)(c7:w.cell? ⟨O p,7,none⟩=some (.slice ka (F.kids p).length x))(hkc:(F.kids p).length<=x)(D:w.ownsRow B 57 1 (.slice ka (F.kids p).length x) (F.kids p).length (Ad O (F.kids p)))(hcap:¬x=l1.length+1):
 AX AC 39 #[.pointer (some ⟨O i,0,none⟩)] w (J5 F S H P B O i w):=by
 have HP:=AA (Ed o h i p hp l1 l2 hk hlen);obtain⟨m,I⟩:=o.dom p i hp;have hpi:p≠i:=λe=>by have:=o.ht p i hp;rw[e]at this;omega
 have hne:O p≠O i:=λe=>hpi (h.inj p i m I e);obtain⟨if_,c6,-⟩:=h.cells I;obtain⟨pf,-⟩:=h.cells m;rw[hp]at c6;simp only[Au,As]at c6;obtain⟨_,_,hv,_,hrs⟩:=B6.own D;cases hv
 have hkl:(F.kids p).length=l1.length+l2.length+1:=by rw[hk];simp;omega
 obtain⟨b,n,rfl,hbB,hc⟩:=hrs.at_ (by rw[AM];omega);have hlp:=h.lt m;have hli:=h.lt I;have hnd:=o.nodup p;have HL2:Hid ((F.kids p).length-(l1.length+1)=l2.length):=by unfold Hid;omega
 have HL3:Hid (l1.length+l2.length<=100000):=by unfold Hid;omega
 have A:AL w.heap.size w (w.alloc (.cells #[] 57)).drew:=((AW _ _).alloc (AG _) _).drew;have HB0:=AA A;have HE:Hid ((w.alloc (.cells #[] 57)).drew.ownsRow w.heap.size 57 1 (.slice (some ⟨w.heap.size,0,none⟩) 0 0) 0 []):=JM w 57;have HR1:Hid (∀W,AL w.heap.size w W->B6 W W.heap.size (some ⟨b,n,none⟩) (Ad O l1)):=by
  intro W s;rcases BJ l1.length with h0|h0
  .rw[Ag h0];exact .inl rfl
  refine .inr ⟨b,n,rfl,by have:=s.size;omega,λq hq=> ?_⟩;rw[AM]at hq;rw[s.cell (p:=⟨b,_,none⟩) hbB,hc q (by rw[AM];omega),A5 hq,A5 (by omega)];simp only[hk];rw[Cs hq]
 have HR2:Hid (∀W,AL w.heap.size w W->B6 W W.heap.size (some ⟨b,n+(l1.length+1),none⟩) (Ad O l2)):=by
  intro W s;refine .inr ⟨b,n+(l1.length+1),rfl,by have:=s.size;omega,λq hq=> ?_⟩;rw[AM]at hq;have e:n+(l1.length+1)+q=n+(l1.length+1+q):=by omega
  rw[e,s.cell (p:=⟨b,_,none⟩) hbB,hc (l1.length+1+q) (by rw[AM];omega),A5 hq,A5 (by omega)];simp only[hk];rw[Gt (by omega)];have e2:l1.length+1+q-l1.length=q+1:=by omega
  simp only[e2,List.getElem_cons_succ]
 have r:∀W,AL w.heap.size w W->W.cell? ⟨O i,6,none⟩=some (.pointer (some ⟨O p,0,none⟩))/\W.cell? ⟨O p,7,none⟩=some (.slice (some ⟨b,n,none⟩) (F.kids p).length x):=λW s=>⟨(s.cell (p:=⟨O i,_,none⟩) hli).trans c6,(s.cell (p:=⟨O p,_,none⟩) hlp).trans c7⟩;have hfz:∀W,AL w.heap.size w W->(∀j,W.frozen? ⟨O p,j,none⟩=false)/\(∀j,W.frozen? ⟨O i,j,none⟩=false):=λW s=>⟨λj=>(Bj (s.block _ hlp)).trans (pf j),λj=>(Bj (s.block _ hli)).trans (if_ j)⟩;have HC1:=AA (r _ A);have HB1:Hid (∀l,(w.alloc (.cells #[] 57)).drew.grownBy l (AO (some ⟨w.heap.size,0,none⟩) 0 0).ownBlock->AL w.heap.size w l/\(l.cell? ⟨O i,6,none⟩=some (.pointer (some ⟨O p,0,none⟩))/\l.cell? ⟨O p,7,none⟩=some (.slice (some ⟨b,n,none⟩) (F.kids p).length x))):=by
  intro l hg;have s:AL w.heap.size w l:=A.grown hg A.size (λk e=>by cases e;exact AG _);exact⟨s,r _ s⟩
 have HB2:Hid (∀l a,AL w.heap.size w l->∀{a1:Option Ai} {c1:Nat},l.ownsRow w.heap.size 57 1 (.slice a1 l1.length c1) l1.length (Ad O l1)->l.grownBy a (AO a1 l1.length c1).ownBlock->AL w.heap.size w a/\(a.cell? ⟨O i,6,none⟩=some (.pointer (some ⟨O p,0,none⟩))/\a.cell? ⟨O p,7,none⟩=some (.slice (some ⟨b,n,none⟩) (F.kids p).length x))/\a.frozen? ⟨O p,7,none⟩=false/\a.frozen? ⟨O i,6,none⟩=false/\True):=by
  intro l a s a1 c1 ho hg;have c:AL w.heap.size w a:=s.grown hg s.size (λk e=>(ho.lt k e).1);exact⟨c,r _ c,(hfz _ c).1 7,(hfz _ c).2 6,trivial⟩
 have HZ:Hid (∀(a:AB) (v:AS),a.cell? ⟨O i,6,none⟩=some (.pointer (some ⟨O p,0,none⟩))->a.frozen? ⟨O i,6,none⟩=false->(a.setCell ⟨O p,7,none⟩ v).cell? ⟨O i,6,none⟩=some (.pointer (some ⟨O p,0,none⟩))/\(a.setCell ⟨O p,7,none⟩ v).frozen? ⟨O i,6,none⟩=false):=by
  intro a v h1 h2;exact⟨by rw[BN _ _ _ _ (by exact hne)];exact h1,by rw[EK];exact h2⟩
 have HF:Hid (∀(a:AB) (E:Option Ai) (c2:Nat),AL w.heap.size w a->a.ownsRow w.heap.size 57 1 (.slice E (l1++l2).length c2) (l1++l2).length (Ad O (l1++l2))->
  (Ct (F.cut i) S H P B O ((a.setCell ⟨O p,7,none⟩ (.slice E (l1++l2).length c2)).setCell ⟨O i,6,none⟩ (.pointer none))/\TT S O w ((a.setCell ⟨O p,7,none⟩ (.slice E (l1++l2).length c2)).setCell ⟨O i,6,none⟩ (.pointer none)))/\Al S O w ((a.setCell ⟨O p,7,none⟩ (.slice E (l1++l2).length c2)).setCell ⟨O i,6,none⟩ (.pointer none))):=by
  intro a E c2 s ho;have hk1:=((h.up s).Ys m (Bf ho hBw)).Yt I none;have e:(F.Ys p (l1++l2)).Yt i none=F.cut i:=by
   refine Fo.Yv (λq=>rfl) (λq=> ?_);show(if q=p then l1++l2 else F.kids q)=(F.kids q).filter _;by_cases e:q=p
   .rw[AJ e,e,hk,FQ (by rw[<-hk];exact hnd)]
   rw[AI e,CD];intro hm;rw[o.mem,hp]at hm;cases hm;exact e rfl
  rw[e]at hk1;refine⟨⟨hk1,λy hy u hu=> ?_⟩,((Al.Yq s).set m 7 _).set I 6 _⟩;have z:(a.setCell ⟨O p,7,none⟩ (.slice E (l1++l2).length c2)).cell? ⟨O y,7,none⟩=some u:=by
   exact(World.cell?_setCell_other (a.setCell ⟨O p,7,none⟩ (.slice E (l1++l2).length c2)) ⟨O i,6,none⟩ ⟨O y,7,none⟩ (.pointer none) (by simp)).symm.trans hu
  by_cases e:y=p
  .subst e;obtain⟨_,_,_,_,_,hhp,_,_⟩:=(h.up s).node y m;rw[AZ _ _ 7 _ _ _ (Ao a _ 7 _ _ _ hhp)]at z;have e9:u= .slice E (l1++l2).length c2:=by injection z with z;exact z.symm
   subst e9;exact .inr λb s=>(ho.lt b s).1
  rw[BN _ _ _ _ (by exact λe2=>e (h.inj y p hy m e2.symm)),s.cell (p:=⟨O y,7,none⟩) (h.lt hy)]at z;exact .inl z
 have hl1:l1.length<(F.kids p).length:=by omega
 have hA:l1.length<=x:=by omega
 have hA1:l1.length+1<=x:=by omega
 have hA2:l1.length+1<=(F.kids p).length:=by omega
 have hA3:(0:Int)<=(l1.length:Int)+1:=by omega
 have hA4:((l1.length:Int)+1).toNat=l1.length+1:=by omega
 have hA5:(l1.length:Int)+1<=((F.kids p).length:Int):=by omega
 have hA6:IntKind.i64.wrap ((l1.length:Int)+1)=(l1.length:Int)+1:=IntWalk.i64_in _ (by omega);clear h hp D hrs hk pf if_ hc r hfz A hkl hnd;go_enter func39,ntmps39;go_wp2_with fail;refine HP.o.mono ?_;rintro e l ⟨rfl,rfl⟩;go_wp2_with fail;refine D' (G3 28 28 28 (λw'=>w'.cell? ⟨O i,6,none⟩=some (.pointer (some ⟨O p,0,none⟩))/\w'.cell? ⟨O p,7,none⟩=some (.slice (some ⟨b,n,none⟩) (F.kids p).length x)) (λ_=>True) (λ_=>True)) (by kernel_rfl) ?_;have hG0:G3 28 28 28 (λw'=>w'.cell? ⟨O i,6,none⟩=some (.pointer (some ⟨O p,0,none⟩))/\w'.cell? ⟨O p,7,none⟩=some (.slice (some ⟨b,n,none⟩) (F.kids p).length x)) (λ_=>True) (λ_=>True) (Array.replicate 29 false) w.drew:=⟨λ_=>⟨c6,c7⟩,λ_=>trivial,λ_=>trivial⟩;refine DF 0 hG0 λhG1=> ?_;clear hG0;simp only[AQ,Cx];refine DF 1 hG1 λhG2=> ?_;clear hG1;simp only[AQ];refine DF 2 hG2 λhG3=> ?_;clear hG2;simp only[AQ];refine tH 3 28 (λ_ _ h g=>g.1 h) hG3 λhG4=> ?_;clear hG3;simp only[AQ];refine DF 5 hG4 λhG5=> ?_;clear hG4;simp only[AQ];refine DF 6 hG5 λhG6=> ?_;clear hG5;simp only[AQ];refine DF 7 hG6 λhG7=> ?_;clear hG6;simp only[AQ];refine tH 8 28 (λ_ _ h g=>g.1 h) hG7 λhG8=> ?_;clear hG7;simp only[AQ];refine DF 9 hG8 λt=> ?_;clear hG8;simp only[AQ];refine DF 10 t λet=> ?_;clear t;simp only[AQ];refine tH 11 28 (λ_ _ h g=>g.1 h) et λee=> ?_;clear et;simp only[AQ];refine DF 12 ee λZ=> ?_;clear ee;simp only[AQ];refine DF 13 Z λX=> ?_;clear Z;simp only[AQ];refine DF 15 X λJ=> ?_;clear X;simp only[AQ];refine DF 16 J λQ=> ?_;clear J;simp only[AQ];refine DF 17 Q λK=> ?_;clear Q;simp only[AQ];refine tH 18 28 (λ_ _ h g=>g.1 h) K λV=> ?_;clear K;simp only[AQ];refine DF 19 V λG=> ?_;clear V;simp only[AQ];refine DF 20 G λY=> ?_;clear G;simp only[AQ];refine tH 21 28 (λ_ _ h g=>g.1 h) Y λM=> ?_;clear Y;simp only[AQ];refine DF 22 M λC=> ?_;clear M;simp only[AQ];refine DF 23 C λU=> ?_;clear C;simp only[AQ];refine DF 24 U λhG23=> ?_;clear U;simp only[AQ];refine Bb (i:=4) (by decide+kernel) rfl (λT d=> ?_);go_simp;refine d.o _ _ ⟨λ_=>HC1.o,λ_=>trivial,λ_=>trivial⟩ (λt=> ?_);clear d T t hG23;refine Bb (i:=14) (by decide+kernel) rfl (λT d=> ?_);refine Cr _ rfl (.tmp 11) (.tmp 20) rfl O w.heap.size (.slice (some ⟨w.heap.size,0,none⟩) 0 0) [] rfl HE.o (some ⟨b,n,none⟩) l1.length x l1 rfl rfl (HR1.o _ HB0.o) (by simp;omega) (by simp) ?_;intro a1 c1 l f hg1 L;obtain⟨hb1,hc1⟩:=HB1.o l hg1;simp only[BY]at f L|-;have HO1:=AA f;have Hb1:=AA hb1;refine d.o _ _ ⟨λ_=>hc1,λ_=>trivial,λ_=>trivial⟩ (λt=> ?_);clear d T t hg1 L f hb1;refine Bb (i:=25) (by decide+kernel) rfl (λT d=> ?_);refine Cr _ rfl (.tmp 21) (.tmp 31) rfl O w.heap.size (.slice a1 l1.length c1) l1 rfl HO1.o (some ⟨b,n+(l1.length+1),none⟩) ((F.kids p).length-(l1.length+1)) (x-(l1.length+1)) l2 HL2.o rfl (HR2.o _ Hb1.o) (by have:=HL3.o;omega) Hb1.o.size ?_;intro E c2 a N hg2 hat2;obtain⟨c,R,hf2,hf6,hc6⟩:=HB2.o l a Hb1.o HO1.o hg2;have HO2:=AA N;have Hb2:=AA c;refine d.o _ _ ⟨λ_=>R,λ_=>trivial,λ_=>trivial⟩ (λt=> ?_);clear d T t hg2 hat2 N c;refine Bb (i:=26) (by decide+kernel) rfl (λT d=> ?_);go_simp;refine d.o _ _ ⟨λ_=>R,λ_=>trivial,λ_=>trivial⟩ (λt=> ?_);clear d T t;refine Bb (i:=27) (by decide+kernel) rfl (λT d=> ?_);go_simp;refine d.o _ _ ⟨λ_=>R,λ_=>trivial,λ_=>trivial⟩ (λt=> ?_);clear d T t;refine Bb (i:=28) (by decide+kernel) rfl (λT d=> ?_);obtain⟨hc26,hc27⟩:=R;go_simp;refine d.o _ _ ⟨λh=>absurd h (by decide),λh=>absurd h (by decide),λh=>absurd h (by decide)⟩ (λt=> ?_);clear d T t;refine D_ (by decide+kernel) ?_ _;obtain⟨c6z,f6z⟩:=HZ.o a (.slice E (l1++l2).length c2) hc26 hf6;have eL:(l1++l2).length=l1.length+l2.length:=AN;rw[eL]at c6z f6z;clear eL;go_wp2_with fail
 go_end0;have:=HF.o a E c2 Hb2.o HO2.o;rw[AN]at this;exact⟨rfl,this.1,this.2⟩
theorem XK{ht:Nat->Nat}(o:F.Ok S ht)(h:Ct F S H P B O w)(hBw:B<=w.heap.size)(i p:Nat)(hp:F.par i=some p)(l1 l2:List Nat)(hk:F.kids p=l1++i::l2)(hlen:(F.kids p).length<=100000)
 (ka:Option Ai)(R:Nat)(c7:w.cell? ⟨O p,7,none⟩=some (.slice ka (F.kids p).length R))(hkc:(F.kids p).length<=R)(L:w.ownsRow B 57 1 (.slice ka (F.kids p).length R) (F.kids p).length (Ad O (F.kids p)))(hcap:R=l1.length+1):
 AX AC 39 #[.pointer (some ⟨O i,0,none⟩)] w (J5 F S H P B O i w):=by
 have HP:=AA (Ed o h i p hp l1 l2 hk hlen);obtain⟨m,A⟩:=o.dom p i hp;have hpi:p≠i:=λe=>by have:=o.ht p i hp;rw[e]at this;omega
 have hne:O p≠O i:=λe=>hpi (h.inj p i m A e);obtain⟨if_,c6,-⟩:=h.cells A;obtain⟨pf,-⟩:=h.cells m;rw[hp]at c6;simp only[Au,As]at c6;obtain⟨_,_,hv,_,hrs⟩:=B6.own L;cases hv
 have hkl:(F.kids p).length=l1.length+l2.length+1:=by rw[hk];simp;omega
 obtain⟨b,s,rfl,hbB,hc⟩:=hrs.at_ (by rw[AM];omega);have hlp:=h.lt m;have hli:=h.lt A;have hnd:=o.nodup p;have HL2:Hid ((F.kids p).length-(l1.length+1)=l2.length):=by unfold Hid;omega
 have HL3:Hid (l1.length+l2.length<=100000):=by unfold Hid;omega
 have T:AL w.heap.size w (w.alloc (.cells #[] 57)).drew:=((AW _ _).alloc (AG _) _).drew;have HB0:=AA T;have HE:Hid ((w.alloc (.cells #[] 57)).drew.ownsRow w.heap.size 57 1 (.slice (some ⟨w.heap.size,0,none⟩) 0 0) 0 []):=JM w 57;have HR1:Hid (∀W,AL w.heap.size w W->B6 W W.heap.size (some ⟨b,s,none⟩) (Ad O l1)):=by
  intro W n;rcases BJ l1.length with h0|h0
  .rw[Ag h0];exact .inl rfl
  refine .inr ⟨b,s,rfl,by have:=n.size;omega,λq hq=> ?_⟩;rw[AM]at hq;rw[n.cell (p:=⟨b,_,none⟩) hbB,hc q (by rw[AM];omega),A5 hq,A5 (by omega)];simp only[hk];rw[Cs hq]
 have I:l2=[]:=Ag (by omega);have HL4:Hid (0=l2.length):=by rw[I];rfl
 have HR2:Hid (∀W,B6 W W.heap.size (some ⟨b,s,none⟩) (Ad O l2)):=by
  intro W;rw[I];exact .inl rfl
 have r:∀W,AL w.heap.size w W->W.cell? ⟨O i,6,none⟩=some (.pointer (some ⟨O p,0,none⟩))/\W.cell? ⟨O p,7,none⟩=some (.slice (some ⟨b,s,none⟩) (F.kids p).length R):=λW n=>⟨(n.cell (p:=⟨O i,_,none⟩) hli).trans c6,(n.cell (p:=⟨O p,_,none⟩) hlp).trans c7⟩;have eo:∀W,AL w.heap.size w W->(∀j,W.frozen? ⟨O p,j,none⟩=false)/\(∀j,W.frozen? ⟨O i,j,none⟩=false):=λW n=>⟨λj=>(Bj (n.block _ hlp)).trans (pf j),λj=>(Bj (n.block _ hli)).trans (if_ j)⟩;have HC1:=AA (r _ T);have HB1:Hid (∀l,(w.alloc (.cells #[] 57)).drew.grownBy l (AO (some ⟨w.heap.size,0,none⟩) 0 0).ownBlock->AL w.heap.size w l/\(l.cell? ⟨O i,6,none⟩=some (.pointer (some ⟨O p,0,none⟩))/\l.cell? ⟨O p,7,none⟩=some (.slice (some ⟨b,s,none⟩) (F.kids p).length R))):=by
  intro l hg;have n:AL w.heap.size w l:=T.grown hg T.size (λk e=>by cases e;exact AG _);exact⟨n,r _ n⟩
 have HB2:Hid (∀l a,AL w.heap.size w l->∀{a1:Option Ai} {c1:Nat},l.ownsRow w.heap.size 57 1 (.slice a1 l1.length c1) l1.length (Ad O l1)->l.grownBy a (AO a1 l1.length c1).ownBlock->AL w.heap.size w a/\(a.cell? ⟨O i,6,none⟩=some (.pointer (some ⟨O p,0,none⟩))/\a.cell? ⟨O p,7,none⟩=some (.slice (some ⟨b,s,none⟩) (F.kids p).length R))/\a.frozen? ⟨O p,7,none⟩=false/\a.frozen? ⟨O i,6,none⟩=false/\True):=by
  intro l a n a1 c1 ho hg;have c:AL w.heap.size w a:=n.grown hg n.size (λk e=>(ho.lt k e).1);exact⟨c,r _ c,(eo _ c).1 7,(eo _ c).2 6,trivial⟩
 have HZ:Hid (∀(a:AB) (v:AS),a.cell? ⟨O i,6,none⟩=some (.pointer (some ⟨O p,0,none⟩))->a.frozen? ⟨O i,6,none⟩=false->(a.setCell ⟨O p,7,none⟩ v).cell? ⟨O i,6,none⟩=some (.pointer (some ⟨O p,0,none⟩))/\(a.setCell ⟨O p,7,none⟩ v).frozen? ⟨O i,6,none⟩=false):=by
  intro a v h1 h2;exact⟨by rw[BN _ _ _ _ (by exact hne)];exact h1,by rw[EK];exact h2⟩
 have HF:Hid (∀(a:AB) (z:Option Ai) (c2:Nat),AL w.heap.size w a->a.ownsRow w.heap.size 57 1 (.slice z (l1++l2).length c2) (l1++l2).length (Ad O (l1++l2))->
  (Ct (F.cut i) S H P B O ((a.setCell ⟨O p,7,none⟩ (.slice z (l1++l2).length c2)).setCell ⟨O i,6,none⟩ (.pointer none))/\TT S O w ((a.setCell ⟨O p,7,none⟩ (.slice z (l1++l2).length c2)).setCell ⟨O i,6,none⟩ (.pointer none)))/\Al S O w ((a.setCell ⟨O p,7,none⟩ (.slice z (l1++l2).length c2)).setCell ⟨O i,6,none⟩ (.pointer none))):=by
  intro a z c2 n ho;have hk1:=((h.up n).Ys m (Bf ho hBw)).Yt A none;have e:(F.Ys p (l1++l2)).Yt i none=F.cut i:=by
   refine Fo.Yv (λq=>rfl) (λq=> ?_);show(if q=p then l1++l2 else F.kids q)=(F.kids q).filter _;by_cases e:q=p
   .rw[AJ e,e,hk,FQ (by rw[<-hk];exact hnd)]
   rw[AI e,CD];intro hm;rw[o.mem,hp]at hm;cases hm;exact e rfl
  rw[e]at hk1;refine⟨⟨hk1,λy hy u hu=> ?_⟩,((Al.Yq n).set m 7 _).set A 6 _⟩;have x:(a.setCell ⟨O p,7,none⟩ (.slice z (l1++l2).length c2)).cell? ⟨O y,7,none⟩=some u:=by
   exact(World.cell?_setCell_other (a.setCell ⟨O p,7,none⟩ (.slice z (l1++l2).length c2)) ⟨O i,6,none⟩ ⟨O y,7,none⟩ (.pointer none) (by simp)).symm.trans hu
  by_cases e:y=p
  .subst e;obtain⟨_,_,_,_,_,hhp,_,_⟩:=(h.up n).node y m;rw[AZ _ _ 7 _ _ _ (Ao a _ 7 _ _ _ hhp)]at x;have e9:u= .slice z (l1++l2).length c2:=by injection x with x;exact x.symm
   subst e9;exact .inr λb n=>(ho.lt b n).1
  rw[BN _ _ _ _ (by exact λe2=>e (h.inj y p hy m e2.symm)),n.cell (p:=⟨O y,7,none⟩) (h.lt hy)]at x;exact .inl x
 have hl1:l1.length<(F.kids p).length:=by omega
 have hA:l1.length<=R:=by omega
 have hA1:l1.length+1<=R:=by omega
 have hA2:l1.length+1<=(F.kids p).length:=by omega
 have hA3:(0:Int)<=(l1.length:Int)+1:=by omega
 have hA4:((l1.length:Int)+1).toNat=l1.length+1:=by omega
 have hA5:(l1.length:Int)+1<=((F.kids p).length:Int):=by omega
 have hA6:IntKind.i64.wrap ((l1.length:Int)+1)=(l1.length:Int)+1:=IntWalk.i64_in _ (by omega);clear h hp L hrs hk pf if_ hc r eo T hkl hnd I;subst hcap;have hX:(l1.length:Int)<=(l1.length:Int)+1:=by omega
 go_enter func39,ntmps39;go_wp2_with fail;refine HP.o.mono ?_;rintro e l ⟨rfl,rfl⟩;go_wp2_with fail;refine D' (G3 28 28 28 (λw'=>w'.cell? ⟨O i,6,none⟩=some (.pointer (some ⟨O p,0,none⟩))/\w'.cell? ⟨O p,7,none⟩=some (.slice (some ⟨b,s,none⟩) (F.kids p).length (l1.length+1))) (λ_=>True) (λ_=>True)) (by kernel_rfl) ?_;have hG0:G3 28 28 28 (λw'=>w'.cell? ⟨O i,6,none⟩=some (.pointer (some ⟨O p,0,none⟩))/\w'.cell? ⟨O p,7,none⟩=some (.slice (some ⟨b,s,none⟩) (F.kids p).length (l1.length+1))) (λ_=>True) (λ_=>True) (Array.replicate 29 false) w.drew:=⟨λ_=>⟨c6,c7⟩,λ_=>trivial,λ_=>trivial⟩;refine DF 0 hG0 λhG1=> ?_;clear hG0;simp only[AQ,Cx];refine DF 1 hG1 λhG2=> ?_;clear hG1;simp only[AQ];refine DF 2 hG2 λhG3=> ?_;clear hG2;simp only[AQ];refine tH 3 28 (λ_ _ h g=>g.1 h) hG3 λhG4=> ?_;clear hG3;simp only[AQ];refine DF 5 hG4 λhG5=> ?_;clear hG4;simp only[AQ];refine DF 6 hG5 λhG6=> ?_;clear hG5;simp only[AQ];refine DF 7 hG6 λhG7=> ?_;clear hG6;simp only[AQ];refine tH 8 28 (λ_ _ h g=>g.1 h) hG7 λhG8=> ?_;clear hG7;simp only[AQ];refine DF 9 hG8 λt=> ?_;clear hG8;simp only[AQ];refine DF 10 t λea=> ?_;clear t;simp only[AQ];refine tH 11 28 (λ_ _ h g=>g.1 h) ea λet=> ?_;clear ea;simp only[AQ];refine DF 12 et λee=> ?_;clear et;simp only[AQ];refine DF 13 ee λZ=> ?_;clear ee;simp only[AQ];refine DF 15 Z λX=> ?_;clear Z;simp only[AQ];refine DF 16 X λJ=> ?_;clear X;simp only[AQ];refine DF 17 J λQ=> ?_;clear J;simp only[AQ];refine tH 18 28 (λ_ _ h g=>g.1 h) Q λK=> ?_;clear Q;simp only[AQ];refine DF 19 K λV=> ?_;clear K;simp only[AQ];refine DF 20 V λG=> ?_;clear V;simp only[AQ];refine tH 21 28 (λ_ _ h g=>g.1 h) G λY=> ?_;clear G;simp only[AQ];refine DF 22 Y λM=> ?_;clear Y;simp only[AQ];refine DF 23 M λC=> ?_;clear M;simp only[AQ];refine DF 24 C λhG23=> ?_;clear C;simp only[AQ];refine Bb (i:=4) (by decide+kernel) rfl (λE d=> ?_);go_simp;refine d.o _ _ ⟨λ_=>HC1.o,λ_=>trivial,λ_=>trivial⟩ (λt=> ?_);clear d E t hG23;refine Bb (i:=14) (by decide+kernel) rfl (λE d=> ?_);refine Cr _ rfl (.tmp 11) (.tmp 20) rfl O w.heap.size (.slice (some ⟨w.heap.size,0,none⟩) 0 0) [] rfl HE.o (some ⟨b,s,none⟩) l1.length (l1.length+1) l1 rfl rfl (HR1.o _ HB0.o) (by simp;omega) (by simp) ?_;intro a1 c1 l f hg1 U;obtain⟨hb1,hc1⟩:=HB1.o l hg1;simp only[BY]at f U|-;have HO1:=AA f;have Hb1:=AA hb1;refine d.o _ _ ⟨λ_=>hc1,λ_=>trivial,λ_=>trivial⟩ (λt=> ?_);clear d E t hg1 U f hb1;refine Bb (i:=25) (by decide+kernel) rfl (λE d=> ?_);refine Cr _ rfl (.tmp 21) (.tmp 31) rfl O w.heap.size (.slice a1 l1.length c1) l1 rfl HO1.o (some ⟨b,s,none⟩) 0 0 l2 HL4.o rfl (HR2.o _) (by have:=HL3.o;omega) Hb1.o.size ?_;intro z c2 a N hg2 hat2;obtain⟨c,D,hf2,hf6,hc6⟩:=HB2.o l a Hb1.o HO1.o hg2;have HO2:=AA N;have Hb2:=AA c;refine d.o _ _ ⟨λ_=>D,λ_=>trivial,λ_=>trivial⟩ (λt=> ?_);clear d E t hg2 hat2 N c;refine Bb (i:=26) (by decide+kernel) rfl (λE d=> ?_);go_simp;refine d.o _ _ ⟨λ_=>D,λ_=>trivial,λ_=>trivial⟩ (λt=> ?_);clear d E t;refine Bb (i:=27) (by decide+kernel) rfl (λE d=> ?_);go_simp;refine d.o _ _ ⟨λ_=>D,λ_=>trivial,λ_=>trivial⟩ (λt=> ?_);clear d E t;refine Bb (i:=28) (by decide+kernel) rfl (λE d=> ?_);obtain⟨hc26,hc27⟩:=D;go_simp;refine d.o _ _ ⟨λh=>absurd h (by decide),λh=>absurd h (by decide),λh=>absurd h (by decide)⟩ (λt=> ?_);clear d E t;refine D_ (by decide+kernel) ?_ _;obtain⟨c6z,f6z⟩:=HZ.o a (.slice z (l1++l2).length c2) hc26 hf6;have eL:(l1++l2).length=l1.length+l2.length:=AN;rw[eL]at c6z f6z;clear eL;go_wp2_with fail
 go_end0;have:=HF.o a z c2 Hb2.o HO2.o;rw[AN]at this;exact⟨rfl,this.1,this.2⟩
theorem Hg{ht:Nat->Nat}(o:F.Ok S ht)(h:Ct F S H P B O w)(r:B<=w.heap.size)(i:Nat)(b:S i)(a:∀p,(F.kids p).length<=100000):
 AX AC 39 #[.pointer (some ⟨O i,0,none⟩)] w (J5 F S H P B O i w):=by
 cases s:F.par i with
 |none=>
  have v:=AA (Jw h i b s);have q:=AA (Fo.Y0 o s);have k:=AA h;clear h s r;go_enter func39,ntmps39;go_wp2_with fail;refine v.o.mono ?_;rintro e j ⟨rfl,rfl⟩;go_wp2_with fail
  go_end0;exact⟨rfl,⟨by rw[q.o];exact k.o,λy x u g=> .inl g⟩,Al.refl _ _ _⟩
 |some p=>
  obtain⟨l1,l2,m⟩:=D3 ((o.mem p i).2 s);obtain⟨-,-,-,c,l,f,d,t⟩:=h.cells (o.dom p i s).1;by_cases n:l=l1.length+1
  .exact XK o h r i p s l1 l2 m (a p) c l f d t n
  exact XL o h r i p s l1 l2 m (a p) c l f d t n
def Ue(x:Nd)(aa:Option Ai)(ac:Nat):Array AS:= #[.int .i64 (-1),.int .i64 x.kind,.string x.tag,.string x.text,.slice aa x.attrs.length ac,.int .i64 x.size,.pointer none,.slice none 0 0]
theorem OD{d:Nat}(o:s.F.Ok (λi=>i<s.N) h)(J:Ct s.F (λi=>i<s.N) s.nd P B O w)(Y:B<=w.heap.size)(hx:x<s.N)(hp:P s.N= -1){r:Nat}{row:AS}
 (S:w.heap[r]? =some (.cells #[row,.int .i64 (s.N:Int),.bool s.op] 56 (0,0)))(aa:Option Ai)(ac:Nat){w3:AB}{a1:Option Ai}{c1:Nat}
 (N:(((w.setCell ⟨r,1,none⟩ (.int .i64 ((s.N:Int)+1))).alloc (.cells (Ue (s.nd x) aa ac) 81)).alloc (.cells #[] 49)).grownBy w3 (some (w.heap.size+1)))(K:w3.ownsRow (w.heap.size+1) 49 2 (.slice a1 (s.nd x).attrs.length c1) (s.nd x).attrs.length (CJ (s.nd x).attrs)):
 w3.cell? ⟨w.heap.size,4,none⟩=some (.slice aa (s.nd x).attrs.length ac)/\w3.frozen? ⟨w.heap.size,4,none⟩=false/\∃kb2,Wv d s x r row P B O w 0 kb2 none 0 (w3.setCell ⟨w.heap.size,4,none⟩ (.slice a1 (s.nd x).attrs.length c1)):=by
 obtain⟨f,l⟩:∃f,f=w.setCell ⟨r,1,none⟩ (.int .i64 ((s.N:Int)+1)):=⟨_,rfl⟩;have L:f.heap[r]? =some (.cells #[row,.int .i64 ((s.N:Int)+1),.bool s.op] 56 (0,0)):=by rw[l];exact Ao w r 1 _ _ _ S
 have W:Ct s.F (λi=>i<s.N) s.nd P B O f:=by rw[l];exact J.Zi S 1 _
 have C:Al (λ_=>True) (λ_=>r) w f:=by rw[l];exact(Al.refl _ _ w).Zg 1 _
 have z:f.heap.size=w.heap.size:=by rw[l];simp[Cb]
 have hfw:r<w.heap.size:=(AE.1 S).1;rw[<-l]at N;obtain⟨g,b⟩:∃g,g=f.alloc (.cells (Ue (s.nd x) aa ac) 81):=⟨_,rfl⟩;have hnew:g.heap[w.heap.size]? =some (.cells (Ue (s.nd x) aa ac) 81 (0,0)):=by rw[b,<-z];exact Ah f _
 have hs2:g.heap.size=w.heap.size+1:=by rw[b];simp[z]
 have c:AL f.heap.size f g:=by rw[b];exact Ac
 rw[<-b]at N;have n:AL g.heap.size g w3:=((AW g.heap.size g).alloc (AG _) (.cells #[] 49)).grown N (by simp) (λk e=>by cases e;omega);have t:=(n.block w.heap.size (by omega)).trans hnew;have A:=(W.up c).up n;have E:∀y,y<s.N->O y≠w.heap.size:=λy G=>Nat.ne_of_lt (J.lt G);have D:=(n.block r (by omega)).trans ((c.block r (by omega)).trans L);refine⟨by rw[AZ w3 _ 4 _ _ _ t];rfl,A7 w3 _ 4 _ _ t,λy=>if y=s.N then w.heap.size else O y,?_⟩;obtain⟨v,a⟩:∃v,v=w3.setCell ⟨w.heap.size,4,none⟩ (.slice a1 (s.nd x).attrs.length c1):=⟨_,rfl⟩;have m:v.heap[w.heap.size]? =some (.cells #[.int .i64 (-1),.int .i64 (s.nd x).kind,.string (s.nd x).tag,.string (s.nd x).text,.slice a1 (s.nd x).attrs.length c1,.int .i64 (s.nd x).size,.pointer none,.slice none 0 0] 81 (0,0)):=by rw[a];exact Ao w3 _ 4 _ _ _ t
 have F:Ct s.F (λi=>i<s.N) s.nd P B O v:=by
  refine⟨λi Q=> ?_,A.inj⟩;obtain⟨hB,ba,bc,Z,X,hh,H,j⟩:=A.node i Q;refine⟨hB,ba,bc,Z,X,?_,?_,?_⟩
  .rw[a,A8 _ _ _ _ (by exact E i Q)];exact hh
  .rw[a];exact BS H (p:=⟨w.heap.size,4,none⟩) (Ax H t (by decide)) _
  rw[a];exact BS j (p:=⟨w.heap.size,4,none⟩) (Ax j t (by decide)) _
 have R:v.ownsRow B 49 2 (.slice a1 (s.nd x).attrs.length c1) (s.nd x).attrs.length (CJ (s.nd x).attrs):=by rw[a];exact Bf (BS K (p:=⟨w.heap.size,4,none⟩) (Ax K t (by decide)) _) (by omega)
 have M:=Ct.fresh o F E Y hx hp m R;have T:v.cell? ⟨w.heap.size,7,none⟩=some (.slice none 0 0):=by rw[AZ v _ 7 _ _ _ m];rfl
 rw[<-a];have U:=DM o (AG s.N);refine⟨by rw[EI];exact M,λy G=>AI (by omega),AJ rfl,T,?_,λy _ _ u _=>FO.nil _ _ _,?_,?_,λy H j=> ?_⟩
 .rw[EI];have:(s.fresh x).F.kids s.N=[]:=U.2;rw[this];exact Aw _ _ _ _
 .rw[EI,a,A8 _ _ _ _ (by show r≠w.heap.size;omega)];exact D
 .have e1:Al (λ_=>True) (λ_=>r) w w3:=C.trans ((Al.Yq c).trans (Al.Yq n));refine⟨by rw[a];exact e1.os,by rw[a];exact e1.tape,by rw[a];exact e1.output,by rw[a];simpa [Cb]using e1.size,λq I hn=> ?_⟩;rw[a,A8 _ _ _ _ (by show q≠w.heap.size;omega)];exact e1.block q I hn
 rw[EI]at j;have e:y=s.N:=by have:y<s.N+1:=j;omega
 subst e;simp only[if_true];refine⟨AG _,λu q V I=> ?_⟩;rw[T]at V;cases V
 simp[A6]at I
theorem LN{d:Nat}(o:s.F.Ok (λi=>i<s.N) h){f:Nat->Int}(W:Ct s.F (λi=>i<s.N) s.nd f B O w)(eh:B<=w.heap.size)(hx:x<s.N)(hd:h x<=d+1)(hp:f s.N= -1){t:Nat}{row:AS}
 (D:w.heap[t]? =some (.cells #[row,.int .i64 (s.N:Int),.bool s.op] 56 (0,0)))(hN:(DH d s x (s.F.kids x).length).N<=100000)(h6:¬600<=s.N)(V:Kk (s.nd x))(hal:(s.nd x).attrs.length<=2000)
 (Z:∀i (R:i<(s.F.kids x).length) kb2 S F wr,Wv d s x t row f B O w i kb2 S F wr->AX AC 61 #[.pointer (some ⟨t,0,none⟩),.pointer (some ⟨kb2 (s.F.kids x)[i],0,none⟩)] wr (FN (DH d s x i) (CZ d (DH d s x i) (s.F.kids x)[i]) t row f B kb2 wr)):
 AX AC 61 #[.pointer (some ⟨t,0,none⟩),.pointer (some ⟨O x,0,none⟩)] w (FN s (DH d s x (s.F.kids x).length) t row f B O w):=by
 have f1:w.cell? ⟨t,1,none⟩=some (.int .i64 (s.N:Int)):=by rw[AZ w _ 1 _ _ _ D];rfl
 have ff:=A7 w t 1 _ _ D;have hfw:t<w.heap.size:=(AE.1 D).1;have hkx:O x<w.heap.size:=W.lt hx;have hkl:(s.F.kids x).length<=600:=by
  have:=o.Yu (λi R=>R) x;omega
 have l:=AA (λ(aa:Option Ai) (ac:Nat) (m:AB) (T:Option Ai) (c1:Nat)=>OD (d:=d) (w3:=m) (a1:=T) (c1:=c1) o W eh hx hp D aa ac);have HIH:=AA Z;have K:=AA (λ(i:Nat) (kb2:Nat->Nat) (S:Option Ai) (F:Nat) (wr:AB) (H:Wv d s x t row f B O w i kb2 S F wr) (R:i<(s.F.kids x).length) (e:Bx) (Q:AB) (P:FN (DH d s x i) (CZ d (DH d s x i) (s.F.kids x)[i]) t row f B kb2 wr e Q)=>To o hx hd eh hfw H R P);have ec:Hid (∀i (R:i<(s.F.kids x).length),(s.F.kids x)[i]<s.N):=λi R=>(o.dom _ _ ((o.mem x _).1 (AD R))).2;obtain⟨aa0,ac0,hr0⟩:∃aa ac,w.cell? ⟨O x,4,none⟩=some (.slice aa (s.nd x).attrs.length ac):=by obtain⟨aa,ac,_,_,_,c4,_⟩:=W.Z5 hx;exact⟨aa,ac,c4⟩
 obtain⟨-,-,-,S,F,c7,hkc,k⟩:=W.cells hx;have hfx:O x≠t:=by obtain⟨_,_,_,_,_,hh,_,_⟩:=W.node x hx;exact CC hh D (by decide)
 have M:∀wr,Al (λ_=>True) (λ_=>t) w wr->wr.cell? ⟨O x,7,none⟩=some (.slice S (s.F.kids x).length F)/\B6 wr wr.heap.size S (Ad O (s.F.kids x)):=by
  intro wr hT;refine⟨(Am (a:=⟨O x,7,none⟩) (hT.ZA hkx hfx)).trans c7,?_⟩;obtain⟨_,_,hv,_,g⟩:=B6.own (Al.own hT k (λq _=>Ax k D (by decide)));cases hv
  exact g
 have el:=AA M;obtain⟨E,N⟩:∃E,E=w.setCell ⟨t,1,none⟩ (.int .i64 ((s.N:Int)+1)):=⟨_,rfl⟩;have en:Ct s.F (λi=>i<s.N) s.nd f B O E:=by rw[N];exact W.Zi D 1 _
 obtain⟨aa,ac,c1,c2,c3,c4,c5,ho⟩:=en.Z5 hx;obtain⟨A,c⟩:∃A,A=(E.alloc (.cells #[.int .i64 (-1),.int .i64 (s.nd x).kind,.string (s.nd x).tag,.string (s.nd x).text,.slice aa (s.nd x).attrs.length ac,.int .i64 (s.nd x).size,.pointer none,.slice none 0 0] 81)).alloc (.cells #[] 49):=⟨_,rfl⟩;have G:E.heap.size=w.heap.size:=by rw[N];simp[Cb]
 have eo:AL E.heap.size E A:=by rw[c];exact((AW _ _).alloc (AG _) _).alloc (by simp) _
 have ef:Hid (JZ A A.heap.size aa (s.nd x).attrs):=by rw[c];exact ML ((ho.alloc _).alloc _) V.len V.ats
 have eu:Hid (A.ownsRow (w.heap.size+1) 49 2 (.slice (some ⟨w.heap.size+1,0,none⟩) 0 0) 0 []):=by
  have:=De (E.alloc (.cells #[.int .i64 (-1),.int .i64 (s.nd x).kind,.string (s.nd x).tag,.string (s.nd x).text,.slice aa (s.nd x).attrs.length ac,.int .i64 (s.nd x).size,.pointer none,.slice none 0 0] 81)) 49 2;have e:(E.alloc (.cells #[.int .i64 (-1),.int .i64 (s.nd x).kind,.string (s.nd x).tag,.string (s.nd x).text,.slice aa (s.nd x).attrs.length ac,.int .i64 (s.nd x).size,.pointer none,.slice none 0 0] 81)).heap.size=w.heap.size+1:=by simp[G]
  rw[e]at this;rw[c];exact this
 have c4b:A.cell? ⟨O x,4,none⟩=some (.slice aa (s.nd x).attrs.length ac):=(eo.cell (p:=⟨O x,4,none⟩) (by show O x<E.heap.size;omega)).trans c4;have hlt:¬(600<(s.N:Int)+1):=by omega
 have hN1:s.N<=600:=by omega
 have ed:Hid (∀(m:AB) (T:Option Ai) (c1:Nat),A.grownBy m (AO (some ⟨w.heap.size+1,0,none⟩) 0 0).ownBlock->m.ownsRow (w.heap.size+1) 49 2 (.slice T (s.nd x).attrs.length c1) (s.nd x).attrs.length (CJ (s.nd x).attrs)->m.cell? ⟨w.heap.size,4,none⟩=some (.slice aa (s.nd x).attrs.length ac)/\m.frozen? ⟨w.heap.size,4,none⟩=false/\∃kb2,Wv d s x t row f B O w 0 kb2 none 0 (m.setCell ⟨w.heap.size,4,none⟩ (.slice T (s.nd x).attrs.length c1))):=λm T c1 hg hoo=>by
  rw[c,N]at hg;exact l.o aa ac m T c1 hg hoo
 have X:w.heap.size+1<=A.heap.size:=by rw[c];simp[G]
 have HSw:=AA X;subst c;subst N;clear W D Z M en ho eo V k c7 G X hp hr0 l o hd hx;go_enter func61,ntmps61;go_wp2_with(at_builtin;refine D5 rfl (.tmp 36) (.tmp 41) rfl (w.heap.size+1) (.slice (some ⟨w.heap.size+1,0,none⟩) 0 0) [] rfl eu.o aa (s.nd x).attrs.length ac (s.nd x).attrs rfl rfl ef.o (by first|omega|(simp only[Ar];omega)) HSw.o ?_);intro T c1' m r et _;try simp only[BY]at r
 try simp only[BY]
 obtain⟨d4,f4,kb2,ea⟩:=ed.o m T c1' et r;have HCl:=AA ea;clear r et ea c1 c2 c3 c4 c4b f1 ff;go_wp2;go_loopw [6,7] (λv v7 wr=>∃(i:Nat) (kb2:Nat->Nat) (S:Option Ai) (F:Nat),i<=(s.F.kids x).length/\v= .int .i64 i/\Wv d s x t row f B O w i kb2 S F wr) (λv _ _=>(s.F.kids x).length-(Aa v).toNat)
 .exact⟨0,kb2,none,0,AY _,rfl,HCl.o⟩
 obtain⟨i,I,k4,Y,R,rfl,u⟩:=hrel;obtain⟨q7,g⟩:=el.o wr u.turn;have HC:=AA u;by_cases n:i<(s.F.kids x).length
 .obtain⟨b,off,rfl,hbB,hc⟩:=g.at_ (by rw[AM];omega);have g1:=hc i (by rw[AM];exact n);rw[A5 n,<-u.old _ (ec.o i n)]at g1;have z:=AA (HIH.o i n I k4 Y wr u);have HSt:=AA (λe Q=>K.o i I k4 Y wr u n e Q);obtain⟨y,hy⟩:∃y,y=I (s.F.kids x)[i]:=⟨_,rfl⟩;rw[<-hy]at g1 z;clear hc g hy u;go_wp2_with fail;refine z.o.mono ?_;intro e Q hP;obtain⟨kr,J,L,rfl,ei,z6,zf,z7,zo,zr,zs,U⟩:=HSt.o e Q hP;have HZo:=AA zo;have HZr:=AA zr;have HZs:=AA zs;have HZe:=AA U;have er:=AA ei;clear hP zo zr zs U ei g1 q7;go_wp2_with(at_builtin;refine Az _ rfl (.tmp 72) (.tmp 74) rfl J w.heap.size (.slice k4 i Y) L rfl HZo.o (some ⟨Q.heap.size,0,none⟩) 1 1 [(DH d s x i).N] rfl rfl HZr.o (by have:=er.o;simp only[Ak,Ar];omega) HZs.o ?_);intro a2 c2 w5 j ee C;obtain⟨y7,yf,es⟩:=HZe.o a2 c2 (L.length+1) w5 (by rw[er.o]) ee (by simpa using j) (by simpa using C);have HC5:=AA es;clear j ee C es;go_wp2;go_roundw
  .exact⟨i+1,J,a2,c2,by omega,by go_num,HC5.o⟩
  simp[Aa];omega
 have e:i=(s.F.kids x).length:=by omega
 have HF:Hid (FN s (DH d s x (s.F.kids x).length) t row f B O w (.returned (.pointer (some ⟨w.heap.size,0,none⟩))) wr):=by
  rw[<-e];exact⟨I,by rw[u.me],u.old,u.kno,u.fst,u.turn,u.new⟩
 clear e g u;go_wp2;go_ret;exact HF.o
theorem Fj(d:Nat):∀{s:bY} {h:Nat->Nat} (o:s.F.Ok (λi=>i<s.N) h) {g:Nat->Int} {B:Nat} {kb:Nat->Nat} {w:AB} (f:Ct s.F (λi=>i<s.N) s.nd g B kb w) (a:B<=w.heap.size) {x:Nat} (hx:x<s.N) (p:h x<=d) (l:∀y,s.N<=y->g y= -1) {b:Nat} {row:AS}
 (m:w.heap[b]? =some (.cells #[row,.int .i64 (s.N:Int),.bool s.op] 56 (0,0))) (n:(CZ d s x).N<=100000) (t:∀y,y<s.N->Kk (s.nd y)/\(s.nd y).attrs.length<=2000),
 AX AC 61 #[.pointer (some ⟨b,0,none⟩),.pointer (some ⟨kb x,0,none⟩)] w (FN s (CZ d s x) b row g B kb w):=by
 induction d with
 |zero=>
  intro s h o g B kb w f a x hx p l b row m n t;by_cases r:600<=s.N
  .have e:CZ 0 s x=(s.fresh x).shut:=by show(if 600<=s.N then _ else _)=_;rw[AJ r]
   rw[e]at n|-;exact LM o f a hx (l _ (AG _)) m n r
  have e:CZ 0 s x=s.fresh x:=by show(if 600<=s.N then _ else _)=_;rw[AI r]
  have j:s.F.kids x=[]:=List.eq_nil_iff_forall_not_mem.2 λc O=>by
   have:=o.ht _ _ ((o.mem x c).1 O);omega
  have e2:DH 0 s x (s.F.kids x).length=s.fresh x:=by rw[j];exact EI 0 s x
  have:=LN (d:=0) o f a hx (by omega) (l _ (AG _)) m (by rw[e2,<-e];exact n) r (t x hx).1 (t x hx).2 (λi u=>by rw[j]at u;simp at u);rw[e2]at this;rw[e];exact this
 |succ d T=>
  intro s h o g B kb w f a x hx p l b row m n t;by_cases r:600<=s.N
  .have e:CZ (d+1) s x=(s.fresh x).shut:=by show(if 600<=s.N then _ else _)=_;rw[AJ r]
   rw[e]at n|-;exact LM o f a hx (l _ (AG _)) m n r
  have e:=JB d s x r;rw[<-e]at n|-;refine LN o f a hx p (l _ (AG _)) m n r (t x hx).1 (t x hx).2 λi u S L D wr H=> ?_;obtain⟨⟨C,v⟩,-,-⟩:=Fk o hx p i (Ca u);obtain⟨-,-,k⟩:=Fk o hx p (i+1) u;have E:=(o.mem x _).1 (AD u);have I:=(o.dom _ _ E).2;have U:=o.ht _ _ E;have R:=v.lt;refine T v.ok H.kno (AH a H.turn.size) (by omega) (by rw[v.hold _ I];omega) (λy q=>l y (by omega)) H.fst ?_ (λy q=> ?_)
  .rw[Fy d s x u]at k;exact AH (show(CZ d (DH d s x i) (s.F.kids x)[i]).N<=_ from k) n
  by_cases e2:y<s.N
  .rw[v.ndo y e2];exact t y e2
  obtain⟨z,A,N⟩:=v.newn y (by omega) q;rw[N];exact t z A
def M1(n:Nat):Nat->Int:=λi=>if i<n then(i:Int)else-1
def UE(n fb:Nat)(kb:Nat->Nat):Nat->Nat:=λi=>if i<n then kb i else fb
structure RS(r n g fc fb:Nat)(kb:Nat->Nat)(w:AB)(s:bY)(kb':Nat->Nat)(wr:AB):Prop where
 kno:Ct s.F (λi=>i<s.N) s.nd (M1 r) fb kb' wr
 fst:wr.heap[fb]? =some (.cells #[.slice (some ⟨g,0,none⟩) r fc,.int .i64 (s.N:Int),.bool s.op] 56 (0,0))
 old:∀y,y<n->kb' y=kb y
 new:∀y,n<=y->y<s.N->w.heap.size<=kb' y
 turn:Al (λ_=>True) (UE n fb kb) w wr
def GH(s:bY)(kb':Nat->Nat)(v:AS)(wr:AB):Prop:=∀y,y<s.N->∀u,wr.cell? ⟨kb' y,7,none⟩=some u->FO v u
section
variable {r n g fc fb:Nat} {kb:Nat->Nat} {w:AB} {s:bY} {kb':Nat->Nat} {wr:AB}
theorem RS.kept(R:RS r n g fc fb kb w s kb' wr){e size m:Nat}{xs:List AS}(t:w.ownsRow A e size v m xs)(a:∀i,i<n->v.ownBlock≠some (kb i))(o:v.ownBlock≠some fb):wr.ownsRow A e size v m xs:=
 Al.own R.turn t λi _=>by
  unfold UE;split
  .rename_i h;exact a i h
  exact o
theorem RS.below(R:RS r n g fc fb kb w s kb' wr)(t:fb<=w.heap.size)(e:∀i,i<n->fb<=kb i):AL fb w wr:=
 R.turn.below t λi _=>by
  unfold UE;split
  .rename_i h;exact e i h
  exact AG _
theorem Al.Zq{w wr:AB}(T:Al (λ_=>True) (UE n fb kb) w wr)(h:Al (λ_=>True) (λ_=>fb) wr M):Al (λ_=>True) (UE n fb kb) w M:=by
 refine⟨h.os.trans T.os,h.tape.trans T.tape,h.output.trans T.output,AH T.size h.size,λb t e=> ?_⟩;rw[h.block b (AR t T.size) (λ_ _=>by have:=e n trivial;unfold UE at this;rw[AI (by omega)]at this;exact this)];exact T.block b t e
theorem RS.ZU(R:RS r n g fc fb kb w s kb' wr)(h:Al (λi=>i<s.N) kb' wr M):Al (λ_=>True) (UE n fb kb) w M:=by
 refine⟨h.os.trans R.turn.os,h.tape.trans R.turn.tape,h.output.trans R.turn.output,AH R.turn.size h.size,λb o a=> ?_⟩;rw[h.block b (AR o R.turn.size) (λi d e=> ?_)]
 .exact R.turn.block b o a
 by_cases t:i<n
 .have:=a i trivial;unfold UE at this;rw[AJ t]at this;exact this (e.trans (R.old i t))
 have:=R.new i (by omega) d;omega
theorem RS.Y8(R:RS r n g fc fb kb w s kb' wr)(h:Al (λi=>i<s.N) kb' wr M):M.heap[fb]? =some (.cells #[.slice (some ⟨g,0,none⟩) r fc,.int .i64 (s.N:Int),.bool s.op] 56 (0,0)):=by
 rw[h.block fb (AE.1 R.fst).1 (λi e=> ?_)]
 .exact R.fst
 obtain⟨_,_,_,_,_,t,_,_⟩:=R.kno.node i e;exact CC R.fst t (by decide)
theorem RS.copied(R:RS r n g fc fb kb w s kb' wr)(z:n<=s.N){i:bY}(x:s.N<i.N){e:Bx}(P:FN s i fb (.slice (some ⟨g,0,none⟩) r fc) (M1 r) fb kb' wr e M){base:Nat}{la:Option Ai}{j lc:Nat}{L:List Nat}(d:wr.ownsRow base 57 1 (.slice la j lc) j (Ad kb' L))(v:∀y∈L,y<s.N)(q:GH s kb' (.slice la j lc) wr):
 ∃t,e= .returned (.pointer (some ⟨t s.N,0,none⟩))/\RS r n g fc fb kb w i t M/\M.ownsRow base 57 1 (.slice la j lc) j (Ad t L)/\GH i t (.slice la j lc) M:=by
 obtain⟨t,rfl,hold,k,p,l,hnew⟩:=P;refine⟨t,rfl,⟨k,p,λy o=>(hold y (by omega)).trans (R.old y o),λy m c=> ?_,R.turn.Zq l⟩,?_,λy o u h=> ?_⟩
 .by_cases e:y<s.N
  .rw[hold y e];exact R.new y m e
  have:=(hnew y (by omega) c).1;have:=R.turn.size;omega
 .rw[FG λy o=>hold y (v y o)];exact Al.own l d (λ_ _=>Ax d R.fst (by decide))
 by_cases e:y<s.N
 .rw[hold y e]at h;rw[Am (a:=⟨kb' y,7,none⟩) (l.ZA (R.kno.lt e) (by
   obtain⟨_,_,_,_,_,f,_,_⟩:=R.kno.node y e;exact CC f R.fst (by decide)))]at h
  exact q y e u h
 intro b m c;have T:=(hnew y (by omega) o).2 u b h c;have E:=(d.lt b m).2;omega
theorem RS.cut(R:RS r n g fc fb kb w s kb' wr){e:Bx}(P:J5 s.F (λi=>i<s.N) s.nd (M1 r) fb kb' x wr e M){base:Nat}{la:Option Ai}{j lc:Nat}{L:List AS}(t:wr.ownsRow base 57 1 (.slice la j lc) j L)(p:GH s kb' (.slice la j lc) wr):
 e= .returned (.tuple #[])/\RS r n g fc fb kb w (s.cut x) kb' M/\M.ownsRow base 57 1 (.slice la j lc) j L/\GH (s.cut x) kb' (.slice la j lc) M:=by
 obtain⟨rfl,⟨f,h⟩,a⟩:=P;refine⟨rfl,⟨f,R.Y8 a,R.old,R.new,R.ZU a⟩,?_,λy d u l=> ?_⟩
 .exact a.own t λi c=>by
   obtain⟨_,_,_,_,_,m,_,_⟩:=R.kno.node i c;exact Ax t m (by decide)
 rcases h y d u l with o|o
 .exact p y d u o
 intro b k v;have:=o b v;have:=(t.lt b k).2;omega
theorem RS.up(R:RS r n g fc fb kb w s kb' wr)(e:AL wr.heap.size wr M):RS r n g fc fb kb w s kb' M:=
 ⟨R.kno.up e,(e.block _ (AE.1 R.fst).1).trans R.fst,R.old,R.new,R.turn.trans (Al.Yq e)⟩
theorem RS.grow(R:RS r n g fc fb kb w s kb' wr){j:Nat}{L:List AS}(I:w.heap.size<=A)(k:wr.ownsRow A 57 1 v j L)(H:GH s kb' v wr)(t:wr.grownBy M v.ownBlock){v2:AS}(O:v2.ownBlock=v.ownBlock\/v2.ownBlock=some wr.heap.size):
 RS r n g fc fb kb w s kb' M/\GH s kb' v2 M:=by
 have d:∀i,i<s.N->M.heap[kb' i]? =wr.heap[kb' i]? :=λi m=>by
  obtain⟨_,_,_,_,_,f,_,_⟩:=R.kno.node i m;exact t.block _ (AE.1 f).1 (λe2=>Ax k f (by decide) e2.symm)
 refine⟨⟨⟨λi m=> ?_,R.kno.inj⟩,?_,R.old,R.new,⟨t.os.trans R.turn.os,t.tape.trans R.turn.tape,t.output.trans R.turn.output,AH R.turn.size t.size,λb h F=> ?_⟩⟩,λy x u c=> ?_⟩
 .obtain⟨W,aa,ac,S,N,f,D,Y⟩:=R.kno.node i m;have c:wr.cell? ⟨kb' i,7,none⟩=some (.slice S (s.F.kids i).length N):=by rw[AZ wr _ 7 _ _ _ f];rfl
  refine⟨W,aa,ac,S,N,(d i m).trans f,D.kept t ?_,Y.kept t (H i m _ c).ne⟩;cases h:(AO aa (s.nd i).attrs.length ac).ownBlock with
  |none=>exact .inl rfl
  |some b=>
   refine .inr λe2=> ?_;obtain⟨l,cap,o,U,_,T,_⟩:∃l cap o,(AO aa (s.nd i).attrs.length ac)= .slice (some ⟨l,0,none⟩) (s.nd i).attrs.length cap/\fb<=l/\wr.heap[l]? =some (.cells o 49 (0,0))/\True:=by
    rcases D.2 with⟨z,_⟩|⟨l,cap,o,z,P,G,_⟩
    .rw[z]at h;simp[A6]at h
    exact⟨l,cap,o,z,P,G,trivial⟩
   rw[U]at h;simp[A6]at h;subst h;exact Ax k T (by decide) e2.symm
 .rw[t.block fb (AE.1 R.fst).1 (λe2=>Ax k R.fst (by decide) e2.symm)];exact R.fst
 .rw[t.block b (AR h R.turn.size) (λe=>by have:=(k.lt b e.symm).1;omega)];exact R.turn.block b h F
 rw[Am (a:=⟨kb' y,7,none⟩) (d y x)]at c;obtain⟨B,p,E⟩:=R.kno.aU (i:=y) x;rw[c]at p;cases p;exact(H y x u c).step O (λq C=>E q C)
theorem RS.ins(R:RS r n g fc fb kb w s kb' wr){L:List Nat}{e:Bx}(P:DJ s.F (λi=>i<s.N) s.nd (M1 r) fb kb' p k L wr e M):
 e= .returned (.tuple #[])/\RS r n g fc fb kb w (s.row p k L) kb' M:=by
 obtain⟨rfl,a,t⟩:=P;exact⟨rfl,a,R.Y8 t,R.old,R.new,R.ZU t⟩
end
def GV(r n g o a:Nat)(kb:Nat->Nat)(op:Int)(F0:Fo)(nd0:Nat->Nd)(xs ws:List Nat)(s0:bY)(w:AB)(e:Bx)(w':AB):Prop:=
 ∃b,e= .returned (.bool b)/\(b=true->ws≠[]/\GB F0 ws xs/\(¬Jn op->∀x∈xs,(nd0 x).kind=3)/\(Jn op->∀x∈xs,F0.par x≠none)/\∃t,RS r n g o a kb w (Bl op s0 xs ws xs.length) t w')/\AL a w w'
theorem GH.up{e:Nat->Nat}(h:GH s e v wr)(i:∀y,y<s.N->e y<wr.heap.size)(o:AL wr.heap.size wr M):GH s e v M:=λy t u a=>h y t u (by rw[o.cell (p:=⟨e y,7,none⟩) (i y t)]at a;exact a)
theorem Bh{e:Nat}{xs:List AS}(h:w.ownsRow A e 1 (.slice a n c) n xs):B6 w w.heap.size a xs:=by
 obtain⟨_,_,o,_,t⟩:=B6.own h;cases o
 exact t
theorem E8(w:AB)(kb:Nat->Nat)(r:Nat)(v:AS)(e:v= .pointer (some ⟨kb r,0,none⟩)):B6 (w.alloc (.cells #[v] 57)) (w.alloc (.cells #[v] 57)).heap.size (some ⟨w.heap.size,0,none⟩) (Ad kb [r]):=by
 refine .inr ⟨w.heap.size,0,rfl,by simp,λq t=> ?_⟩;have a:q=0:=by simp[Ad]at t;omega
 subst a;rw[BI,e];rfl
theorem T8(hr2:r<=200)(hrn:r<=n){F0:Fo}(o0:F0.Ok (λi=>i<n) D)(hn:n<=600)(hnb:∀i,i<n->Kk (f i)/\(f i).attrs.length<=2000)(hh:∀i,i<n->D i<=600){fc Y:Nat}(hR:RS r n g fc Y O w ⟨F0,n,f,false⟩ O w)(hfw:Y<=w.heap.size)
 (xs ws:List Nat)(hxr:∀x∈xs,x<r)(hwr:∀x∈ws,x<r)(hxn:xs.Nodup)(hwn:ws.Nodup)(hx0:xs≠[]){base:Nat}(a:Option Ai)(c:Nat)(ei:w.ownsRow base 57 1 (.slice a xs.length c) xs.length (Ad O xs))(a2:Option Ai)(c2:Nat)(ho2:w.ownsRow base 57 1 (.slice a2 ws.length c2) ws.length (Ad O ws)):
 AX AC 38 #[.pointer (some ⟨Y,0,none⟩),.int .i64 1,.slice a xs.length c,.slice a2 ws.length c2] w (GV r n g fc Y O 1 F0 f xs ws ⟨F0,n,f,false⟩ w):=by
 have hxl:xs.length<=200:=by have:=BH hxn hxr;omega
 have hwl:ws.length<=200:=by have:=BH hwn hwr;omega
 have hxs:∀x∈xs,x<n:=λx h=>by have:=hxr x h;omega
 have J:∀x∈ws,x<n:=λx h=>by have:=hwr x h;omega
 have hkf:∀i,i<n->Y<=O i:=λi hi=>(hR.kno.node i hi).1;have hty1:∀i,i<n->(AO a xs.length c).ownBlock≠some (O i):=λi hi=>by
  obtain⟨_,_,_,_,_,hhn,_,_⟩:=hR.kno.node i hi;exact Ax ei hhn (by decide)
 have hty2:∀i,i<n->(AO a2 ws.length c2).ownBlock≠some (O i):=λi hi=>by
  obtain⟨_,_,_,_,_,hhn,_,_⟩:=hR.kno.node i hi;exact Ax ho2 hhn (by decide)
 have HRow1:Hid (∀s I wr,RS r n g fc Y O w s I wr->B6 wr wr.heap.size a (Ad O xs)):=λs I wr R=>Bh (R.kept ei hty1 (Ax ei hR.fst (by decide)));have HRow2:Hid (∀s I wr,RS r n g fc Y O w s I wr->B6 wr wr.heap.size a2 (Ad O ws)):=λs I wr R=>Bh (R.kept ho2 hty2 (Ax ho2 hR.fst (by decide)));have HBel:Hid (∀s I wr,RS r n g fc Y O w s I wr->AL Y w wr):=λs I wr R=>R.below hfw hkf;have HAp:=AA (Fg o0 (OO D n) ws xs J hxs (by omega) (by omega) a2 c2 a c w hR.kno (Bh ho2) (Bh ei));have ea:Hid (∀w1,AL w.heap.size w w1->AX AC 40 #[.slice a xs.length c] w1 (λe w'=>∃b,e= .returned (.bool b)/\(b=true->∀x∈xs,(f x).kind=3)/\w1=w')):=λw1 hb=>J_ xs hxs (by omega) a c w1 (hR.kno.up hb) ((Bh ei).up hb);have HInv:Hid (GB F0 ws xs->(∀x∈xs,(f x).kind=3)->∀i,i<xs.length->∃h',Inv n F0 D f 1 xs ws (Bl 1 ⟨F0,n,f,false⟩ xs ws i) h'/\(Bl 1 ⟨F0,n,f,false⟩ xs ws i).N<=1200+i*ws.length):=λhA Q=>Hl (h:=D) (.inl rfl) o0 hn ⟨o0,AG _,λ_ _ _ _=>⟨rfl,rfl⟩,λx hx y K=>by
  obtain⟨i,hi,rfl⟩:=An hx;obtain⟨j,hj,rfl⟩:=An K;exact hA.2 i j hi hj,λh=>absurd h (by decide),λy K=>⟨y,K,rfl⟩⟩ (λx hx=>⟨J x hx,hh x (J x hx)⟩) hxs (by show n<=1200;omega)
 have HR0:=AA hR;have HX:=AA hxs;have HW:=AA J;have HWn:=AA hwn;have HHt:Hid (∀x∈ws,x<n/\D x<=600):=λx hx=>⟨J x hx,hh x (J x hx)⟩;have HNb:=AA hnb;have HO0:=AA o0;clear hR ei ho2 hty1 hty2 hkf hxs J hnb hh hx0 o0 hxr hwr;go_enter func38,ntmps38;go_wp2_with fail;refine HAp.o.mono ?_;rintro e w1 ⟨b1,rfl,hA,hb1⟩;have HR1:=AA (HR0.o.up hb1);have HB1:=AA (HBel.o _ _ _ HR1.o);have HG:=AA (ea.o w1 hb1);clear hb1;cases b1
 .clear hA;go_wp2;go_ret;exact⟨false,rfl,by simp,HB1.o⟩
 have HA:=AA (hA rfl);clear hA;go_wp2_with fail;refine HG.o.mono ?_;rintro e w2 ⟨b2,rfl,Q,rfl⟩;cases b2
 .clear Q;go_wp2;go_ret;exact⟨false,rfl,by simp,HB1.o⟩
 have HP:=AA (Q rfl);clear Q HG;rcases BJ ws.length with hz|hz
 .have ez:((ws.length:Int)==0)=true:=beq_iff_eq.2 (by omega);clear hz;go_wp2;go_ret;exact⟨false,rfl,by simp,HB1.o⟩
 have ez:((ws.length:Int)==0)=false:=CY.2 (by omega);have HNe:Hid (ws≠[]):=λe=>by rw[e]at hz;simp at hz
 have HIv:=AA (HInv.o HA.o HP.o);clear hz HInv ea;go_wp2;go_loopw [10,11,12,13] (λv v11 v12 v13 wr=>∃(i:Nat) (I:Nat->Nat),i<=xs.length/\v= .int .i64 i/\RS r n g fc Y O w (Bl 1 ⟨F0,n,f,false⟩ xs ws i) I wr) (λv _ _ _ _=>xs.length-(Aa v).toNat)
 .exact⟨0,O,AY _,rfl,HR1.o⟩
 obtain⟨i,kb2,hi,rfl,hR2⟩:=hrel;obtain⟨W2,rfl⟩:∃W2:AB,W2=wr:=⟨_,rfl⟩;have HR2:=AA hR2;clear hR2;by_cases en:i<xs.length
 .obtain⟨h2,hI,hbd⟩:=HIv.o i en;have HS1:Hid (Bl 1 ⟨F0,n,f,false⟩ xs ws (i+1)=Bm 1 (decide (i+1=xs.length)) (Bl 1 ⟨F0,n,f,false⟩ xs ws i) xs[i] ws):=by
   show Bm 1 (decide (i+1=xs.length)) _ (xs.getD i 0) ws=_;rw[Ae,AK en,BE]
  obtain⟨s,hs⟩:∃s,s=Bl 1 ⟨F0,n,f,false⟩ xs ws i:=⟨_,rfl⟩;rw[<-hs]at hI hbd HR2 HS1;have hbd2:s.N<=41200:=by
   have:i*ws.length<=200*200:=Nat.mul_le_mul (by omega) hwl;omega
  have HI:=AA hI;have hle:=hI.le;clear hs hI hbd;obtain⟨last,Z⟩:∃last,last=decide (i+1=xs.length):=⟨_,rfl⟩;rw[<-Z]at HS1;have U:=AA Z;clear Z;go_wp2;go_loopw [11,12,13] (λv11 v12 v13 wr=>∃(j:Nat) (I:Nat->Nat) (la:Option Ai) (lc:Nat),j<=ws.length/\v12= .int .i64 j/\v11= .slice la j lc/\RS r n g fc Y O w (Ap last s (ws.take j)) I wr/\wr.ownsRow w.heap.size 57 1 (.slice la j lc) j (Ad I (CI last s (ws.take j)))/\GH (Ap last s (ws.take j)) I (.slice la j lc) wr) (λ_ v _ _=>ws.length-(Aa v).toNat)
  .exact⟨0,kb2,none,0,AY _,rfl,rfl,by rw[BM];exact HR2.o,by rw[BM];cases last<;>exact Aw _ _ _ _,λy _ u _=>FO.nil _ _ _⟩
  obtain⟨j,t,la,lc,hj,rfl,rfl,d,F,ee⟩:=hrel;obtain⟨W3,rfl⟩:∃W3:AB,W3=wr:=⟨_,rfl⟩;by_cases G:j<ws.length
  .obtain⟨b,o,rfl,hbB,hc⟩:=(HRow2.o _ _ _ d).at_ (by rw[AM];omega);have g1:=hc j (by rw[AM];exact G);have hwm:=HW.o _ (AD G);have hw2:=HHt.o _ (AD G);rw[A5 G,<-d.old _ hwm]at g1;have P:Hid (CI last s (ws.take (j+1))=CI last s (ws.take j)++[if last then ws[j]else(Ap last s (ws.take j)).N]):=by
    rw[Hid,AF G,En]
   have S:Hid (Ap last s (ws.take (j+1))=if last then(Ap last s (ws.take j)).cut ws[j]else CZ 600 (Ap last s (ws.take j)) ws[j]):=by
    rw[Hid,AF G,DW]
   have M:Hid ((CI last s (ws.take j)).length=j):=by rw[Hid,DT,At];omega
   have HR3:=AA d;have HOw:=AA F;have et:=AA ee;have HWm:Hid (∀m,ws.take m=ws.take m):=λ_=>rfl;cases last
   .simp only[Bv,if_false]at P S;obtain⟨ha,A⟩:=Lr HI.o HHt.o j;have hbN:=Di HO0.o hn HI.o HHt.o (c:=41200) (by omega) hbd2 (j+1);rw[S.o]at hbN;have hAle:=A.le;have eo:ws[j]<(Ap false s (ws.take j)).N:=by omega
    have HCp:=AA (Fj 600 A.ok d.kno (AH hfw d.turn.size) eo (by rw[A.hold _ (by omega),(HI.o.sub _ (AD G) _ .self).2];exact hw2.2) (λy K=>AI (by omega)) d.fst (by omega) (λy K=>by obtain⟨z,hz,e⟩:=A.nds y K;rw[e];exact HNb.o z hz));obtain⟨hb',E⟩:=DK 600 _ _ _ A.ok eo (by rw[A.hold _ (by omega),(HI.o.sub _ (AD G) _ .self).2];exact hw2.2);have HE:=AA E;have HRt:Hid (∀y∈CI false s (ws.take j),y<(Ap false s (ws.take j)).N):=λy K=>(A.root y K).2.1;have HnN:Hid (n<=(Ap false s (ws.take j)).N):=AH hle hAle;have hnl:(i:Int)<(xs.length:Int)-1:=by
     have:=U.o;have:¬(i+1=xs.length):=of_decide_eq_false this.symm;omega
    obtain⟨x,hx⟩:∃x,x=ws[j]:=⟨_,rfl⟩;rw[<-hx]at g1 HCp HE S;obtain⟨C,hst⟩:∃C,C=Ap false s (ws.take j):=⟨_,rfl⟩;rw[<-hst]at HCp HE S HR3 et HRt HnN P;obtain⟨L,hL⟩:∃L,L=CI false s (ws.take j):=⟨_,rfl⟩;rw[<-hL]at P M HOw HRt;clear hc d F ee hwm hw2 A E hbN hAle eo hx hst hL U HWm;go_wp2_with fail;refine HCp.o.mono ?_;intro e q Q;obtain⟨l,rfl,N,ho4,ha4⟩:=HR3.o.copied HnN.o HE.o.lt Q HOw.o HRt.o et.o;have V:=AA (Gw N.kno C.N HE.o.lt HE.o.root);have X:=AA N;have HA4:=AA ha4;have HZr:Hid (B6 (q.alloc (.cells #[.pointer (some ⟨l C.N,0,none⟩)] 57)) (q.alloc (.cells #[.pointer (some ⟨l C.N,0,none⟩)] 57)).heap.size (some ⟨q.heap.size,0,none⟩) (Ad l [C.N])):=E8 q l C.N _ rfl;have HZo:Hid ((q.alloc (.cells #[.pointer (some ⟨l C.N,0,none⟩)] 57)).ownsRow w.heap.size 57 1 (.slice la j lc) L.length (Ad l L)):=(by rw[M.o];exact ho4.alloc _);have W:AL q.heap.size q (q.alloc (.cells #[.pointer (some ⟨l C.N,0,none⟩)] 57)):=Ac;have HZs:Hid (w.heap.size<=(q.alloc (.cells #[.pointer (some ⟨l C.N,0,none⟩)] 57)).heap.size):=AH N.turn.size W.size;have HGr:Hid (∀w5 v2,(q.alloc (.cells #[.pointer (some ⟨l C.N,0,none⟩)] 57)).grownBy w5 (AO la j lc).ownBlock->(v2.ownBlock=(AO la j lc).ownBlock\/v2.ownBlock=some (q.alloc (.cells #[.pointer (some ⟨l C.N,0,none⟩)] 57)).heap.size)->RS r n g fc Y O w (CZ 600 C x) l w5/\GH (CZ 600 C x) l v2 w5):=λw5 v2 hg hat=>(X.o.up W).grow (AG _) HZo.o (HA4.o.up (λy K=>X.o.kno.lt K) W) hg hat;clear Q N ho4 ha4 W g1;go_wp2_with fail;refine V.o.mono ?_;rintro e w5 ⟨rfl,rfl⟩;go_wp2_with(at_builtin;refine Az _ rfl (.tmp 86) (.tmp 88) rfl l w.heap.size (.slice la j lc) L rfl HZo.o (some ⟨w5.heap.size,0,none⟩) 1 1 [C.N] rfl rfl HZr.o (by have:=M.o;simp only[Ak,Ar];omega) HZs.o ?_);intro a5 c5 w6 H hg2 B;obtain⟨k1,k2⟩:=HGr.o w6 (.slice a5 (L.length+1) c5) hg2 (by simpa using B);have k:w6.ownsRow w.heap.size 57 1 (.slice a5 (L.length+1) c5) (L.length+1) (Ad l (L++[C.N])):=(by simpa using H);rw[M.o]at k2 k;have HK1:=AA k1;have HK2:=AA k2;have HK3:=AA k;clear H hg2 B k1 k2 k;go_wp2;go_roundw
    .refine⟨j+1,l,a5,c5,by omega,by go_num,by rw[M.o],by rw[S.o];exact HK1.o,by rw[P.o];exact HK3.o,by rw[S.o];exact HK2.o⟩
    simp[Aa];omega
   simp only[if_true]at P S;have T:=GL HI.o.ok (ws.take j);have eo:ws[j]<(Ap true s (ws.take j)).N:=by rw[T.N];omega
   have V:=AA (Hg T.ok d.kno (AH hfw d.turn.size) ws[j] eo (λp=>by have:=T.ok.Yu (λi hi=>hi) p;rw[T.N]at this;omega));have hnl:¬((i:Int)<(xs.length:Int)-1):=by
    have:=U.o;have:i+1=xs.length:=of_decide_eq_true this.symm;omega
   obtain⟨x,hx⟩:∃x,x=ws[j]:=⟨_,rfl⟩;rw[<-hx]at g1 V S P;obtain⟨C,hst⟩:∃C,C=Ap true s (ws.take j):=⟨_,rfl⟩;rw[<-hst]at V S HR3 et;obtain⟨L,hL⟩:∃L,L=CI true s (ws.take j):=⟨_,rfl⟩;rw[<-hL]at P M HOw;clear hc d F ee hwm hw2 T eo hx hst hL U HWm;go_wp2_with fail;refine V.o.mono ?_;intro e q Q;obtain⟨rfl,N,ho4,ha4⟩:=HR3.o.cut Q HOw.o et.o;have X:=AA N;have HA4:=AA ha4;have HZr:Hid (B6 (q.alloc (.cells #[.pointer (some ⟨t x,0,none⟩)] 57)) (q.alloc (.cells #[.pointer (some ⟨t x,0,none⟩)] 57)).heap.size (some ⟨q.heap.size,0,none⟩) (Ad t [x])):=E8 q t x _ rfl;have HZo:Hid ((q.alloc (.cells #[.pointer (some ⟨t x,0,none⟩)] 57)).ownsRow w.heap.size 57 1 (.slice la j lc) L.length (Ad t L)):=by rw[M.o];exact ho4.alloc _
   have W:AL q.heap.size q (q.alloc (.cells #[.pointer (some ⟨t x,0,none⟩)] 57)):=Ac;have HZs:Hid (w.heap.size<=(q.alloc (.cells #[.pointer (some ⟨t x,0,none⟩)] 57)).heap.size):=AH N.turn.size W.size;have HGr:Hid (∀w5 v2,(q.alloc (.cells #[.pointer (some ⟨t x,0,none⟩)] 57)).grownBy w5 (AO la j lc).ownBlock->(v2.ownBlock=(AO la j lc).ownBlock\/v2.ownBlock=some (q.alloc (.cells #[.pointer (some ⟨t x,0,none⟩)] 57)).heap.size)->RS r n g fc Y O w (C.cut x) t w5/\GH (C.cut x) t v2 w5):=λw5 v2 hg hat=>(X.o.up W).grow (AG _) HZo.o (HA4.o.up (λy K=>X.o.kno.lt K) W) hg hat;clear Q N ho4 ha4 W g1;go_wp2_with(at_builtin;refine Az _ rfl (.tmp 86) (.tmp 88) rfl t w.heap.size (.slice la j lc) L rfl HZo.o (some ⟨q.heap.size,0,none⟩) 1 1 [x] rfl rfl HZr.o (by have:=M.o;simp only[Ak,Ar];omega) HZs.o ?_);intro a5 c5 w6 H hg2 B;obtain⟨k1,k2⟩:=HGr.o w6 (.slice a5 (L.length+1) c5) hg2 (by simpa using B);have k:w6.ownsRow w.heap.size 57 1 (.slice a5 (L.length+1) c5) (L.length+1) (Ad t (L++[x])):=by simpa using H
   rw[M.o]at k2 k;have HK1:=AA k1;have HK2:=AA k2;have HK3:=AA k;clear H hg2 B k1 k2 k;go_wp2;go_roundw
   .refine⟨j+1,t,a5,c5,by omega,by go_num,by rw[M.o],by rw[S.o];exact HK1.o,by rw[P.o];exact HK3.o,by rw[S.o];exact HK2.o⟩
   simp[Aa];omega
  have ej:j=ws.length:=by omega
  rw[ej,AU]at d F;obtain⟨b,o,rfl,hbB,hc⟩:=(HRow1.o _ _ _ d).at_ (by rw[AM];omega);have g1:=hc i (by rw[AM];exact en);have hxm:=HX.o _ (AD en);rw[A5 en,<-d.old _ hxm]at g1;obtain⟨h3,l1,l2,q1,q2,q3,q4,q5,q6,q7,q8⟩:=EM (.inl rfl) HI.o HWn.o HHt.o HX.o (AD en) last;have hNb:(Ap last s ws).N<=81000:=by
   cases last
   .have:=Di HO0.o hn HI.o HHt.o (c:=41200) (by omega) hbd2 ws.length;rw[AU]at this;omega
   have:=(GL HI.o.ok ws).N;omega
  have hkl:=q1.Yu (λi hi=>hi) (CK 1 (Ap last s ws).F xs[i]);have hLlen:=DT last s ws;have HIns:Hid (AX AC 62 #[.pointer (some ⟨Y,0,none⟩),.int .i64 1,.pointer (some ⟨t xs[i],0,none⟩),.slice la ws.length lc] W3 (DJ (Ap last s ws).F (λi=>i<(Ap last s ws).N) (Ap last s ws).nd (M1 r) Y t (CK 1 (Ap last s ws).F xs[i]) l1.length (CI last s ws) W3)):=by
   have hown':=F;rw[<-hLlen]at hown'|-;exact FT q1 d.kno (AH hfw d.turn.size) 1 xs[i] _ l1 l2 q4 q5 q6 q2 (by omega) (CI last s ws) (λy K=>⟨(q7 y K).1,(q7 y K).2.1,(q7 y K).2.2.1⟩) q8 (by omega) w.heap.size la lc hown' _
  have HEnd:Hid (∀e q,DJ (Ap last s ws).F (λi=>i<(Ap last s ws).N) (Ap last s ws).nd (M1 r) Y t (CK 1 (Ap last s ws).F xs[i]) l1.length (CI last s ws) W3 e q->e= .returned (.tuple #[])/\RS r n g fc Y O w (Bl 1 ⟨F0,n,f,false⟩ xs ws (i+1)) t q):=λe q Q=>by
   obtain⟨z1,z2⟩:=d.ins Q;refine⟨z1,?_⟩;rw[HS1.o];rw[q3]at z2;exact z2
  obtain⟨x,hx⟩:∃x,x=xs[i]:=⟨_,rfl⟩;rw[<-hx]at g1 HIns HEnd;subst ej;clear hc d F ee hxm q1 q2 q3 q4 q5 q6 q7 q8 hNb hkl hLlen hx U HS1;go_wp2_with fail;refine HIns.o.mono ?_;intro e q Q;obtain⟨rfl,N⟩:=HEnd.o e q Q;have X:=AA N;clear Q N g1;go_wp2;go_roundw
  .exact⟨i+1,t,by omega,by go_num,X.o⟩
  simp[Aa];omega
 have e:i=xs.length:=by omega
 subst e;have HB2:=AA (HBel.o _ _ _ HR2.o);go_wp2;go_ret;exact⟨true,rfl,λ_=>⟨HNe.o,HA.o,λ_=>HP.o,λh=>absurd h (by decide),kb2,HR2.o⟩,HB2.o⟩
theorem T9(hr2:r<=200)(hrn:r<=n){F0:Fo}(o0:F0.Ok (λi=>i<n) D)(hn:n<=600)(hnb:∀i,i<n->Kk (f i)/\(f i).attrs.length<=2000)(hh:∀i,i<n->D i<=600){fc Y:Nat}(hR:RS r n g fc Y O w ⟨F0,n,f,false⟩ O w)(hfw:Y<=w.heap.size)
 (xs ws:List Nat)(hxr:∀x∈xs,x<r)(hwr:∀x∈ws,x<r)(hxn:xs.Nodup)(hwn:ws.Nodup)(hx0:xs≠[]){base:Nat}(a:Option Ai)(c:Nat)(ei:w.ownsRow base 57 1 (.slice a xs.length c) xs.length (Ad O xs))(a2:Option Ai)(c2:Nat)(ho2:w.ownsRow base 57 1 (.slice a2 ws.length c2) ws.length (Ad O ws)):
 AX AC 38 #[.pointer (some ⟨Y,0,none⟩),.int .i64 2,.slice a xs.length c,.slice a2 ws.length c2] w (GV r n g fc Y O 2 F0 f xs ws ⟨F0,n,f,false⟩ w):=by
 have hxl:xs.length<=200:=by have:=BH hxn hxr;omega
 have hwl:ws.length<=200:=by have:=BH hwn hwr;omega
 have hxs:∀x∈xs,x<n:=λx h=>by have:=hxr x h;omega
 have J:∀x∈ws,x<n:=λx h=>by have:=hwr x h;omega
 have hkf:∀i,i<n->Y<=O i:=λi hi=>(hR.kno.node i hi).1;have hty1:∀i,i<n->(AO a xs.length c).ownBlock≠some (O i):=λi hi=>by
  obtain⟨_,_,_,_,_,hhn,_,_⟩:=hR.kno.node i hi;exact Ax ei hhn (by decide)
 have hty2:∀i,i<n->(AO a2 ws.length c2).ownBlock≠some (O i):=λi hi=>by
  obtain⟨_,_,_,_,_,hhn,_,_⟩:=hR.kno.node i hi;exact Ax ho2 hhn (by decide)
 have HRow1:Hid (∀s I wr,RS r n g fc Y O w s I wr->B6 wr wr.heap.size a (Ad O xs)):=λs I wr R=>Bh (R.kept ei hty1 (Ax ei hR.fst (by decide)));have HRow2:Hid (∀s I wr,RS r n g fc Y O w s I wr->B6 wr wr.heap.size a2 (Ad O ws)):=λs I wr R=>Bh (R.kept ho2 hty2 (Ax ho2 hR.fst (by decide)));have HBel:Hid (∀s I wr,RS r n g fc Y O w s I wr->AL Y w wr):=λs I wr R=>R.below hfw hkf;have HAp:=AA (Fg o0 (OO D n) ws xs J hxs (by omega) (by omega) a2 c2 a c w hR.kno (Bh ho2) (Bh ei));have ea:Hid (∀w1,AL w.heap.size w w1->AX AC 40 #[.slice a xs.length c] w1 (λe w'=>∃b,e= .returned (.bool b)/\(b=true->∀x∈xs,(f x).kind=3)/\w1=w')):=λw1 hb=>J_ xs hxs (by omega) a c w1 (hR.kno.up hb) ((Bh ei).up hb);have HInv:Hid (GB F0 ws xs->(∀x∈xs,(f x).kind=3)->∀i,i<xs.length->∃h',Inv n F0 D f 2 xs ws (Bl 2 ⟨F0,n,f,false⟩ xs ws i) h'/\(Bl 2 ⟨F0,n,f,false⟩ xs ws i).N<=1200+i*ws.length):=λhA Q=>Hl (h:=D) (.inr (.inl rfl)) o0 hn ⟨o0,AG _,λ_ _ _ _=>⟨rfl,rfl⟩,λx hx y K=>by
  obtain⟨i,hi,rfl⟩:=An hx;obtain⟨j,hj,rfl⟩:=An K;exact hA.2 i j hi hj,λh=>absurd h (by decide),λy K=>⟨y,K,rfl⟩⟩ (λx hx=>⟨J x hx,hh x (J x hx)⟩) hxs (by show n<=1200;omega)
 have HR0:=AA hR;have HX:=AA hxs;have HW:=AA J;have HWn:=AA hwn;have HHt:Hid (∀x∈ws,x<n/\D x<=600):=λx hx=>⟨J x hx,hh x (J x hx)⟩;have HNb:=AA hnb;have HO0:=AA o0;clear hR ei ho2 hty1 hty2 hkf hxs J hnb hh hx0 o0 hxr hwr;go_enter func38,ntmps38;go_wp2_with fail;refine HAp.o.mono ?_;rintro e w1 ⟨b1,rfl,hA,hb1⟩;have HR1:=AA (HR0.o.up hb1);have HB1:=AA (HBel.o _ _ _ HR1.o);have HG:=AA (ea.o w1 hb1);clear hb1;cases b1
 .clear hA;go_wp2;go_ret;exact⟨false,rfl,by simp,HB1.o⟩
 have HA:=AA (hA rfl);clear hA;go_wp2_with fail;refine HG.o.mono ?_;rintro e w2 ⟨b2,rfl,Q,rfl⟩;cases b2
 .clear Q;go_wp2;go_ret;exact⟨false,rfl,by simp,HB1.o⟩
 have HP:=AA (Q rfl);clear Q HG;rcases BJ ws.length with hz|hz
 .have ez:((ws.length:Int)==0)=true:=beq_iff_eq.2 (by omega);clear hz;go_wp2;go_ret;exact⟨false,rfl,by simp,HB1.o⟩
 have ez:((ws.length:Int)==0)=false:=CY.2 (by omega);have HNe:Hid (ws≠[]):=λe=>by rw[e]at hz;simp at hz
 have HIv:=AA (HInv.o HA.o HP.o);clear hz HInv ea;go_wp2;go_loopw [10,11,12,13] (λv v11 v12 v13 wr=>∃(i:Nat) (I:Nat->Nat),i<=xs.length/\v= .int .i64 i/\RS r n g fc Y O w (Bl 2 ⟨F0,n,f,false⟩ xs ws i) I wr) (λv _ _ _ _=>xs.length-(Aa v).toNat)
 .exact⟨0,O,AY _,rfl,HR1.o⟩
 obtain⟨i,kb2,hi,rfl,hR2⟩:=hrel;obtain⟨W2,rfl⟩:∃W2:AB,W2=wr:=⟨_,rfl⟩;have HR2:=AA hR2;clear hR2;by_cases en:i<xs.length
 .obtain⟨h2,hI,hbd⟩:=HIv.o i en;have HS1:Hid (Bl 2 ⟨F0,n,f,false⟩ xs ws (i+1)=Bm 2 (decide (i+1=xs.length)) (Bl 2 ⟨F0,n,f,false⟩ xs ws i) xs[i] ws):=by
   show Bm 2 (decide (i+1=xs.length)) _ (xs.getD i 0) ws=_;rw[Ae,AK en,BE]
  obtain⟨s,hs⟩:∃s,s=Bl 2 ⟨F0,n,f,false⟩ xs ws i:=⟨_,rfl⟩;rw[<-hs]at hI hbd HR2 HS1;have hbd2:s.N<=41200:=by
   have:i*ws.length<=200*200:=Nat.mul_le_mul (by omega) hwl;omega
  have HI:=AA hI;have hle:=hI.le;clear hs hI hbd;obtain⟨last,Z⟩:∃last,last=decide (i+1=xs.length):=⟨_,rfl⟩;rw[<-Z]at HS1;have U:=AA Z;clear Z;go_wp2;go_loopw [11,12,13] (λv11 v12 v13 wr=>∃(j:Nat) (I:Nat->Nat) (la:Option Ai) (lc:Nat),j<=ws.length/\v12= .int .i64 j/\v11= .slice la j lc/\RS r n g fc Y O w (Ap last s (ws.take j)) I wr/\wr.ownsRow w.heap.size 57 1 (.slice la j lc) j (Ad I (CI last s (ws.take j)))/\GH (Ap last s (ws.take j)) I (.slice la j lc) wr) (λ_ v _ _=>ws.length-(Aa v).toNat)
  .exact⟨0,kb2,none,0,AY _,rfl,rfl,by rw[BM];exact HR2.o,by rw[BM];cases last<;>exact Aw _ _ _ _,λy _ u _=>FO.nil _ _ _⟩
  obtain⟨j,t,la,lc,hj,rfl,rfl,d,F,ee⟩:=hrel;obtain⟨W3,rfl⟩:∃W3:AB,W3=wr:=⟨_,rfl⟩;by_cases G:j<ws.length
  .obtain⟨b,o,rfl,hbB,hc⟩:=(HRow2.o _ _ _ d).at_ (by rw[AM];omega);have g1:=hc j (by rw[AM];exact G);have hwm:=HW.o _ (AD G);have hw2:=HHt.o _ (AD G);rw[A5 G,<-d.old _ hwm]at g1;have P:Hid (CI last s (ws.take (j+1))=CI last s (ws.take j)++[if last then ws[j]else(Ap last s (ws.take j)).N]):=by
    rw[Hid,AF G,En]
   have S:Hid (Ap last s (ws.take (j+1))=if last then(Ap last s (ws.take j)).cut ws[j]else CZ 600 (Ap last s (ws.take j)) ws[j]):=by
    rw[Hid,AF G,DW]
   have M:Hid ((CI last s (ws.take j)).length=j):=by rw[Hid,DT,At];omega
   have HR3:=AA d;have HOw:=AA F;have et:=AA ee;have HWm:Hid (∀m,ws.take m=ws.take m):=λ_=>rfl;cases last
   .simp only[Bv,if_false]at P S;obtain⟨ha,A⟩:=Lr HI.o HHt.o j;have hbN:=Di HO0.o hn HI.o HHt.o (c:=41200) (by omega) hbd2 (j+1);rw[S.o]at hbN;have hAle:=A.le;have eo:ws[j]<(Ap false s (ws.take j)).N:=by omega
    have HCp:=AA (Fj 600 A.ok d.kno (AH hfw d.turn.size) eo (by rw[A.hold _ (by omega),(HI.o.sub _ (AD G) _ .self).2];exact hw2.2) (λy K=>AI (by omega)) d.fst (by omega) (λy K=>by obtain⟨z,hz,e⟩:=A.nds y K;rw[e];exact HNb.o z hz));obtain⟨hb',E⟩:=DK 600 _ _ _ A.ok eo (by rw[A.hold _ (by omega),(HI.o.sub _ (AD G) _ .self).2];exact hw2.2);have HE:=AA E;have HRt:Hid (∀y∈CI false s (ws.take j),y<(Ap false s (ws.take j)).N):=λy K=>(A.root y K).2.1;have HnN:Hid (n<=(Ap false s (ws.take j)).N):=AH hle hAle;have hnl:(i:Int)<(xs.length:Int)-1:=by
     have:=U.o;have:¬(i+1=xs.length):=of_decide_eq_false this.symm;omega
    obtain⟨x,hx⟩:∃x,x=ws[j]:=⟨_,rfl⟩;rw[<-hx]at g1 HCp HE S;obtain⟨C,hst⟩:∃C,C=Ap false s (ws.take j):=⟨_,rfl⟩;rw[<-hst]at HCp HE S HR3 et HRt HnN P;obtain⟨L,hL⟩:∃L,L=CI false s (ws.take j):=⟨_,rfl⟩;rw[<-hL]at P M HOw HRt;clear hc d F ee hwm hw2 A E hbN hAle eo hx hst hL U HWm;go_wp2_with fail;refine HCp.o.mono ?_;intro e q Q;obtain⟨l,rfl,N,ho4,ha4⟩:=HR3.o.copied HnN.o HE.o.lt Q HOw.o HRt.o et.o;have V:=AA (Gw N.kno C.N HE.o.lt HE.o.root);have X:=AA N;have HA4:=AA ha4;have HZr:Hid (B6 (q.alloc (.cells #[.pointer (some ⟨l C.N,0,none⟩)] 57)) (q.alloc (.cells #[.pointer (some ⟨l C.N,0,none⟩)] 57)).heap.size (some ⟨q.heap.size,0,none⟩) (Ad l [C.N])):=E8 q l C.N _ rfl;have HZo:Hid ((q.alloc (.cells #[.pointer (some ⟨l C.N,0,none⟩)] 57)).ownsRow w.heap.size 57 1 (.slice la j lc) L.length (Ad l L)):=(by rw[M.o];exact ho4.alloc _);have W:AL q.heap.size q (q.alloc (.cells #[.pointer (some ⟨l C.N,0,none⟩)] 57)):=Ac;have HZs:Hid (w.heap.size<=(q.alloc (.cells #[.pointer (some ⟨l C.N,0,none⟩)] 57)).heap.size):=AH N.turn.size W.size;have HGr:Hid (∀w5 v2,(q.alloc (.cells #[.pointer (some ⟨l C.N,0,none⟩)] 57)).grownBy w5 (AO la j lc).ownBlock->(v2.ownBlock=(AO la j lc).ownBlock\/v2.ownBlock=some (q.alloc (.cells #[.pointer (some ⟨l C.N,0,none⟩)] 57)).heap.size)->RS r n g fc Y O w (CZ 600 C x) l w5/\GH (CZ 600 C x) l v2 w5):=λw5 v2 hg hat=>(X.o.up W).grow (AG _) HZo.o (HA4.o.up (λy K=>X.o.kno.lt K) W) hg hat;clear Q N ho4 ha4 W g1;go_wp2_with fail;refine V.o.mono ?_;rintro e w5 ⟨rfl,rfl⟩;go_wp2_with(at_builtin;refine Az _ rfl (.tmp 86) (.tmp 88) rfl l w.heap.size (.slice la j lc) L rfl HZo.o (some ⟨w5.heap.size,0,none⟩) 1 1 [C.N] rfl rfl HZr.o (by have:=M.o;simp only[Ak,Ar];omega) HZs.o ?_);intro a5 c5 w6 H hg2 B;obtain⟨k1,k2⟩:=HGr.o w6 (.slice a5 (L.length+1) c5) hg2 (by simpa using B);have k:w6.ownsRow w.heap.size 57 1 (.slice a5 (L.length+1) c5) (L.length+1) (Ad l (L++[C.N])):=(by simpa using H);rw[M.o]at k2 k;have HK1:=AA k1;have HK2:=AA k2;have HK3:=AA k;clear H hg2 B k1 k2 k;go_wp2;go_roundw
    .refine⟨j+1,l,a5,c5,by omega,by go_num,by rw[M.o],by rw[S.o];exact HK1.o,by rw[P.o];exact HK3.o,by rw[S.o];exact HK2.o⟩
    simp[Aa];omega
   simp only[if_true]at P S;have T:=GL HI.o.ok (ws.take j);have eo:ws[j]<(Ap true s (ws.take j)).N:=by rw[T.N];omega
   have V:=AA (Hg T.ok d.kno (AH hfw d.turn.size) ws[j] eo (λp=>by have:=T.ok.Yu (λi hi=>hi) p;rw[T.N]at this;omega));have hnl:¬((i:Int)<(xs.length:Int)-1):=by
    have:=U.o;have:i+1=xs.length:=of_decide_eq_true this.symm;omega
   obtain⟨x,hx⟩:∃x,x=ws[j]:=⟨_,rfl⟩;rw[<-hx]at g1 V S P;obtain⟨C,hst⟩:∃C,C=Ap true s (ws.take j):=⟨_,rfl⟩;rw[<-hst]at V S HR3 et;obtain⟨L,hL⟩:∃L,L=CI true s (ws.take j):=⟨_,rfl⟩;rw[<-hL]at P M HOw;clear hc d F ee hwm hw2 T eo hx hst hL U HWm;go_wp2_with fail;refine V.o.mono ?_;intro e q Q;obtain⟨rfl,N,ho4,ha4⟩:=HR3.o.cut Q HOw.o et.o;have X:=AA N;have HA4:=AA ha4;have HZr:Hid (B6 (q.alloc (.cells #[.pointer (some ⟨t x,0,none⟩)] 57)) (q.alloc (.cells #[.pointer (some ⟨t x,0,none⟩)] 57)).heap.size (some ⟨q.heap.size,0,none⟩) (Ad t [x])):=E8 q t x _ rfl;have HZo:Hid ((q.alloc (.cells #[.pointer (some ⟨t x,0,none⟩)] 57)).ownsRow w.heap.size 57 1 (.slice la j lc) L.length (Ad t L)):=by rw[M.o];exact ho4.alloc _
   have W:AL q.heap.size q (q.alloc (.cells #[.pointer (some ⟨t x,0,none⟩)] 57)):=Ac;have HZs:Hid (w.heap.size<=(q.alloc (.cells #[.pointer (some ⟨t x,0,none⟩)] 57)).heap.size):=AH N.turn.size W.size;have HGr:Hid (∀w5 v2,(q.alloc (.cells #[.pointer (some ⟨t x,0,none⟩)] 57)).grownBy w5 (AO la j lc).ownBlock->(v2.ownBlock=(AO la j lc).ownBlock\/v2.ownBlock=some (q.alloc (.cells #[.pointer (some ⟨t x,0,none⟩)] 57)).heap.size)->RS r n g fc Y O w (C.cut x) t w5/\GH (C.cut x) t v2 w5):=λw5 v2 hg hat=>(X.o.up W).grow (AG _) HZo.o (HA4.o.up (λy K=>X.o.kno.lt K) W) hg hat;clear Q N ho4 ha4 W g1;go_wp2_with(at_builtin;refine Az _ rfl (.tmp 86) (.tmp 88) rfl t w.heap.size (.slice la j lc) L rfl HZo.o (some ⟨q.heap.size,0,none⟩) 1 1 [x] rfl rfl HZr.o (by have:=M.o;simp only[Ak,Ar];omega) HZs.o ?_);intro a5 c5 w6 H hg2 B;obtain⟨k1,k2⟩:=HGr.o w6 (.slice a5 (L.length+1) c5) hg2 (by simpa using B);have k:w6.ownsRow w.heap.size 57 1 (.slice a5 (L.length+1) c5) (L.length+1) (Ad t (L++[x])):=by simpa using H
   rw[M.o]at k2 k;have HK1:=AA k1;have HK2:=AA k2;have HK3:=AA k;clear H hg2 B k1 k2 k;go_wp2;go_roundw
   .refine⟨j+1,t,a5,c5,by omega,by go_num,by rw[M.o],by rw[S.o];exact HK1.o,by rw[P.o];exact HK3.o,by rw[S.o];exact HK2.o⟩
   simp[Aa];omega
  have ej:j=ws.length:=by omega
  rw[ej,AU]at d F;obtain⟨b,o,rfl,hbB,hc⟩:=(HRow1.o _ _ _ d).at_ (by rw[AM];omega);have g1:=hc i (by rw[AM];exact en);have hxm:=HX.o _ (AD en);rw[A5 en,<-d.old _ hxm]at g1;obtain⟨h3,l1,l2,q1,q2,q3,q4,q5,q6,q7,q8⟩:=EM (.inr (.inl rfl)) HI.o HWn.o HHt.o HX.o (AD en) last;have hNb:(Ap last s ws).N<=81000:=by
   cases last
   .have:=Di HO0.o hn HI.o HHt.o (c:=41200) (by omega) hbd2 ws.length;rw[AU]at this;omega
   have:=(GL HI.o.ok ws).N;omega
  have hkl:=q1.Yu (λi hi=>hi) (CK 2 (Ap last s ws).F xs[i]);have hLlen:=DT last s ws;have HIns:Hid (AX AC 62 #[.pointer (some ⟨Y,0,none⟩),.int .i64 2,.pointer (some ⟨t xs[i],0,none⟩),.slice la ws.length lc] W3 (DJ (Ap last s ws).F (λi=>i<(Ap last s ws).N) (Ap last s ws).nd (M1 r) Y t (CK 2 (Ap last s ws).F xs[i]) l1.length (CI last s ws) W3)):=by
   have hown':=F;rw[<-hLlen]at hown'|-;exact FT q1 d.kno (AH hfw d.turn.size) 2 xs[i] _ l1 l2 q4 q5 q6 q2 (by omega) (CI last s ws) (λy K=>⟨(q7 y K).1,(q7 y K).2.1,(q7 y K).2.2.1⟩) q8 (by omega) w.heap.size la lc hown' _
  have HEnd:Hid (∀e q,DJ (Ap last s ws).F (λi=>i<(Ap last s ws).N) (Ap last s ws).nd (M1 r) Y t (CK 2 (Ap last s ws).F xs[i]) l1.length (CI last s ws) W3 e q->e= .returned (.tuple #[])/\RS r n g fc Y O w (Bl 2 ⟨F0,n,f,false⟩ xs ws (i+1)) t q):=λe q Q=>by
   obtain⟨z1,z2⟩:=d.ins Q;refine⟨z1,?_⟩;rw[HS1.o];rw[q3]at z2;exact z2
  obtain⟨x,hx⟩:∃x,x=xs[i]:=⟨_,rfl⟩;rw[<-hx]at g1 HIns HEnd;subst ej;clear hc d F ee hxm q1 q2 q3 q4 q5 q6 q7 q8 hNb hkl hLlen hx U HS1;go_wp2_with fail;refine HIns.o.mono ?_;intro e q Q;obtain⟨rfl,N⟩:=HEnd.o e q Q;have X:=AA N;clear Q N g1;go_wp2;go_roundw
  .exact⟨i+1,t,by omega,by go_num,X.o⟩
  simp[Aa];omega
 have e:i=xs.length:=by omega
 subst e;have HB2:=AA (HBel.o _ _ _ HR2.o);go_wp2;go_ret;exact⟨true,rfl,λ_=>⟨HNe.o,HA.o,λ_=>HP.o,λh=>absurd h (by decide),kb2,HR2.o⟩,HB2.o⟩
theorem T'(hr2:r<=200)(hrn:r<=n){F0:Fo}(o0:F0.Ok (λi=>i<n) D)(hn:n<=600)(hnb:∀i,i<n->Kk (f i)/\(f i).attrs.length<=2000)(hh:∀i,i<n->D i<=600){fc Y:Nat}(hR:RS r n g fc Y O w ⟨F0,n,f,false⟩ O w)(hfw:Y<=w.heap.size)
 (xs ws:List Nat)(hxr:∀x∈xs,x<r)(hwr:∀x∈ws,x<r)(hxn:xs.Nodup)(hwn:ws.Nodup)(hx0:xs≠[]){base:Nat}(a:Option Ai)(c:Nat)(ei:w.ownsRow base 57 1 (.slice a xs.length c) xs.length (Ad O xs))(a2:Option Ai)(c2:Nat)(ho2:w.ownsRow base 57 1 (.slice a2 ws.length c2) ws.length (Ad O ws)):
 AX AC 38 #[.pointer (some ⟨Y,0,none⟩),.int .i64 4,.slice a xs.length c,.slice a2 ws.length c2] w (GV r n g fc Y O 4 F0 f xs ws ⟨F0,n,f,false⟩ w):=by
 have hxl:xs.length<=200:=by have:=BH hxn hxr;omega
 have hwl:ws.length<=200:=by have:=BH hwn hwr;omega
 have hxs:∀x∈xs,x<n:=λx h=>by have:=hxr x h;omega
 have J:∀x∈ws,x<n:=λx h=>by have:=hwr x h;omega
 have hkf:∀i,i<n->Y<=O i:=λi hi=>(hR.kno.node i hi).1;have hty1:∀i,i<n->(AO a xs.length c).ownBlock≠some (O i):=λi hi=>by
  obtain⟨_,_,_,_,_,hhn,_,_⟩:=hR.kno.node i hi;exact Ax ei hhn (by decide)
 have hty2:∀i,i<n->(AO a2 ws.length c2).ownBlock≠some (O i):=λi hi=>by
  obtain⟨_,_,_,_,_,hhn,_,_⟩:=hR.kno.node i hi;exact Ax ho2 hhn (by decide)
 have HRow1:Hid (∀s I wr,RS r n g fc Y O w s I wr->B6 wr wr.heap.size a (Ad O xs)):=λs I wr R=>Bh (R.kept ei hty1 (Ax ei hR.fst (by decide)));have HRow2:Hid (∀s I wr,RS r n g fc Y O w s I wr->B6 wr wr.heap.size a2 (Ad O ws)):=λs I wr R=>Bh (R.kept ho2 hty2 (Ax ho2 hR.fst (by decide)));have HBel:Hid (∀s I wr,RS r n g fc Y O w s I wr->AL Y w wr):=λs I wr R=>R.below hfw hkf;have HAp:=AA (Fg o0 (OO D n) ws xs J hxs (by omega) (by omega) a2 c2 a c w hR.kno (Bh ho2) (Bh ei));have ea:Hid (∀w1,AL w.heap.size w w1->AX AC 60 #[.slice a xs.length c] w1 (λe w'=>∃b,e= .returned (.bool b)/\(b=true->∀x∈xs,F0.par x≠none)/\w1=w')):=λw1 hb=>JT xs hxs (by omega) a c w1 (hR.kno.up hb) ((Bh ei).up hb);have HInv:Hid (GB F0 ws xs->(∀x∈xs,F0.par x≠none)->∀i,i<xs.length->∃h',Inv n F0 D f 4 xs ws (Bl 4 ⟨F0,n,f,false⟩ xs ws i) h'/\(Bl 4 ⟨F0,n,f,false⟩ xs ws i).N<=1200+i*ws.length):=λhA Q=>Hl (h:=D) (.inr (.inr (.inl rfl))) o0 hn ⟨o0,AG _,λ_ _ _ _=>⟨rfl,rfl⟩,λx hx y K=>by
  obtain⟨i,hi,rfl⟩:=An hx;obtain⟨j,hj,rfl⟩:=An K;exact hA.2 i j hi hj,λ_=>Q,λy K=>⟨y,K,rfl⟩⟩ (λx hx=>⟨J x hx,hh x (J x hx)⟩) hxs (by show n<=1200;omega)
 have HR0:=AA hR;have HX:=AA hxs;have HW:=AA J;have HWn:=AA hwn;have HHt:Hid (∀x∈ws,x<n/\D x<=600):=λx hx=>⟨J x hx,hh x (J x hx)⟩;have HNb:=AA hnb;have HO0:=AA o0;clear hR ei ho2 hty1 hty2 hkf hxs J hnb hh hx0 o0 hxr hwr;go_enter func38,ntmps38;go_wp2_with fail;refine HAp.o.mono ?_;rintro e w1 ⟨b1,rfl,hA,hb1⟩;have HR1:=AA (HR0.o.up hb1);have HB1:=AA (HBel.o _ _ _ HR1.o);have HG:=AA (ea.o w1 hb1);clear hb1;cases b1
 .clear hA;go_wp2;go_ret;exact⟨false,rfl,by simp,HB1.o⟩
 have HA:=AA (hA rfl);clear hA;go_wp2_with fail;refine HG.o.mono ?_;rintro e w2 ⟨b2,rfl,Q,rfl⟩;cases b2
 .clear Q;go_wp2;go_ret;exact⟨false,rfl,by simp,HB1.o⟩
 have HP:=AA (Q rfl);clear Q HG;rcases BJ ws.length with hz|hz
 .have ez:((ws.length:Int)==0)=true:=beq_iff_eq.2 (by omega);clear hz;go_wp2;go_ret;exact⟨false,rfl,by simp,HB1.o⟩
 have ez:((ws.length:Int)==0)=false:=CY.2 (by omega);have HNe:Hid (ws≠[]):=λe=>by rw[e]at hz;simp at hz
 have HIv:=AA (HInv.o HA.o HP.o);clear hz HInv ea;go_wp2;go_loopw [10,11,12,13] (λv v11 v12 v13 wr=>∃(i:Nat) (I:Nat->Nat),i<=xs.length/\v= .int .i64 i/\RS r n g fc Y O w (Bl 4 ⟨F0,n,f,false⟩ xs ws i) I wr) (λv _ _ _ _=>xs.length-(Aa v).toNat)
 .exact⟨0,O,AY _,rfl,HR1.o⟩
 obtain⟨i,kb2,hi,rfl,hR2⟩:=hrel;obtain⟨W2,rfl⟩:∃W2:AB,W2=wr:=⟨_,rfl⟩;have HR2:=AA hR2;clear hR2;by_cases en:i<xs.length
 .obtain⟨h2,hI,hbd⟩:=HIv.o i en;have HS1:Hid (Bl 4 ⟨F0,n,f,false⟩ xs ws (i+1)=Bm 4 (decide (i+1=xs.length)) (Bl 4 ⟨F0,n,f,false⟩ xs ws i) xs[i] ws):=by
   show Bm 4 (decide (i+1=xs.length)) _ (xs.getD i 0) ws=_;rw[Ae,AK en,BE]
  obtain⟨s,hs⟩:∃s,s=Bl 4 ⟨F0,n,f,false⟩ xs ws i:=⟨_,rfl⟩;rw[<-hs]at hI hbd HR2 HS1;have hbd2:s.N<=41200:=by
   have:i*ws.length<=200*200:=Nat.mul_le_mul (by omega) hwl;omega
  have HI:=AA hI;have hle:=hI.le;clear hs hI hbd;obtain⟨last,Z⟩:∃last,last=decide (i+1=xs.length):=⟨_,rfl⟩;rw[<-Z]at HS1;have U:=AA Z;clear Z;go_wp2;go_loopw [11,12,13] (λv11 v12 v13 wr=>∃(j:Nat) (I:Nat->Nat) (la:Option Ai) (lc:Nat),j<=ws.length/\v12= .int .i64 j/\v11= .slice la j lc/\RS r n g fc Y O w (Ap last s (ws.take j)) I wr/\wr.ownsRow w.heap.size 57 1 (.slice la j lc) j (Ad I (CI last s (ws.take j)))/\GH (Ap last s (ws.take j)) I (.slice la j lc) wr) (λ_ v _ _=>ws.length-(Aa v).toNat)
  .exact⟨0,kb2,none,0,AY _,rfl,rfl,by rw[BM];exact HR2.o,by rw[BM];cases last<;>exact Aw _ _ _ _,λy _ u _=>FO.nil _ _ _⟩
  obtain⟨j,t,la,lc,hj,rfl,rfl,d,F,ee⟩:=hrel;obtain⟨W3,rfl⟩:∃W3:AB,W3=wr:=⟨_,rfl⟩;by_cases G:j<ws.length
  .obtain⟨b,o,rfl,hbB,hc⟩:=(HRow2.o _ _ _ d).at_ (by rw[AM];omega);have g1:=hc j (by rw[AM];exact G);have hwm:=HW.o _ (AD G);have hw2:=HHt.o _ (AD G);rw[A5 G,<-d.old _ hwm]at g1;have P:Hid (CI last s (ws.take (j+1))=CI last s (ws.take j)++[if last then ws[j]else(Ap last s (ws.take j)).N]):=by
    rw[Hid,AF G,En]
   have S:Hid (Ap last s (ws.take (j+1))=if last then(Ap last s (ws.take j)).cut ws[j]else CZ 600 (Ap last s (ws.take j)) ws[j]):=by
    rw[Hid,AF G,DW]
   have M:Hid ((CI last s (ws.take j)).length=j):=by rw[Hid,DT,At];omega
   have HR3:=AA d;have HOw:=AA F;have et:=AA ee;have HWm:Hid (∀m,ws.take m=ws.take m):=λ_=>rfl;cases last
   .simp only[Bv,if_false]at P S;obtain⟨ha,A⟩:=Lr HI.o HHt.o j;have hbN:=Di HO0.o hn HI.o HHt.o (c:=41200) (by omega) hbd2 (j+1);rw[S.o]at hbN;have hAle:=A.le;have eo:ws[j]<(Ap false s (ws.take j)).N:=by omega
    have HCp:=AA (Fj 600 A.ok d.kno (AH hfw d.turn.size) eo (by rw[A.hold _ (by omega),(HI.o.sub _ (AD G) _ .self).2];exact hw2.2) (λy K=>AI (by omega)) d.fst (by omega) (λy K=>by obtain⟨z,hz,e⟩:=A.nds y K;rw[e];exact HNb.o z hz));obtain⟨hb',E⟩:=DK 600 _ _ _ A.ok eo (by rw[A.hold _ (by omega),(HI.o.sub _ (AD G) _ .self).2];exact hw2.2);have HE:=AA E;have HRt:Hid (∀y∈CI false s (ws.take j),y<(Ap false s (ws.take j)).N):=λy K=>(A.root y K).2.1;have HnN:Hid (n<=(Ap false s (ws.take j)).N):=AH hle hAle;have hnl:(i:Int)<(xs.length:Int)-1:=by
     have:=U.o;have:¬(i+1=xs.length):=of_decide_eq_false this.symm;omega
    obtain⟨x,hx⟩:∃x,x=ws[j]:=⟨_,rfl⟩;rw[<-hx]at g1 HCp HE S;obtain⟨C,hst⟩:∃C,C=Ap false s (ws.take j):=⟨_,rfl⟩;rw[<-hst]at HCp HE S HR3 et HRt HnN P;obtain⟨L,hL⟩:∃L,L=CI false s (ws.take j):=⟨_,rfl⟩;rw[<-hL]at P M HOw HRt;clear hc d F ee hwm hw2 A E hbN hAle eo hx hst hL U HWm;go_wp2_with fail;refine HCp.o.mono ?_;intro e q Q;obtain⟨l,rfl,N,ho4,ha4⟩:=HR3.o.copied HnN.o HE.o.lt Q HOw.o HRt.o et.o;have V:=AA (Gw N.kno C.N HE.o.lt HE.o.root);have X:=AA N;have HA4:=AA ha4;have HZr:Hid (B6 (q.alloc (.cells #[.pointer (some ⟨l C.N,0,none⟩)] 57)) (q.alloc (.cells #[.pointer (some ⟨l C.N,0,none⟩)] 57)).heap.size (some ⟨q.heap.size,0,none⟩) (Ad l [C.N])):=E8 q l C.N _ rfl;have HZo:Hid ((q.alloc (.cells #[.pointer (some ⟨l C.N,0,none⟩)] 57)).ownsRow w.heap.size 57 1 (.slice la j lc) L.length (Ad l L)):=(by rw[M.o];exact ho4.alloc _);have W:AL q.heap.size q (q.alloc (.cells #[.pointer (some ⟨l C.N,0,none⟩)] 57)):=Ac;have HZs:Hid (w.heap.size<=(q.alloc (.cells #[.pointer (some ⟨l C.N,0,none⟩)] 57)).heap.size):=AH N.turn.size W.size;have HGr:Hid (∀w5 v2,(q.alloc (.cells #[.pointer (some ⟨l C.N,0,none⟩)] 57)).grownBy w5 (AO la j lc).ownBlock->(v2.ownBlock=(AO la j lc).ownBlock\/v2.ownBlock=some (q.alloc (.cells #[.pointer (some ⟨l C.N,0,none⟩)] 57)).heap.size)->RS r n g fc Y O w (CZ 600 C x) l w5/\GH (CZ 600 C x) l v2 w5):=λw5 v2 hg hat=>(X.o.up W).grow (AG _) HZo.o (HA4.o.up (λy K=>X.o.kno.lt K) W) hg hat;clear Q N ho4 ha4 W g1;go_wp2_with fail;refine V.o.mono ?_;rintro e w5 ⟨rfl,rfl⟩;go_wp2_with(at_builtin;refine Az _ rfl (.tmp 86) (.tmp 88) rfl l w.heap.size (.slice la j lc) L rfl HZo.o (some ⟨w5.heap.size,0,none⟩) 1 1 [C.N] rfl rfl HZr.o (by have:=M.o;simp only[Ak,Ar];omega) HZs.o ?_);intro a5 c5 w6 H hg2 B;obtain⟨k1,k2⟩:=HGr.o w6 (.slice a5 (L.length+1) c5) hg2 (by simpa using B);have k:w6.ownsRow w.heap.size 57 1 (.slice a5 (L.length+1) c5) (L.length+1) (Ad l (L++[C.N])):=(by simpa using H);rw[M.o]at k2 k;have HK1:=AA k1;have HK2:=AA k2;have HK3:=AA k;clear H hg2 B k1 k2 k;go_wp2;go_roundw
    .refine⟨j+1,l,a5,c5,by omega,by go_num,by rw[M.o],by rw[S.o];exact HK1.o,by rw[P.o];exact HK3.o,by rw[S.o];exact HK2.o⟩
    simp[Aa];omega
   simp only[if_true]at P S;have T:=GL HI.o.ok (ws.take j);have eo:ws[j]<(Ap true s (ws.take j)).N:=by rw[T.N];omega
   have V:=AA (Hg T.ok d.kno (AH hfw d.turn.size) ws[j] eo (λp=>by have:=T.ok.Yu (λi hi=>hi) p;rw[T.N]at this;omega));have hnl:¬((i:Int)<(xs.length:Int)-1):=by
    have:=U.o;have:i+1=xs.length:=of_decide_eq_true this.symm;omega
   obtain⟨x,hx⟩:∃x,x=ws[j]:=⟨_,rfl⟩;rw[<-hx]at g1 V S P;obtain⟨C,hst⟩:∃C,C=Ap true s (ws.take j):=⟨_,rfl⟩;rw[<-hst]at V S HR3 et;obtain⟨L,hL⟩:∃L,L=CI true s (ws.take j):=⟨_,rfl⟩;rw[<-hL]at P M HOw;clear hc d F ee hwm hw2 T eo hx hst hL U HWm;go_wp2_with fail;refine V.o.mono ?_;intro e q Q;obtain⟨rfl,N,ho4,ha4⟩:=HR3.o.cut Q HOw.o et.o;have X:=AA N;have HA4:=AA ha4;have HZr:Hid (B6 (q.alloc (.cells #[.pointer (some ⟨t x,0,none⟩)] 57)) (q.alloc (.cells #[.pointer (some ⟨t x,0,none⟩)] 57)).heap.size (some ⟨q.heap.size,0,none⟩) (Ad t [x])):=E8 q t x _ rfl;have HZo:Hid ((q.alloc (.cells #[.pointer (some ⟨t x,0,none⟩)] 57)).ownsRow w.heap.size 57 1 (.slice la j lc) L.length (Ad t L)):=by rw[M.o];exact ho4.alloc _
   have W:AL q.heap.size q (q.alloc (.cells #[.pointer (some ⟨t x,0,none⟩)] 57)):=Ac;have HZs:Hid (w.heap.size<=(q.alloc (.cells #[.pointer (some ⟨t x,0,none⟩)] 57)).heap.size):=AH N.turn.size W.size;have HGr:Hid (∀w5 v2,(q.alloc (.cells #[.pointer (some ⟨t x,0,none⟩)] 57)).grownBy w5 (AO la j lc).ownBlock->(v2.ownBlock=(AO la j lc).ownBlock\/v2.ownBlock=some (q.alloc (.cells #[.pointer (some ⟨t x,0,none⟩)] 57)).heap.size)->RS r n g fc Y O w (C.cut x) t w5/\GH (C.cut x) t v2 w5):=λw5 v2 hg hat=>(X.o.up W).grow (AG _) HZo.o (HA4.o.up (λy K=>X.o.kno.lt K) W) hg hat;clear Q N ho4 ha4 W g1;go_wp2_with(at_builtin;refine Az _ rfl (.tmp 86) (.tmp 88) rfl t w.heap.size (.slice la j lc) L rfl HZo.o (some ⟨q.heap.size,0,none⟩) 1 1 [x] rfl rfl HZr.o (by have:=M.o;simp only[Ak,Ar];omega) HZs.o ?_);intro a5 c5 w6 H hg2 B;obtain⟨k1,k2⟩:=HGr.o w6 (.slice a5 (L.length+1) c5) hg2 (by simpa using B);have k:w6.ownsRow w.heap.size 57 1 (.slice a5 (L.length+1) c5) (L.length+1) (Ad t (L++[x])):=by simpa using H
   rw[M.o]at k2 k;have HK1:=AA k1;have HK2:=AA k2;have HK3:=AA k;clear H hg2 B k1 k2 k;go_wp2;go_roundw
   .refine⟨j+1,t,a5,c5,by omega,by go_num,by rw[M.o],by rw[S.o];exact HK1.o,by rw[P.o];exact HK3.o,by rw[S.o];exact HK2.o⟩
   simp[Aa];omega
  have ej:j=ws.length:=by omega
  rw[ej,AU]at d F;obtain⟨b,o,rfl,hbB,hc⟩:=(HRow1.o _ _ _ d).at_ (by rw[AM];omega);have g1:=hc i (by rw[AM];exact en);have hxm:=HX.o _ (AD en);rw[A5 en,<-d.old _ hxm]at g1;obtain⟨h3,l1,l2,q1,q2,q3,q4,q5,q6,q7,q8⟩:=EM (.inr (.inr (.inl rfl))) HI.o HWn.o HHt.o HX.o (AD en) last;have hNb:(Ap last s ws).N<=81000:=by
   cases last
   .have:=Di HO0.o hn HI.o HHt.o (c:=41200) (by omega) hbd2 ws.length;rw[AU]at this;omega
   have:=(GL HI.o.ok ws).N;omega
  have hkl:=q1.Yu (λi hi=>hi) (CK 4 (Ap last s ws).F xs[i]);have hLlen:=DT last s ws;have HIns:Hid (AX AC 62 #[.pointer (some ⟨Y,0,none⟩),.int .i64 4,.pointer (some ⟨t xs[i],0,none⟩),.slice la ws.length lc] W3 (DJ (Ap last s ws).F (λi=>i<(Ap last s ws).N) (Ap last s ws).nd (M1 r) Y t (CK 4 (Ap last s ws).F xs[i]) l1.length (CI last s ws) W3)):=by
   have hown':=F;rw[<-hLlen]at hown'|-;exact FT q1 d.kno (AH hfw d.turn.size) 4 xs[i] _ l1 l2 q4 q5 q6 q2 (by omega) (CI last s ws) (λy K=>⟨(q7 y K).1,(q7 y K).2.1,(q7 y K).2.2.1⟩) q8 (by omega) w.heap.size la lc hown' _
  have HEnd:Hid (∀e q,DJ (Ap last s ws).F (λi=>i<(Ap last s ws).N) (Ap last s ws).nd (M1 r) Y t (CK 4 (Ap last s ws).F xs[i]) l1.length (CI last s ws) W3 e q->e= .returned (.tuple #[])/\RS r n g fc Y O w (Bl 4 ⟨F0,n,f,false⟩ xs ws (i+1)) t q):=λe q Q=>by
   obtain⟨z1,z2⟩:=d.ins Q;refine⟨z1,?_⟩;rw[HS1.o];rw[q3]at z2;exact z2
  obtain⟨x,hx⟩:∃x,x=xs[i]:=⟨_,rfl⟩;rw[<-hx]at g1 HIns HEnd;subst ej;clear hc d F ee hxm q1 q2 q3 q4 q5 q6 q7 q8 hNb hkl hLlen hx U HS1;go_wp2_with fail;refine HIns.o.mono ?_;intro e q Q;obtain⟨rfl,N⟩:=HEnd.o e q Q;have X:=AA N;clear Q N g1;go_wp2;go_roundw
  .exact⟨i+1,t,by omega,by go_num,X.o⟩
  simp[Aa];omega
 have e:i=xs.length:=by omega
 subst e;have HB2:=AA (HBel.o _ _ _ HR2.o);go_wp2;go_ret;exact⟨true,rfl,λ_=>⟨HNe.o,HA.o,λh=>absurd (by decide) h,λ_=>HP.o,kb2,HR2.o⟩,HB2.o⟩
theorem T_(hr2:r<=200)(hrn:r<=n){F0:Fo}(o0:F0.Ok (λi=>i<n) D)(hn:n<=600)(hnb:∀i,i<n->Kk (f i)/\(f i).attrs.length<=2000)(hh:∀i,i<n->D i<=600){fc Y:Nat}(hR:RS r n g fc Y O w ⟨F0,n,f,false⟩ O w)(hfw:Y<=w.heap.size)
 (xs ws:List Nat)(hxr:∀x∈xs,x<r)(hwr:∀x∈ws,x<r)(hxn:xs.Nodup)(hwn:ws.Nodup)(hx0:xs≠[]){base:Nat}(a:Option Ai)(c:Nat)(ei:w.ownsRow base 57 1 (.slice a xs.length c) xs.length (Ad O xs))(a2:Option Ai)(c2:Nat)(ho2:w.ownsRow base 57 1 (.slice a2 ws.length c2) ws.length (Ad O ws)):
 AX AC 38 #[.pointer (some ⟨Y,0,none⟩),.int .i64 3,.slice a xs.length c,.slice a2 ws.length c2] w (GV r n g fc Y O 3 F0 f xs ws ⟨F0,n,f,false⟩ w):=by
 have hxl:xs.length<=200:=by have:=BH hxn hxr;omega
 have hwl:ws.length<=200:=by have:=BH hwn hwr;omega
 have hxs:∀x∈xs,x<n:=λx h=>by have:=hxr x h;omega
 have J:∀x∈ws,x<n:=λx h=>by have:=hwr x h;omega
 have hkf:∀i,i<n->Y<=O i:=λi hi=>(hR.kno.node i hi).1;have hty1:∀i,i<n->(AO a xs.length c).ownBlock≠some (O i):=λi hi=>by
  obtain⟨_,_,_,_,_,hhn,_,_⟩:=hR.kno.node i hi;exact Ax ei hhn (by decide)
 have hty2:∀i,i<n->(AO a2 ws.length c2).ownBlock≠some (O i):=λi hi=>by
  obtain⟨_,_,_,_,_,hhn,_,_⟩:=hR.kno.node i hi;exact Ax ho2 hhn (by decide)
 have HRow1:Hid (∀s I wr,RS r n g fc Y O w s I wr->B6 wr wr.heap.size a (Ad O xs)):=λs I wr R=>Bh (R.kept ei hty1 (Ax ei hR.fst (by decide)));have HRow2:Hid (∀s I wr,RS r n g fc Y O w s I wr->B6 wr wr.heap.size a2 (Ad O ws)):=λs I wr R=>Bh (R.kept ho2 hty2 (Ax ho2 hR.fst (by decide)));have HBel:Hid (∀s I wr,RS r n g fc Y O w s I wr->AL Y w wr):=λs I wr R=>R.below hfw hkf;have HAp:=AA (Fg o0 (OO D n) ws xs J hxs (by omega) (by omega) a2 c2 a c w hR.kno (Bh ho2) (Bh ei));have ea:Hid (∀w1,AL w.heap.size w w1->AX AC 60 #[.slice a xs.length c] w1 (λe w'=>∃b,e= .returned (.bool b)/\(b=true->∀x∈xs,F0.par x≠none)/\w1=w')):=λw1 hb=>JT xs hxs (by omega) a c w1 (hR.kno.up hb) ((Bh ei).up hb);have HInv:Hid (GB F0 ws xs->(∀x∈xs,F0.par x≠none)->∀i,i<xs.length->∃h',Inv n F0 D f 3 xs ws (Bl 3 ⟨F0,n,f,false⟩ xs ws i) h'/\(Bl 3 ⟨F0,n,f,false⟩ xs ws i).N<=1200+i*ws.length):=λhA Q=>Hl (h:=D) (.inr (.inr (.inr rfl))) o0 hn ⟨o0,AG _,λ_ _ _ _=>⟨rfl,rfl⟩,λx hx y K=>by
  obtain⟨i,hi,rfl⟩:=An hx;obtain⟨j,hj,rfl⟩:=An K;exact hA.2 i j hi hj,λ_=>Q,λy K=>⟨y,K,rfl⟩⟩ (λx hx=>⟨J x hx,hh x (J x hx)⟩) hxs (by show n<=1200;omega)
 have HR0:=AA hR;have HX:=AA hxs;have HW:=AA J;have HWn:=AA hwn;have HHt:Hid (∀x∈ws,x<n/\D x<=600):=λx hx=>⟨J x hx,hh x (J x hx)⟩;have HNb:=AA hnb;have HO0:=AA o0;clear hR ei ho2 hty1 hty2 hkf hxs J hnb hh hx0 o0 hxr hwr;go_enter func38,ntmps38;go_wp2_with fail;refine HAp.o.mono ?_;rintro e w1 ⟨b1,rfl,hA,hb1⟩;have HR1:=AA (HR0.o.up hb1);have HB1:=AA (HBel.o _ _ _ HR1.o);have HG:=AA (ea.o w1 hb1);clear hb1;cases b1
 .clear hA;go_wp2;go_ret;exact⟨false,rfl,by simp,HB1.o⟩
 have HA:=AA (hA rfl);clear hA;go_wp2_with fail;refine HG.o.mono ?_;rintro e w2 ⟨b2,rfl,Q,rfl⟩;cases b2
 .clear Q;go_wp2;go_ret;exact⟨false,rfl,by simp,HB1.o⟩
 have HP:=AA (Q rfl);clear Q HG;rcases BJ ws.length with hz|hz
 .have ez:((ws.length:Int)==0)=true:=beq_iff_eq.2 (by omega);clear hz;go_wp2;go_ret;exact⟨false,rfl,by simp,HB1.o⟩
 have ez:((ws.length:Int)==0)=false:=CY.2 (by omega);have HNe:Hid (ws≠[]):=λe=>by rw[e]at hz;simp at hz
 have HIv:=AA (HInv.o HA.o HP.o);clear hz HInv ea;go_wp2;go_loopw [10,11,12,13] (λv v11 v12 v13 wr=>∃(i:Nat) (I:Nat->Nat),i<=xs.length/\v= .int .i64 i/\RS r n g fc Y O w (Bl 3 ⟨F0,n,f,false⟩ xs ws i) I wr) (λv _ _ _ _=>xs.length-(Aa v).toNat)
 .exact⟨0,O,AY _,rfl,HR1.o⟩
 obtain⟨i,kb2,hi,rfl,hR2⟩:=hrel;obtain⟨W2,rfl⟩:∃W2:AB,W2=wr:=⟨_,rfl⟩;have HR2:=AA hR2;clear hR2;by_cases en:i<xs.length
 .obtain⟨h2,hI,hbd⟩:=HIv.o i en;have HS1:Hid (Bl 3 ⟨F0,n,f,false⟩ xs ws (i+1)=Bm 3 (decide (i+1=xs.length)) (Bl 3 ⟨F0,n,f,false⟩ xs ws i) xs[i] ws):=by
   show Bm 3 (decide (i+1=xs.length)) _ (xs.getD i 0) ws=_;rw[Ae,AK en,BE]
  obtain⟨s,hs⟩:∃s,s=Bl 3 ⟨F0,n,f,false⟩ xs ws i:=⟨_,rfl⟩;rw[<-hs]at hI hbd HR2 HS1;have hbd2:s.N<=41200:=by
   have:i*ws.length<=200*200:=Nat.mul_le_mul (by omega) hwl;omega
  have HI:=AA hI;have hle:=hI.le;clear hs hI hbd;obtain⟨last,Z⟩:∃last,last=decide (i+1=xs.length):=⟨_,rfl⟩;rw[<-Z]at HS1;have U:=AA Z;clear Z;go_wp2;go_loopw [11,12,13] (λv11 v12 v13 wr=>∃(j:Nat) (I:Nat->Nat) (la:Option Ai) (lc:Nat),j<=ws.length/\v12= .int .i64 j/\v11= .slice la j lc/\RS r n g fc Y O w (Ap last s (ws.take j)) I wr/\wr.ownsRow w.heap.size 57 1 (.slice la j lc) j (Ad I (CI last s (ws.take j)))/\GH (Ap last s (ws.take j)) I (.slice la j lc) wr) (λ_ v _ _=>ws.length-(Aa v).toNat)
  .exact⟨0,kb2,none,0,AY _,rfl,rfl,by rw[BM];exact HR2.o,by rw[BM];cases last<;>exact Aw _ _ _ _,λy _ u _=>FO.nil _ _ _⟩
  obtain⟨j,t,la,lc,hj,rfl,rfl,d,F,ee⟩:=hrel;obtain⟨W3,rfl⟩:∃W3:AB,W3=wr:=⟨_,rfl⟩;by_cases G:j<ws.length
  .obtain⟨b,o,rfl,hbB,hc⟩:=(HRow2.o _ _ _ d).at_ (by rw[AM];omega);have g1:=hc j (by rw[AM];exact G);have hwm:=HW.o _ (AD G);have hw2:=HHt.o _ (AD G);rw[A5 G,<-d.old _ hwm]at g1;have P:Hid (CI last s (ws.take (j+1))=CI last s (ws.take j)++[if last then ws[j]else(Ap last s (ws.take j)).N]):=by
    rw[Hid,AF G,En]
   have S:Hid (Ap last s (ws.take (j+1))=if last then(Ap last s (ws.take j)).cut ws[j]else CZ 600 (Ap last s (ws.take j)) ws[j]):=by
    rw[Hid,AF G,DW]
   have M:Hid ((CI last s (ws.take j)).length=j):=by rw[Hid,DT,At];omega
   have HR3:=AA d;have HOw:=AA F;have et:=AA ee;have HWm:Hid (∀m,ws.take m=ws.take m):=λ_=>rfl;cases last
   .simp only[Bv,if_false]at P S;obtain⟨ha,A⟩:=Lr HI.o HHt.o j;have hbN:=Di HO0.o hn HI.o HHt.o (c:=41200) (by omega) hbd2 (j+1);rw[S.o]at hbN;have hAle:=A.le;have eo:ws[j]<(Ap false s (ws.take j)).N:=by omega
    have HCp:=AA (Fj 600 A.ok d.kno (AH hfw d.turn.size) eo (by rw[A.hold _ (by omega),(HI.o.sub _ (AD G) _ .self).2];exact hw2.2) (λy K=>AI (by omega)) d.fst (by omega) (λy K=>by obtain⟨z,hz,e⟩:=A.nds y K;rw[e];exact HNb.o z hz));obtain⟨hb',E⟩:=DK 600 _ _ _ A.ok eo (by rw[A.hold _ (by omega),(HI.o.sub _ (AD G) _ .self).2];exact hw2.2);have HE:=AA E;have HRt:Hid (∀y∈CI false s (ws.take j),y<(Ap false s (ws.take j)).N):=λy K=>(A.root y K).2.1;have HnN:Hid (n<=(Ap false s (ws.take j)).N):=AH hle hAle;have hnl:(i:Int)<(xs.length:Int)-1:=by
     have:=U.o;have:¬(i+1=xs.length):=of_decide_eq_false this.symm;omega
    obtain⟨x,hx⟩:∃x,x=ws[j]:=⟨_,rfl⟩;rw[<-hx]at g1 HCp HE S;obtain⟨C,hst⟩:∃C,C=Ap false s (ws.take j):=⟨_,rfl⟩;rw[<-hst]at HCp HE S HR3 et HRt HnN P;obtain⟨L,hL⟩:∃L,L=CI false s (ws.take j):=⟨_,rfl⟩;rw[<-hL]at P M HOw HRt;clear hc d F ee hwm hw2 A E hbN hAle eo hx hst hL U HWm;go_wp2_with fail;refine HCp.o.mono ?_;intro e q Q;obtain⟨l,rfl,N,ho4,ha4⟩:=HR3.o.copied HnN.o HE.o.lt Q HOw.o HRt.o et.o;have V:=AA (Gw N.kno C.N HE.o.lt HE.o.root);have X:=AA N;have HA4:=AA ha4;have HZr:Hid (B6 (q.alloc (.cells #[.pointer (some ⟨l C.N,0,none⟩)] 57)) (q.alloc (.cells #[.pointer (some ⟨l C.N,0,none⟩)] 57)).heap.size (some ⟨q.heap.size,0,none⟩) (Ad l [C.N])):=E8 q l C.N _ rfl;have HZo:Hid ((q.alloc (.cells #[.pointer (some ⟨l C.N,0,none⟩)] 57)).ownsRow w.heap.size 57 1 (.slice la j lc) L.length (Ad l L)):=(by rw[M.o];exact ho4.alloc _);have W:AL q.heap.size q (q.alloc (.cells #[.pointer (some ⟨l C.N,0,none⟩)] 57)):=Ac;have HZs:Hid (w.heap.size<=(q.alloc (.cells #[.pointer (some ⟨l C.N,0,none⟩)] 57)).heap.size):=AH N.turn.size W.size;have HGr:Hid (∀w5 v2,(q.alloc (.cells #[.pointer (some ⟨l C.N,0,none⟩)] 57)).grownBy w5 (AO la j lc).ownBlock->(v2.ownBlock=(AO la j lc).ownBlock\/v2.ownBlock=some (q.alloc (.cells #[.pointer (some ⟨l C.N,0,none⟩)] 57)).heap.size)->RS r n g fc Y O w (CZ 600 C x) l w5/\GH (CZ 600 C x) l v2 w5):=λw5 v2 hg hat=>(X.o.up W).grow (AG _) HZo.o (HA4.o.up (λy K=>X.o.kno.lt K) W) hg hat;clear Q N ho4 ha4 W g1;go_wp2_with fail;refine V.o.mono ?_;rintro e w5 ⟨rfl,rfl⟩;go_wp2_with(at_builtin;refine Az _ rfl (.tmp 86) (.tmp 88) rfl l w.heap.size (.slice la j lc) L rfl HZo.o (some ⟨w5.heap.size,0,none⟩) 1 1 [C.N] rfl rfl HZr.o (by have:=M.o;simp only[Ak,Ar];omega) HZs.o ?_);intro a5 c5 w6 H hg2 B;obtain⟨k1,k2⟩:=HGr.o w6 (.slice a5 (L.length+1) c5) hg2 (by simpa using B);have k:w6.ownsRow w.heap.size 57 1 (.slice a5 (L.length+1) c5) (L.length+1) (Ad l (L++[C.N])):=(by simpa using H);rw[M.o]at k2 k;have HK1:=AA k1;have HK2:=AA k2;have HK3:=AA k;clear H hg2 B k1 k2 k;go_wp2;go_roundw
    .refine⟨j+1,l,a5,c5,by omega,by go_num,by rw[M.o],by rw[S.o];exact HK1.o,by rw[P.o];exact HK3.o,by rw[S.o];exact HK2.o⟩
    simp[Aa];omega
   simp only[if_true]at P S;have T:=GL HI.o.ok (ws.take j);have eo:ws[j]<(Ap true s (ws.take j)).N:=by rw[T.N];omega
   have V:=AA (Hg T.ok d.kno (AH hfw d.turn.size) ws[j] eo (λp=>by have:=T.ok.Yu (λi hi=>hi) p;rw[T.N]at this;omega));have hnl:¬((i:Int)<(xs.length:Int)-1):=by
    have:=U.o;have:i+1=xs.length:=of_decide_eq_true this.symm;omega
   obtain⟨x,hx⟩:∃x,x=ws[j]:=⟨_,rfl⟩;rw[<-hx]at g1 V S P;obtain⟨C,hst⟩:∃C,C=Ap true s (ws.take j):=⟨_,rfl⟩;rw[<-hst]at V S HR3 et;obtain⟨L,hL⟩:∃L,L=CI true s (ws.take j):=⟨_,rfl⟩;rw[<-hL]at P M HOw;clear hc d F ee hwm hw2 T eo hx hst hL U HWm;go_wp2_with fail;refine V.o.mono ?_;intro e q Q;obtain⟨rfl,N,ho4,ha4⟩:=HR3.o.cut Q HOw.o et.o;have X:=AA N;have HA4:=AA ha4;have HZr:Hid (B6 (q.alloc (.cells #[.pointer (some ⟨t x,0,none⟩)] 57)) (q.alloc (.cells #[.pointer (some ⟨t x,0,none⟩)] 57)).heap.size (some ⟨q.heap.size,0,none⟩) (Ad t [x])):=E8 q t x _ rfl;have HZo:Hid ((q.alloc (.cells #[.pointer (some ⟨t x,0,none⟩)] 57)).ownsRow w.heap.size 57 1 (.slice la j lc) L.length (Ad t L)):=by rw[M.o];exact ho4.alloc _
   have W:AL q.heap.size q (q.alloc (.cells #[.pointer (some ⟨t x,0,none⟩)] 57)):=Ac;have HZs:Hid (w.heap.size<=(q.alloc (.cells #[.pointer (some ⟨t x,0,none⟩)] 57)).heap.size):=AH N.turn.size W.size;have HGr:Hid (∀w5 v2,(q.alloc (.cells #[.pointer (some ⟨t x,0,none⟩)] 57)).grownBy w5 (AO la j lc).ownBlock->(v2.ownBlock=(AO la j lc).ownBlock\/v2.ownBlock=some (q.alloc (.cells #[.pointer (some ⟨t x,0,none⟩)] 57)).heap.size)->RS r n g fc Y O w (C.cut x) t w5/\GH (C.cut x) t v2 w5):=λw5 v2 hg hat=>(X.o.up W).grow (AG _) HZo.o (HA4.o.up (λy K=>X.o.kno.lt K) W) hg hat;clear Q N ho4 ha4 W g1;go_wp2_with(at_builtin;refine Az _ rfl (.tmp 86) (.tmp 88) rfl t w.heap.size (.slice la j lc) L rfl HZo.o (some ⟨q.heap.size,0,none⟩) 1 1 [x] rfl rfl HZr.o (by have:=M.o;simp only[Ak,Ar];omega) HZs.o ?_);intro a5 c5 w6 H hg2 B;obtain⟨k1,k2⟩:=HGr.o w6 (.slice a5 (L.length+1) c5) hg2 (by simpa using B);have k:w6.ownsRow w.heap.size 57 1 (.slice a5 (L.length+1) c5) (L.length+1) (Ad t (L++[x])):=by simpa using H
   rw[M.o]at k2 k;have HK1:=AA k1;have HK2:=AA k2;have HK3:=AA k;clear H hg2 B k1 k2 k;go_wp2;go_roundw
   .refine⟨j+1,t,a5,c5,by omega,by go_num,by rw[M.o],by rw[S.o];exact HK1.o,by rw[P.o];exact HK3.o,by rw[S.o];exact HK2.o⟩
   simp[Aa];omega
  have ej:j=ws.length:=by omega
  rw[ej,AU]at d F;obtain⟨b,o,rfl,hbB,hc⟩:=(HRow1.o _ _ _ d).at_ (by rw[AM];omega);have g1:=hc i (by rw[AM];exact en);have hxm:=HX.o _ (AD en);rw[A5 en,<-d.old _ hxm]at g1;obtain⟨h3,l1,l2,q1,q2,q3,q4,q5,q6,q7,q8⟩:=EM (.inr (.inr (.inr rfl))) HI.o HWn.o HHt.o HX.o (AD en) last;have hNb:(Ap last s ws).N<=81000:=by
   cases last
   .have:=Di HO0.o hn HI.o HHt.o (c:=41200) (by omega) hbd2 ws.length;rw[AU]at this;omega
   have:=(GL HI.o.ok ws).N;omega
  have hkl:=q1.Yu (λi hi=>hi) (CK 3 (Ap last s ws).F xs[i]);have hLlen:=DT last s ws;have HIns:Hid (AX AC 62 #[.pointer (some ⟨Y,0,none⟩),.int .i64 3,.pointer (some ⟨t xs[i],0,none⟩),.slice la ws.length lc] W3 (DJ (Ap last s ws).F (λi=>i<(Ap last s ws).N) (Ap last s ws).nd (M1 r) Y t (CK 3 (Ap last s ws).F xs[i]) l1.length (CI last s ws) W3)):=by
   have hown':=F;rw[<-hLlen]at hown'|-;exact FT q1 d.kno (AH hfw d.turn.size) 3 xs[i] _ l1 l2 q4 q5 q6 q2 (by omega) (CI last s ws) (λy K=>⟨(q7 y K).1,(q7 y K).2.1,(q7 y K).2.2.1⟩) q8 (by omega) w.heap.size la lc hown' _
  have HEnd:Hid (∀e q,DJ (Ap last s ws).F (λi=>i<(Ap last s ws).N) (Ap last s ws).nd (M1 r) Y t (CK 3 (Ap last s ws).F xs[i]) l1.length (CI last s ws) W3 e q->e= .returned (.tuple #[])/\RS r n g fc Y O w (Bl 3 ⟨F0,n,f,false⟩ xs ws (i+1)) t q):=λe q Q=>by
   obtain⟨z1,z2⟩:=d.ins Q;refine⟨z1,?_⟩;rw[HS1.o];rw[q3]at z2;exact z2
  obtain⟨x,hx⟩:∃x,x=xs[i]:=⟨_,rfl⟩;rw[<-hx]at g1 HIns HEnd;subst ej;clear hc d F ee hxm q1 q2 q3 q4 q5 q6 q7 q8 hNb hkl hLlen hx U HS1;go_wp2_with fail;refine HIns.o.mono ?_;intro e q Q;obtain⟨rfl,N⟩:=HEnd.o e q Q;have X:=AA N;clear Q N g1;go_wp2;go_roundw
  .exact⟨i+1,t,by omega,by go_num,X.o⟩
  simp[Aa];omega
 have e:i=xs.length:=by omega
 subst e;have HB2:=AA (HBel.o _ _ _ HR2.o);go_wp2;go_ret;exact⟨true,rfl,λ_=>⟨HNe.o,HA.o,λh=>absurd (by decide) h,λ_=>HP.o,kb2,HR2.o⟩,HB2.o⟩
end Go.Proofs.YtgajepeipddacaaGreat
