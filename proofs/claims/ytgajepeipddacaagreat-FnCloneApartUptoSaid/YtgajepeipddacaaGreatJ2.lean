/- Part 2 of the proof of FnCloneApart: what the law and the program compute, walked. -/
import Derived.Test.YtgajepeipddacaaGreatJ1
open Go.RowKit Go.Proofs.Tryz
open Array renaming getElem?_eq_some_iff->AE
open Bool renaming false_eq_true->Bv
open Go renaming Addr->Ai,Calls->AX,Ending->Bx,TypeId->Dk,Value->AS,World->AB,below_drewN->BC,cell_of_row->AZ,frozen_of_row->A7,heap_alloc_new->Ah,heap_setCell_same->Ao,info_parts->D6,madeCells->DG,run_underlying->Ez
open Go.Act renaming put->AQ
open Go.Addr renaming add_lit->Ba
open Go.Lib renaming hid->AA
open Go.Proofs.Tryz renaming prog->AC
open Go.RowKit renaming Below->AL,intOf->Aa
open Go.RowKit.Below renaming heap_alloc->B5,heap_setCell->A8,refl->AW
open Go.Value renaming ownBlock->A6,slice->AO
open Go.World renaming block_lt_of_cell?->Bn,cell?_alloc_mark->BI,cell?_of_block->Am,cell?_setCell_far->BN,frozen?_of_block->Bj,frozen?_setCell->EK,ownsRow_nil->Aw,setCell->Cb,size_alloc->BX
open List renaming append_assoc->Bw,append_nil->Ey,drop_eq_getElem_cons->Ck,eq_nil_of_length_eq_zero->Ag,filter_cons->CW,flatMap_append->C9,flatMap_cons->A_,getD_eq_getElem?_getD->Ae,getElem?_append_right->EV,getElem?_eq_getElem->AK,getElem?_eq_none->F5,getElem_append_left->Cs,getElem_append_right->Gt,getElem_mem->AD,getElem_of_mem->An,getElem_take->F_,length->Dw,length_append->AN,length_cons->Ak,length_nil->Ar,length_range->D7,length_take->At,map_append->B3,map_cons->Bz,mem_append->AV,mem_append_left->GU,mem_cons->BQ,mem_cons_of_mem->Ab,mem_cons_self->Af,mem_flatMap->C1,mem_of_mem_take->Ci,mem_singleton->AP,nil_append->BY,nodup_append->BA,nodup_cons->B4,range->BV,setIfInBounds_toArray->Cx,take_append_drop->Av,take_length->AU,take_of_length_le->BP,take_succ_eq_append_getElem->AF,take_zero->BM
open Nat renaming add_assoc->Cc,eq_zero_or_pos->BJ,le_of_lt->Ca,le_refl->AG,le_trans->AH,lt_of_lt_of_le->AR,zero_add->By,zero_le->AY
open Option renaming getD_some->BE,map_eq_some_iff->Eu,map_none->BF,map_some->As
open Option.some renaming inj->Cw
open Go.Proofs.YtgajepeipddacaaGreat
namespace Go.Proofs.YtgajepeipddacaaGreat
set_option linter.unusedVariables false
set_option maxRecDepth 100000
set_option maxHeartbeats 40000000
set_option linter.unusedSectionVars false
variable{B A c g i k n p r x:Nat}{F:Fo}{K:Act->AB->Prop}{Q:Exit->Act->AB->Prop}{S:Nat->Prop}{a:Option Ai}{Z C h D u O:Nat->Nat}{E:Array AS}{l:List At2}{H f:Nat->Nd}{U:Int}{T:Array Oper}{P:Nat->Int}{V:Nat->Dn}{t:List Nd}{v:AS}{w N M wr:AB}{J Y:List Nat}
def Cj(x:Nd):Nd:={x with aa:=none,ac:=0}
def IQ(F:Fo)(h:Nat->Nat)(nd:Nat->Nd)(x:Nat):List Nd:=(F.all h x).map λy=>Cj {nd y with size:=((F.all h y).length:Int)}
def K5(F:Fo)(h:Nat->Nat)(n:Nat):List Int:=(BV n).map λj=>J2 (F.all h 0) 0 (λ_=> -1) j
structure Kk(x:Nd):Prop where
 kind: -9223372036854775808<=x.kind/\x.kind<=9223372036854775807
 tag:x.tag.size<=maxLen
 text:x.text.size<=maxLen
 len:x.attrs.length<=maxLen
 ats:∀a∈x.attrs,a.key.size<=maxLen/\a.val.size<=maxLen
theorem Nd.Ok.ndb{x:Nd}(h:x.Ok w B):Kk x:=⟨h.kind,h.tag,h.text,h.attrs.1,h.attrs.2.1⟩
def Xn(F:Fo)(h:Nat->Nat)(nd:Nat->Nd)(n:Nat)(a:Option Ai)(m:Nat)(a2:Option Ai)(t:Nat)(w:AB):Prop:=
 (∃e,m=e.length/\Gp w w.heap.size a e/\e.map Cj=IQ F h nd 0)/\t=n/\B6 w w.heap.size a2 (E3 (K5 F h n))
theorem ML(h:w.ownsRow B 49 2 (.slice a l.length c) l.length (CJ l))(s:l.length<=maxLen)(n:∀x∈l,x.key.size<=maxLen/\x.val.size<=maxLen):JZ w w.heap.size a l:=by
 refine⟨s,n,?_⟩;rcases BJ l.length with t|t
 .exact .inl (Ag t)
 obtain⟨g,r,e⟩:=FW h t;cases e
 refine .inr ⟨g,0,rfl,(h.lt g rfl).2,λi o=> ?_⟩;obtain⟨f1,f2⟩:=Hj o;have c1:=h.cells (g:=g) rfl _ _ f1;have c2:=h.cells (g:=g) rfl _ _ f2;rw[Ba]at c1 c2;rw[Ae,AK o,BE];exact⟨c1,by rw[Cc];exact c2⟩
theorem KP{l:List Nd}(h:w.ownsRow B 41 5 (.slice a l.length c) l.length (B7 l))(r:l.length<=maxLen)(s:∀x∈l,x.Ok w w.heap.size):Gp w w.heap.size a l:=by
 refine⟨r,s,?_⟩;rcases BJ l.length with t|t
 .exact .inl (Ag t)
 obtain⟨g,m,e⟩:=FW h t;cases e
 refine .inr ⟨g,0,rfl,(h.lt g rfl).2,λi o=> ?_⟩;rw[Ae,AK o,BE];have key:∀j v,j<5->(EY l[i])[j]? =some v->w.cell? ⟨g,0+i*5+j,none⟩=some v:=by
  intro j v u n;have e1:(B7 l)[i*5+j]? =some v:=by
   have e2:B7 l=B7 (l.take i)++(EY l[i]++B7 (l.drop (i+1))):=by
    conv=>lhs;rw[<-Av i l,Ck o,EB]
    rfl
   have d:(B7 (l.take i)).length=i*5:=by rw[C_,At];congr 1;omega
   rw[e2,EV (by omega),d,Nat.add_sub_cancel_left,List.getElem?_append_left (by simp[EY];omega)];exact n
  have:=h.cells (g:=g) rfl _ _ e1;rw[Ba]at this;rw[Cc];exact this
 exact⟨key 0 _ (by omega) rfl,key 1 _ (by omega) rfl,key 2 _ (by omega) rfl,key 3 _ (by omega) rfl,key 4 _ (by omega) rfl⟩
theorem SB{e:Nat}{P:Nat->Int}(h:Fa e n P w):B6 w w.heap.size (some ⟨e,0,none⟩) (E3 ((BV n).map P)):=by
 obtain⟨r,a,d,s⟩:=h;refine .inr ⟨e,0,rfl,(AE.1 a).1,λi o=> ?_⟩;have t:i<n:=by simpa [E3]using o
 rw[By,AZ w e i _ _ _ a,s i t];simp[E3]
structure KF(n g fc fb:Nat)(F:Fo)(S:Nat->Prop)(h:Nat->Nat)(nd:Nat->Nd)(kb:Nat->Nat)(op:Bool)(w:AB):Prop where
 ok:F.Ok S h
 kno:Ct F S nd (λi=>if i<n then(i:Int)else-1) fb kb w
 ndb:∀i,S i->Kk (nd i)
 sub:∀i,i<n->S i
 fst:∃many:Int,w.heap[fb]? =some (.cells #[.slice (some ⟨g,0,none⟩) n fc,.int .i64 many,.bool op] 56 (0,0))
 row:w.ownsRow fb 57 1 (.slice (some ⟨g,0,none⟩) n fc) n (Ad kb (BV n))
 len:(F.all h 0).length<=100000
theorem KF.elem{t a:Nat}{nd:Nat->Nd}{op:Bool}(H:KF n g t a F S h nd O op w)(e:i<n):w.cell? ⟨g,i,none⟩=some (.pointer (some ⟨O i,0,none⟩)):=by
 have:=H.row.cells (g:=g) rfl i (.pointer (some ⟨O i,0,none⟩)) (by simp[Ad,e]);rw[Ba,By]at this;exact this
theorem KF.up{a o:Nat}{nd:Nat->Nd}{op:Bool}(H:KF n g a o F S h nd O op w)(e:AL w.heap.size w N):KF n g a o F S h nd O op N:=by
 obtain⟨m,t⟩:=H.fst;exact⟨H.ok,H.kno.up e,H.ndb,H.sub,⟨m,(e.block _ (AE.1 t).1).trans t⟩,BB H.row (λb _ i=>e.block b i),H.len⟩
theorem Fo.Ok.Y7(o:F.Ok S h){y:Nat}(hx:S x)(u:F.Up x y):S y:=by
 induction u with
 |self=>exact hx
 |step e _ _=>exact(o.dom _ _ e).2
theorem Fo.Ok.Y5(o:F.Ok S h){y:Nat}(hx:S x)(e:y∈F.all h x):S y:=
 o.Y7 hx ((F.ZD o _ x (AG _) y).1 e)
theorem LK(o:F.Ok S h):∀(d:Nat) {x y:Nat},h x<=d->y∈F.all h x->(F.all h y).length<=(F.all h x).length:=by
 intro d;induction d with
 |zero=>
  intro x y hx a;have r:F.kids x=[]:=List.eq_nil_iff_forall_not_mem.2 λc i=>by
   have:=o.ht _ _ ((o.mem x c).1 i);omega
  rw[F.all_eq o x,r]at a;have:y=x:=by simpa using a
  rw[this];exact AG _
 |succ d s=>
  intro x y hx a;have t:=a;rw[F.all_eq o x]at t;rcases BQ.1 t with e|l
  .rw[e];exact AG _
  obtain⟨c,i,n⟩:=C1.1 l;have u:=o.ht _ _ ((o.mem x c).1 i);refine AH (s (by omega) n) ?_;obtain⟨l1,l2,e⟩:=List.append_of_mem i;rw[F.all_eq o x,e,Ak,C9,A_,AN,AN];omega
theorem UQ(z:AS)(n j:Nat)(e:j<n):(DG #[z] n)[j]? =some z:=by
 rw[<-Array.getElem?_toList,toList_madeCells_one,List.getElem?_replicate,AJ e]
theorem QW(l:List At2)(x:At2):CJ (l++[x])=CJ l++[.string x.key,.string x.val]:=by simp[CJ]
theorem X_(W:AB)(O:Obj)(a b:AS)(T:Dk):∀j u,[a,b][j]? =some u->((W.alloc O).alloc (.cells #[a,b] T)).cell? ((⟨W.heap.size+1,0,none⟩:Ai).add j)=some u:=by
 intro j u t;have e:((W.alloc O).alloc (.cells #[a,b] T)).heap[W.heap.size+1]? =some (.cells #[a,b] T (0,0)):=by
  have:=Ah (W.alloc O) (.cells #[a,b] T);simpa using this
 rw[Ba,By,AZ _ _ j _ _ _ e];rw[<-t];simp
theorem SL:∀{i:Nat} (t:i<l.length),(CG l)[i*3]? =some (.string ⟨#[]⟩)/\(CG l)[i*3+1]? =some (.string l[i].key)/\(CG l)[i*3+2]? =some (.string l[i].val):=by
 induction l with
 |nil=>intro i t;simp at t
 |cons x l a=>
  intro i t;have e:CG (x::l)=[.string ⟨#[]⟩,.string x.key,.string x.val]++CG l:=rfl;rw[e]
  match i with
  |0=>exact⟨rfl,rfl,rfl⟩
  |i+1=>
   have:=a (i:=i) (by simpa using t);have o:(i+1)*3=i*3+3:=by omega
   rw[o];simpa using this
structure G'(x:Nd):Prop where
 kind:x.kind=1\/x.kind=2\/x.kind=4\/x.kind=5\/x.kind=3
 text:x.kind=1\/x.kind=3->x.text=⟨#[]⟩
 tag:x.kind≠3->x.tag=⟨#[]⟩/\x.attrs=[]
 few:x.attrs.length<=2000
def Fb(x:Nd)(w:AB)(e:Bx)(w':AB):Prop:=
 ∃a c,e= .returned (.agg #[.int .i64 x.kind,.string x.tag,.string x.text,.slice a x.attrs.length c,.int .i64 0])/\w'.ownsRow w.heap.size 49 2 (.slice a x.attrs.length c) x.attrs.length (CJ x.attrs)/\AL w.heap.size w w'
section
variable (g:Nat) (w:AB)
theorem UJ(c5:w.cell? ⟨g,5,none⟩=some (.int .u32 2)):AX AC 49 #[.pointer (some ⟨g,0,none⟩)] w (Fb ⟨1,⟨#[]⟩,⟨#[]⟩,none,0,[],0⟩ w):=by
 have e:g<w.heap.size:=Bn w _ c5;go_enter func49,ntmps49;go_wp2_with fail
 (try simp only[Exit.inBlock,Exit.then]);refine bodyPost_ret (results_cell_row rfl _ _ w.heap.size _ _ _ _ rfl (Ah _ _) underlying41 rfl (by kernel_rfl)) rfl ?_;exact⟨none,0,rfl,Aw _ _ _ _,Ac⟩
theorem UK(d:ByteArray)(c5:w.cell? ⟨g,5,none⟩=some (.int .u32 5))(t:w.cell? ⟨g,7,none⟩=some (.string d)):AX AC 49 #[.pointer (some ⟨g,0,none⟩)] w (Fb ⟨2,⟨#[]⟩,d,none,0,[],0⟩ w):=by
 have e:g<w.heap.size:=Bn w _ c5;go_enter func49,ntmps49;go_wp2_with fail
 (try simp only[Exit.inBlock,Exit.then]);refine bodyPost_ret (results_cell_row rfl _ _ w.heap.size _ _ _ _ rfl (Ah _ _) underlying41 rfl (by kernel_rfl)) rfl ?_;exact⟨none,0,rfl,Aw _ _ _ _,Ac⟩
theorem UM(d:ByteArray)(c5:w.cell? ⟨g,5,none⟩=some (.int .u32 1))(t:w.cell? ⟨g,7,none⟩=some (.string d)):AX AC 49 #[.pointer (some ⟨g,0,none⟩)] w (Fb ⟨4,⟨#[]⟩,d,none,0,[],0⟩ w):=by
 have e:g<w.heap.size:=Bn w _ c5;go_enter func49,ntmps49;go_wp2_with fail
 (try simp only[Exit.inBlock,Exit.then]);refine bodyPost_ret (results_cell_row rfl _ _ w.heap.size _ _ _ _ rfl (Ah _ _) underlying41 rfl (by kernel_rfl)) rfl ?_;exact⟨none,0,rfl,Aw _ _ _ _,Ac⟩
theorem UN(d:ByteArray)(c5:w.cell? ⟨g,5,none⟩=some (.int .u32 4))(t:w.cell? ⟨g,7,none⟩=some (.string d)):AX AC 49 #[.pointer (some ⟨g,0,none⟩)] w (Fb ⟨5,⟨#[]⟩,d,none,0,[],0⟩ w):=by
 have e:g<w.heap.size:=Bn w _ c5;go_enter func49,ntmps49;go_wp2_with fail
 (try simp only[Exit.inBlock,Exit.then]);refine bodyPost_ret (results_cell_row rfl _ _ w.heap.size _ _ _ _ rfl (Ah _ _) underlying41 rfl (by kernel_rfl)) rfl ?_;exact⟨none,0,rfl,Aw _ _ _ _,Ac⟩
theorem UL(l:List At2)(hl:l.length<=2000)(z:ByteArray)(aa:Option Ai)(ac:Nat)(B:Nat)(c5:w.cell? ⟨g,5,none⟩=some (.int .u32 3))(c7:w.cell? ⟨g,7,none⟩=some (.string z))(c9:w.cell? ⟨g,9,none⟩=some (.slice aa l.length ac))(c:w.ownsRow B 133 3 (.slice aa l.length ac) l.length (CG l)):
 AX AC 49 #[.pointer (some ⟨g,0,none⟩)] w (Fb ⟨3,z,⟨#[]⟩,none,0,l,0⟩ w):=by
 obtain⟨i0,H,W,F,M⟩:=D6 Tryz.infoAt;have hg:g<w.heap.size:=Bn w _ c5;have U:=AA c;clear c;go_enter func49,ntmps49;go_wp2;go_loopw [46] (λy wr=>∃(k:Nat) (r:Option Ai) (h:Nat),k<=l.length/\y= .int .i64 k/\
  wr.heap[w.heap.size+1]? =some (.cells #[.int .i64 3,.string z,.string ⟨#[]⟩,.slice r k h,.int .i64 0] 41 (0,0))/\
  wr.heap[w.heap.size]? =some (.cells #[.int .i64 0,.string ⟨#[]⟩,.string ⟨#[]⟩,.slice none 0 0,.int .i64 0] 41 (0,0))/\
  wr.ownsRow (w.heap.size+2) 49 2 (.slice r k h) k (CJ (l.take k))/\AL w.heap.size w wr) (λy _=>l.length-(Aa y).toNat)
 .refine⟨0,none,0,by omega,rfl,?_,?_,Aw _ _ _ _,((AW _ _).alloc (AG _) _).alloc (by simp) _⟩
  .have:=Ah (w.alloc (.cells #[.int .i64 0,.string ⟨#[]⟩,.string ⟨#[]⟩,.slice none 0 0,.int .i64 0] 41)) (.cells #[.int .i64 3,.string z,.string ⟨#[]⟩,.slice none 0 0,.int .i64 0] 41);simpa using this
  rw[B5 _ _ _ (by simp),Ah]
 obtain⟨k,r,h,hk,rfl,a,t,s,R⟩:=hrel;have C:=AA R;have T:=AA s;have Q:=AA a;have S:=AA t;have Y:w.heap.size+1<wr.heap.size:=(AE.1 a).1;by_cases O:k<l.length
 .obtain⟨E,rfl⟩:∃E,aa=some ⟨E,0,none⟩:=by
   rcases U.o.2 with⟨_,h0⟩|⟨q,cap,cur,hv,_⟩
   .omega
   cases hv;exact⟨q,rfl⟩
  have G:=(U.o.lt E rfl).2;have n:∀j v,(CG l)[j]? =some v->wr.cell? ⟨E,j,none⟩=some v:=by
   intro j v hj;have:=U.o.cells (g:=E) rfl j v hj;rw[Ba,By]at this;exact(R.cell (p:=⟨E,j,none⟩) G).trans this
  obtain⟨f0,f1,f2⟩:=SL O;have g0:=n _ _ f0;have g1:=n _ _ f1;have g2:=n _ _ f2;obtain⟨y,D⟩:∃y,y=l[k]:=⟨_,rfl⟩;have HY:Hid (l.take (k+1)=l.take k++[y]):=by rw[Hid,AF O,D]
  rw[<-D]at g1 g2;have c3:wr.cell? ⟨w.heap.size+1,3,none⟩=some (.slice r k h):=AZ wr _ 3 _ _ _ a;clear n f0 f1 f2 D a t s R;have HN:=AA (X_ wr (.cells #[.string ⟨#[]⟩,.string y.key,.string y.val] 133) (.string y.key) (.string y.val) 49);go_wp2_with(at_builtin;refine wpList_append_own _ rfl _ _ 39 rfl (w.heap.size+2) 49 i0 (.agg #[.string ⟨#[]⟩,.string ⟨#[]⟩]) 2 32 underlying39 H W F M rfl (by decide) (.slice r k h) k (CJ (l.take k)) rfl ((T.o.alloc _).alloc _) ⟨wr.heap.size+1,0,none⟩ 1 1 [.string y.key,.string y.val] rfl rfl HN.o (by intro u X;simp at X;rcases X with rfl|rfl<;>rfl) (by unfold maxLen;omega) (by omega) (by simp;omega) ?_);intro v' b o i _;obtain⟨L,x,A⟩:=DA o;rw[A]at o|-;have m:some (w.heap.size+1)≠(AO r k h).ownBlock:=λe=>by have:=(T.o.lt _ e.symm).1;omega
  have f:some w.heap.size≠(AO r k h).ownBlock:=λe=>by have:=(T.o.lt _ e.symm).1;omega
  have d:b.heap[w.heap.size+1]? =some (.cells #[.int .i64 3,.string z,.string ⟨#[]⟩,.slice r k h,.int .i64 0] 41 (0,0)):=by
   rw[i.block (w.heap.size+1) (by simp;omega) m,B5 _ _ _ (by simp;omega),B5 _ _ _ Y];exact Q.o
  have I:b.heap[w.heap.size]? =some (.cells #[.int .i64 0,.string ⟨#[]⟩,.string ⟨#[]⟩,.slice none 0 0,.int .i64 0] 41 (0,0)):=by
   rw[i.block w.heap.size (by simp;omega) f,B5 _ _ _ (by simp;omega),B5 _ _ _ (by omega)];exact S.o
  have N:AL w.heap.size w b:=((C.o.alloc C.o.size _).alloc (by simp;omega) _).grown i (by simp;omega) (λq hq=>by have:=(T.o.lt q hq).1;omega);have d3:=AZ b _ 3 _ _ _ d;have e3:=A7 b _ 3 _ _ d;have V:=AA d;have K:=AA I;have J:=AA N;have P:Hid (b.ownsRow (w.heap.size+2) 49 2 (.slice L (k+1) x) (k+1) (CJ (l.take (k+1)))):=by
   rw[Hid,HY.o,QW];exact o
  clear o i A d I N m f c3;go_wp2;go_roundw
  .refine⟨k+1,L,x,by omega,by go_num,?_,?_,ownsRow_setCell_below P.o (by simp) _,J.o.setCell (by simp) _⟩
   .have:=Ao b (w.heap.size+1) 3 _ _ (.slice L (k+1) x) V.o;simpa using this
   rw[heap_setCell_other _ _ _ _ (by simp)];exact K.o
  simp[Aa];omega
 have e:k=l.length:=by omega
 subst e;rw[AU]at s T;have e0:=AZ wr _ 0 _ _ _ a;have r0:=AZ wr _ 0 _ _ _ t;have f0:=A7 wr _ 0 _ _ t;have e1:=AZ wr _ 1 _ _ _ a;have r1:=AZ wr _ 1 _ _ _ t;have f1:=A7 wr _ 1 _ _ t;have e2:=AZ wr _ 2 _ _ _ a;have r2:=AZ wr _ 2 _ _ _ t;have f2:=A7 wr _ 2 _ _ t;have e3:=AZ wr _ 3 _ _ _ a;have r3:=AZ wr _ 3 _ _ _ t;have f3:=A7 wr _ 3 _ _ t;have e4:=AZ wr _ 4 _ _ _ a;have r4:=AZ wr _ 4 _ _ _ t;have f4:=A7 wr _ 4 _ _ t;simp only[List.getElem?_toArray,List.getElem?_cons_zero,List.getElem?_cons_succ]at e0 e1 e2 e3 e4 r0 r1 r2 r3 r4;clear R a t s;go_wp2_with fail;have h0:=Ao wr w.heap.size 0 _ _ (.int .i64 3) S.o;have h1:=Ao _ w.heap.size 1 _ _ (.string z) h0;have h2:=Ao _ w.heap.size 2 _ _ (.string ⟨#[]⟩) h1;have h3:=Ao _ w.heap.size 3 _ _ (.slice r l.length h) h2;have Z:=Ao _ w.heap.size 4 _ _ (.int .i64 0) h3;simp only[Cx,List.set_cons_zero,List.set_cons_succ]at Z
 (try simp only[Exit.inBlock,Exit.then]);refine bodyPost_ret (results_cell_row rfl _ _ w.heap.size _ _ _ _ rfl Z underlying41 rfl (by kernel_rfl)) rfl ?_;refine⟨r,h,rfl,?_,((((C.o.setCell (AG _) _).setCell (AG _) _).setCell (AG _) _).setCell (AG _) _).setCell (AG _) _⟩;exact Bf (ownsRow_setCell_below (ownsRow_setCell_below (ownsRow_setCell_below (ownsRow_setCell_below (ownsRow_setCell_below T.o (by simp) _) (by simp) _) (by simp) _) (by simp) _) (by simp) _) (by omega)
end
theorem Qh{w:AB}(u:FK w B S Z V)(d:S i){x:Nd}(r:Ex x (V i))(hx:G' x):
 AX AC 49 #[.pointer (some ⟨Z i,0,none⟩)] w (Fb x w):=by
 obtain⟨_,_,_,_,_,_,c5,a,aa,ac,c9,e⟩:=u.cells d;obtain⟨e1,e2,c⟩:=r;obtain⟨n,ht,t,s⟩:=hx;obtain⟨k,h,o,f,m,l,sz⟩:=x;rw[e1]at c5;rw[e2]at a;rw[c]at c9 e;dsimp only at n ht t s;rcases n with rfl|rfl|rfl|rfl|rfl
 .obtain⟨rfl,rfl⟩:=t (by decide);obtain rfl:=ht (.inl rfl);exact UJ _ w c5
 .obtain⟨rfl,rfl⟩:=t (by decide);exact UK _ w o c5 a
 .obtain⟨rfl,rfl⟩:=t (by decide);exact UM _ w o c5 a
 .obtain⟨rfl,rfl⟩:=t (by decide);exact UN _ w o c5 a
 obtain rfl:=ht (.inr rfl);exact UL _ w l s h aa ac B c5 a c9 e
theorem GI.drew(h:GI S Z w N):GI S Z w N.drew:=⟨h.os,h.tape,h.output,h.size,h.block,h.row⟩
theorem FK.drew(h:FK w B S Z V):FK w.drew B S Z V:=h.kept (λ_ _ _=>rfl)
theorem JP(i:Nat)(bl:Nat->Nat)(w:AB):(binOp .neq 70 (.pointer (some ⟨bl i,0,none⟩)) (.pointer (some ⟨bl i,0,none⟩))).run AC w= .ok (.bool false) w:=by
 obtain⟨j,e,_⟩:=Eu.1 Tryz.ZZ;exact Lib.run_neq_ptr_same w ⟨bl i,0,none⟩ underlying70 e
theorem FK.bG(h:FK w B S Z V)(t:S i):∃e,w.heap[Z i]? =some (.cells e 101 (0,0))/\e.size=10:=by
 obtain⟨_,aa,ac,a,_⟩:=h.node i t;exact⟨_,a,rfl⟩
theorem FK.other(h:FK w B S Z V)(o:S i)(a:S k)(t:k≠i):
 (binOp .eql 70 (.pointer (some ⟨Z k,0,none⟩)) (.pointer (some ⟨Z i,0,none⟩))).run AC w= .ok (.bool false) w:=
 Nq Z w (λe=>t (h.inj k i a o e)) (h.bG a) (h.bG o)
theorem Sr(w:AB)(B:Nat)(S:Nat->Prop)(bl:Nat->Nat)(t:Nat->Dn)(h:FK w B S bl t)(p c:Nat)(o:S p)(a:S c)(d:p≠c)
 (h0:(t c).par=some p)(r:(t c).prv=none)(s:(t c).nxt=none)(u:(t p).fst=some c)(l:(t p).lst=some c):
 AX AC 115 #[.pointer (some ⟨bl p,0,none⟩),.pointer (some ⟨bl c,0,none⟩)] w (Eh S B bl (Ii t p c) w):=by
 have q:bl p≠bl c:=λe=>d (h.inj p c o a e);obtain⟨n,-,p1,p2,-⟩:=h.cells o;obtain⟨i,y,-,-,c3,c4,-⟩:=h.cells a;rw[h0]at y;rw[r]at c3;rw[s]at c4;rw[u]at p1;rw[l]at p2;simp only[Au,BF,As]at y c3 c4 p1 p2;have f:FK (((((w.setCell ⟨bl p,1,none⟩ (.pointer none)).setCell ⟨bl p,2,none⟩ (.pointer none)).setCell ⟨bl c,0,none⟩ (.pointer none)).setCell ⟨bl c,3,none⟩ (.pointer none)).setCell ⟨bl c,4,none⟩ (.pointer none)) B S bl (Ii t p c):=by
  have:=(((((h.set o 1 (by omega) none).set o 2 (by omega) none).set a 0 (by omega) none).set a 3 (by omega) none).set a 4 (by omega) none);unfold Ii;rw[r,s];exact this
 have m:=(((((GI.refl S bl w).setCell o 1 (.pointer none)).setCell o 2 (.pointer none)).setCell a 0 (.pointer none)).setCell a 3 (.pointer none)).setCell a 4 (.pointer none);have b:=AA f;have g:=AA m;have e1:=λw:AB=>I3 c bl w;have e2:=λw:AB=>JP p bl w;have k:=n 1;have v:=n 2;have z:=i 0;have x:=i 3;have j:=i 4;clear f m h0 r s u l h n i;go_enter func115,ntmps115;go_wp2_with fail
 go_end0;exact⟨rfl,b.o,g.o⟩
theorem Ss(w:AB)(B:Nat)(S:Nat->Prop)(bl:Nat->Nat)(a:Nat->Dn)(h:FK w B S bl a)(p c q g:Nat)(n:S p)(t:S c)(i:S q)(N:S g)(y:p≠c)(m:q≠p)(f:q≠c)(b:g≠c)
 (h0:(a c).par=some p)(u:(a c).prv=none)(l:(a c).nxt=some q)(x:(a p).fst=some c)(j:(a p).lst=some g):
 AX AC 115 #[.pointer (some ⟨bl p,0,none⟩),.pointer (some ⟨bl c,0,none⟩)] w (Eh S B bl (Ii a p c) w):=by
 have C:bl p≠bl c:=λe=>y (h.inj p c n t e);have O:bl q≠bl p:=λe=>m (h.inj q p i n e);have A:bl q≠bl c:=λe=>f (h.inj q c i t e);obtain⟨k,-,p1,p2,-⟩:=h.cells n;obtain⟨r,T,-,-,c3,c4,-⟩:=h.cells t;obtain⟨v,-,-,-,I,-⟩:=h.cells i;obtain⟨Y,s⟩:∃o,Au bl (a q).prv= .pointer o:=⟨_,rfl⟩;rw[s]at I;rw[h0]at T;rw[u]at c3;rw[l]at c4;rw[x]at p1;rw[j]at p2;simp only[Au,BF,As]at T c3 c4 p1 p2;have d:FK ((w.setCell ⟨bl p,1,none⟩ (.pointer (some ⟨bl q,0,none⟩))).drew.setCell ⟨bl q,3,none⟩ (.pointer none)) B S bl _:=((h.set n 1 (by omega) (some q)).drew.set i 3 (by omega) none);have E:FK (((((w.setCell ⟨bl p,1,none⟩ (.pointer (some ⟨bl q,0,none⟩))).drew.setCell ⟨bl q,3,none⟩ (.pointer none)).setCell ⟨bl c,0,none⟩ (.pointer none)).setCell ⟨bl c,3,none⟩ (.pointer none)).setCell ⟨bl c,4,none⟩ (.pointer none)) B S bl (Ii a p c):=by
  have:=(((d.set t 0 (by omega) none).set t 3 (by omega) none).set t 4 (by omega) none);unfold Ii;rw[u,l];exact this
 have z:=(((((GI.refl S bl w).setCell n 1 (.pointer (some ⟨bl q,0,none⟩))).drew.setCell i 3 (.pointer none)).setCell t 0 (.pointer none)).setCell t 3 (.pointer none)).setCell t 4 (.pointer none);have D:=AA E;have R:=AA z;have H:Hid ((binOp .eql 70 (.pointer (some ⟨bl g,0,none⟩)) (.pointer (some ⟨bl c,0,none⟩))).run AC ((w.setCell ⟨bl p,1,none⟩ (.pointer (some ⟨bl q,0,none⟩))).setCell ⟨bl q,3,none⟩ (.pointer none)).drew= .ok (.bool false) ((w.setCell ⟨bl p,1,none⟩ (.pointer (some ⟨bl q,0,none⟩))).setCell ⟨bl q,3,none⟩ (.pointer none)).drew):=d.other t N b;have e1:=λw:AB=>I3 c bl w;have e2:=λw:AB=>JP p bl w;have U:=k 1;have L:=v 3;have W:=r 0;have F:=r 3;have M:=r 4;clear E z d h0 u l x j h k r v s;go_enter func115,ntmps115;go_wp2_with fail
 go_region;have G:=H.o;go_wp2_with fail
 go_end0;exact⟨rfl,D.o,R.o⟩
theorem St(w:AB)(B:Nat)(S:Nat->Prop)(bl:Nat->Nat)(a:Nat->Dn)(h:FK w B S bl a)(p c r f:Nat)(i:S p)(t:S c)(hr:S r)(A:S f)(y:p≠c)(u:r≠p)(m:r≠c)(g:f≠c)
 (h0:(a c).par=some p)(l:(a c).prv=some r)(d:(a c).nxt=none)(q:(a p).fst=some f)(k:(a p).lst=some c):
 AX AC 115 #[.pointer (some ⟨bl p,0,none⟩),.pointer (some ⟨bl c,0,none⟩)] w (Eh S B bl (Ii a p c) w):=by
 have R:bl p≠bl c:=λe=>y (h.inj p c i t e);have T:bl r≠bl p:=λe=>u (h.inj r p hr i e);have E:bl r≠bl c:=λe=>m (h.inj r c hr t e);obtain⟨v,-,p1,p2,-⟩:=h.cells i;obtain⟨s,z,-,-,c3,c4,-⟩:=h.cells t;obtain⟨b,-,-,-,-,r4,-⟩:=h.cells hr;obtain⟨C,n⟩:∃o,Au bl (a r).nxt= .pointer o:=⟨_,rfl⟩;rw[n]at r4;rw[h0]at z;rw[l]at c3;rw[d]at c4;rw[q]at p1;rw[k]at p2;simp only[Au,BF,As]at z c3 c4 p1 p2;have x:FK (((((w.setCell ⟨bl p,2,none⟩ (.pointer (some ⟨bl r,0,none⟩))).drew.setCell ⟨bl r,4,none⟩ (.pointer none)).setCell ⟨bl c,0,none⟩ (.pointer none)).setCell ⟨bl c,3,none⟩ (.pointer none)).setCell ⟨bl c,4,none⟩ (.pointer none)) B S bl (Ii a p c):=by
  have:=(((((h.set i 2 (by omega) (some r)).drew.set hr 4 (by omega) none).set t 0 (by omega) none).set t 3 (by omega) none).set t 4 (by omega) none);unfold Ii;rw[l,d];exact this
 have j:=(((((GI.refl S bl w).setCell i 2 (.pointer (some ⟨bl r,0,none⟩))).drew.setCell hr 4 (.pointer none)).setCell t 0 (.pointer none)).setCell t 3 (.pointer none)).setCell t 4 (.pointer none);have I:=AA x;have O:=AA j;have e1:=λw:AB=>I3 c bl w;have e2:=λw:AB=>JP p bl w;have M:=h.other t A g;have H:=v 2;have N:=b 4;have U:=s 0;have L:=s 3;have D:=s 4;clear x j h0 l d q k h v s b n;go_enter func115,ntmps115;go_wp2_with fail
 go_region;go_wp2_with fail
 go_end0;exact⟨rfl,I.o,O.o⟩
theorem Su(w:AB)(B:Nat)(S:Nat->Prop)(bl:Nat->Nat)(a:Nat->Dn)(h:FK w B S bl a)(p c r f q g:Nat)(d:S p)(t:S c)(hr:S r)(P:S f)(i:S q)(E:S g)(z:p≠c)(v:r≠p)(k:r≠c)(A:f≠c)(j:q≠p)(x:q≠c)(T:g≠c)(b:r≠q)
 (h0:(a c).par=some p)(y:(a c).prv=some r)(m:(a c).nxt=some q)(H:(a p).fst=some f)(N:(a p).lst=some g):
 AX AC 115 #[.pointer (some ⟨bl p,0,none⟩),.pointer (some ⟨bl c,0,none⟩)] w (Eh S B bl (Ii a p c) w):=by
 have Z:bl p≠bl c:=λe=>z (h.inj p c d t e);have W:bl r≠bl p:=λe=>v (h.inj r p hr d e);have F:bl r≠bl c:=λe=>k (h.inj r c hr t e);have M:bl q≠bl p:=λe=>j (h.inj q p i d e);have C:bl q≠bl c:=λe=>x (h.inj q c i t e);have U:bl r≠bl q:=λe=>b (h.inj r q hr i e);obtain⟨G,-,p1,p2,-⟩:=h.cells d;obtain⟨l,L,-,-,c3,c4,-⟩:=h.cells t;obtain⟨O,-,-,-,-,r4,-⟩:=h.cells hr;obtain⟨I,-,-,-,Y,-⟩:=h.cells i;obtain⟨vr,n⟩:∃o,Au bl (a r).nxt= .pointer o:=⟨_,rfl⟩;obtain⟨vq,s⟩:∃o,Au bl (a q).prv= .pointer o:=⟨_,rfl⟩;rw[n]at r4;rw[s]at Y;rw[h0]at L;rw[y]at c3;rw[m]at c4;rw[H]at p1;rw[N]at p2;simp only[Au,As]at L c3 c4 p1 p2;have u:FK (w.drew.setCell ⟨bl q,3,none⟩ (.pointer (some ⟨bl r,0,none⟩))) B S bl _:=(h.drew.set i 3 (by omega) (some r));have D:FK (((((w.drew.setCell ⟨bl q,3,none⟩ (.pointer (some ⟨bl r,0,none⟩))).drew.setCell ⟨bl r,4,none⟩ (.pointer (some ⟨bl q,0,none⟩))).setCell ⟨bl c,0,none⟩ (.pointer none)).setCell ⟨bl c,3,none⟩ (.pointer none)).setCell ⟨bl c,4,none⟩ (.pointer none)) B S bl (Ii a p c):=by
  have:=((((u.drew.set hr 4 (by omega) (some q)).set t 0 (by omega) none).set t 3 (by omega) none).set t 4 (by omega) none);unfold Ii;rw[y,m];exact this
 have R:=(((((GI.refl S bl w).drew.setCell i 3 (.pointer (some ⟨bl r,0,none⟩))).drew.setCell hr 4 (.pointer (some ⟨bl q,0,none⟩))).setCell t 0 (.pointer none)).setCell t 3 (.pointer none)).setCell t 4 (.pointer none);have Q:=AA D;have K:=AA R;have V:Hid ((binOp .eql 70 (.pointer (some ⟨bl g,0,none⟩)) (.pointer (some ⟨bl c,0,none⟩))).run AC (w.setCell ⟨bl q,3,none⟩ (.pointer (some ⟨bl r,0,none⟩))).drew= .ok (.bool false) (w.setCell ⟨bl q,3,none⟩ (.pointer (some ⟨bl r,0,none⟩))).drew):=u.other t E T;have e2:=λw:AB=>JP p bl w;have e3:=h.other t P A;have X:=I 3;have J:=O 4;have ea:=l 0;have et:=l 3;have ee:=l 4;clear D R u h0 y m H N h G l O I n s;go_enter func115,ntmps115;go_wp2_with fail
 go_region;have hX:=V.o;go_wp2_with fail
 go_region;go_wp2_with fail
 go_end0;exact⟨rfl,Q.o,K.o⟩
theorem Qy(o:F.Ok S u)(w:AB)(B:Nat)(bl:Nat->Nat)(d:Nat->Dn)(h:FK w B S bl d)(z:∀i,S i->Il F i (d i))(p c:Nat)(H:F.par c=some p):
 AX AC 115 #[.pointer (some ⟨bl p,0,none⟩),.pointer (some ⟨bl c,0,none⟩)] w (Eh S B bl (Ii d p c) w):=by
 obtain⟨⟨v,j,R,N,I,O⟩,-⟩:=RR o z H;obtain⟨t,b⟩:=o.dom p c H;have A:=(o.mem p c).2 H;obtain⟨f,m⟩:∃f,(d p).fst=some f:=by
  rw[(z p t).fst];cases e:F.kids p with
  |nil=>rw[e]at A;cases A
  |cons x l=>exact⟨x,rfl⟩
 obtain⟨g,s⟩:∃g,(d p).lst=some g:=by
  rw[(z p t).lst];cases e:(F.kids p).getLast? with
  |none=>rw[List.getLast?_eq_none_iff]at e;rw[e]at A;cases A
  |some x=>exact⟨x,rfl⟩
 have T:S f:=by
  rw[(z p t).fst]at m;exact(o.dom p f ((o.mem p f).1 (List.mem_of_head? m))).2
 have E:S g:=by
  rw[(z p t).lst]at s;exact(o.dom p g ((o.mem p g).1 (List.mem_of_getLast? s))).2
 cases n:(d c).prv with
 |none=>
  have y:=R.2 n;cases a:(d c).nxt with
  |none=>exact Sr w B S bl d h p c t b O I n a y (N.2 a)
  |some q=>
   have k:g≠c:=λe=>by
    have:=N.1 (by rw[s,e]);rw[a]at this;cases this
   exact Ss w B S bl d h p c q g t b (j q a).1 E O (j q a).2.1 (j q a).2.2 k I n a y s
 |some r=>
  have y:f≠c:=λe=>by
   have:=R.1 (by rw[m,e]);rw[n]at this;cases this
  cases a:(d c).nxt with
  |none=>exact St w B S bl d h p c r f t b (v r n).1 T O (v r n).2.1 (v r n).2.2.1 y I n a m (N.2 a)
  |some q=>
   have k:g≠c:=λe=>by
    have:=N.1 (by rw[s,e]);rw[a]at this;cases this
   exact Su w B S bl d h p c r f q g t b (v r n).1 T (j q a).1 E O (v r n).2.1 (v r n).2.2.1 y (j q a).2.1 (j q a).2.2 k (λe=>(v r n).2.2.2 (by rw[a,e])) I n a m s
theorem SV(w:AB)(B:Nat)(S:Nat->Prop)(bl:Nat->Nat)(t:Nat->Dn)(h:FK w B S bl t)(p c:Nat)(n:S p)(a:S c)(d:p≠c)
 (y:(t c).par=none)(f:(t c).prv=none)(m:(t c).nxt=none)(l:(t p).lst=none):
 AX AC 112 #[.pointer (some ⟨bl p,0,none⟩),.pointer (some ⟨bl c,0,none⟩),.pointer none] w (Eh S B bl (GG t p c none none) w):=by
 have x:bl p≠bl c:=λe=>d (h.inj p c n a e);obtain⟨r,-,p1,p2,-⟩:=h.cells n;obtain⟨s,g,-,-,c3,c4,-⟩:=h.cells a;rw[y]at g;rw[f]at c3;rw[m]at c4;rw[l]at p2;obtain⟨k,i⟩:∃o,Au bl (t p).fst= .pointer o:=⟨_,rfl⟩;rw[i]at p1;simp only[Au,BF]at g c3 c4 p2;have u:FK (((((w.setCell ⟨bl p,1,none⟩ (.pointer (some ⟨bl c,0,none⟩))).setCell ⟨bl p,2,none⟩ (.pointer (some ⟨bl c,0,none⟩))).setCell ⟨bl c,0,none⟩ (.pointer (some ⟨bl p,0,none⟩))).setCell ⟨bl c,3,none⟩ (.pointer none)).setCell ⟨bl c,4,none⟩ (.pointer none)) B S bl (GG t p c none none):=(((((h.set n 1 (by omega) (some c)).set n 2 (by omega) (some c)).set a 0 (by omega) (some p)).set a 3 (by omega) none).set a 4 (by omega) none);have v:=AA u;have b:=AA ((((((GI.refl S bl w).setCell n 1 (.pointer (some ⟨bl c,0,none⟩))).setCell n 2 (.pointer (some ⟨bl c,0,none⟩))).setCell a 0 (.pointer (some ⟨bl p,0,none⟩))).setCell a 3 (.pointer none)).setCell a 4 (.pointer none));have j:=r 1;have q:=r 2;have T:=s 0;have E:=s 3;have z:=s 4;clear u y f m l h r s i;go_enter func112,ntmps112;go_wp2_with fail
 go_end0;exact⟨rfl,v.o,b.o⟩
theorem SX(w:AB)(B:Nat)(S:Nat->Prop)(bl:Nat->Nat)(t:Nat->Dn)(h:FK w B S bl t)(p c r:Nat)(n:S p)(a:S c)(hr:S r)(m:p≠c)(l:r≠p)(u:r≠c)
 (q:(t c).par=none)(k:(t c).prv=none)(v:(t c).nxt=none)(g:(t p).lst=(some r)):
 AX AC 112 #[.pointer (some ⟨bl p,0,none⟩),.pointer (some ⟨bl c,0,none⟩),.pointer none] w (Eh S B bl (GG t p c (some r) none) w):=by
 have N:bl p≠bl c:=λe=>m (h.inj p c n a e);have z:bl r≠bl p:=λe=>l (h.inj r p hr n e);have x:bl r≠bl c:=λe=>u (h.inj r c hr a e);obtain⟨y,-,p1,p2,-⟩:=h.cells n;obtain⟨d,j,-,-,c3,c4,-⟩:=h.cells a;obtain⟨f,-,-,-,-,r4,-⟩:=h.cells hr;rw[q]at j;rw[k]at c3;rw[v]at c4;rw[g]at p2;obtain⟨A,i⟩:∃o,Au bl (t p).fst= .pointer o:=⟨_,rfl⟩;rw[i]at p1;obtain⟨L,s⟩:∃o,Au bl (t r).nxt= .pointer o:=⟨_,rfl⟩;rw[s]at r4;simp only[Au,BF,As]at j c3 c4 p2;have b:FK (((((w.setCell ⟨bl r,4,none⟩ (.pointer (some ⟨bl c,0,none⟩))).setCell ⟨bl p,2,none⟩ (.pointer (some ⟨bl c,0,none⟩))).setCell ⟨bl c,0,none⟩ (.pointer (some ⟨bl p,0,none⟩))).setCell ⟨bl c,3,none⟩ (.pointer (some ⟨bl r,0,none⟩))).setCell ⟨bl c,4,none⟩ (.pointer none)) B S bl (GG t p c (some r) none):=(((((h.set hr 4 (by omega) (some c)).set n 2 (by omega) (some c)).set a 0 (by omega) (some p)).set a 3 (by omega) (some r)).set a 4 (by omega) none);have T:=AA b;have E:=AA ((((((GI.refl S bl w).setCell hr 4 (.pointer (some ⟨bl c,0,none⟩))).setCell n 2 (.pointer (some ⟨bl c,0,none⟩))).setCell a 0 (.pointer (some ⟨bl p,0,none⟩))).setCell a 3 (.pointer (some ⟨bl r,0,none⟩))).setCell a 4 (.pointer none));have O:=f 4;have I:=y 2;have D:=d 0;have R:=d 3;have H:=d 4;clear b q k v g h y d i f s;go_enter func112,ntmps112;go_wp2_with fail
 go_end0;exact⟨rfl,T.o,E.o⟩
theorem SW(w:AB)(B:Nat)(S:Nat->Prop)(bl:Nat->Nat)(t:Nat->Dn)(h:FK w B S bl t)(p c q:Nat)(r:S p)(a:S c)(s:S q)(m:p≠c)(l:q≠p)(u:q≠c)
 (x:(t c).par=none)(j:(t c).prv=none)(k:(t c).nxt=none)(b:(t q).prv=none):
 AX AC 112 #[.pointer (some ⟨bl p,0,none⟩),.pointer (some ⟨bl c,0,none⟩),.pointer (some ⟨bl q,0,none⟩)] w (Eh S B bl (GG t p c none (some q)) w):=by
 have D:bl p≠bl c:=λe=>m (h.inj p c r a e);have T:bl q≠bl p:=λe=>l (h.inj q p s r e);have E:bl q≠bl c:=λe=>u (h.inj q c s a e);obtain⟨g,-,p1,p2,-⟩:=h.cells r;obtain⟨d,z,-,-,c3,c4,-⟩:=h.cells a;obtain⟨f,-,-,-,y,-⟩:=h.cells s;rw[x]at z;rw[j]at c3;rw[k]at c4;rw[b]at y;obtain⟨N,n⟩:∃o,Au bl (t p).fst= .pointer o:=⟨_,rfl⟩;rw[n]at p1;obtain⟨I,i⟩:∃o,Au bl (t p).lst= .pointer o:=⟨_,rfl⟩;rw[i]at p2;simp only[Au,BF]at z c3 c4 y;have v:FK (((((w.setCell ⟨bl p,1,none⟩ (.pointer (some ⟨bl c,0,none⟩))).setCell ⟨bl q,3,none⟩ (.pointer (some ⟨bl c,0,none⟩))).setCell ⟨bl c,0,none⟩ (.pointer (some ⟨bl p,0,none⟩))).setCell ⟨bl c,3,none⟩ (.pointer none)).setCell ⟨bl c,4,none⟩ (.pointer (some ⟨bl q,0,none⟩))) B S bl (GG t p c none (some q)):=(((((h.set r 1 (by omega) (some c)).set s 3 (by omega) (some c)).set a 0 (by omega) (some p)).set a 3 (by omega) none).set a 4 (by omega) (some q));have O:=AA v;have A:=AA ((((((GI.refl S bl w).setCell r 1 (.pointer (some ⟨bl c,0,none⟩))).setCell s 3 (.pointer (some ⟨bl c,0,none⟩))).setCell a 0 (.pointer (some ⟨bl p,0,none⟩))).setCell a 3 (.pointer none)).setCell a 4 (.pointer (some ⟨bl q,0,none⟩)));have R:=g 1;have H:=f 3;have C:=d 0;have U:=d 3;have L:=d 4;clear v x j k b h g d n i f;go_enter func112,ntmps112;go_wp2_with fail
 go_end0;exact⟨rfl,O.o,A.o⟩
theorem SY(w:AB)(B:Nat)(S:Nat->Prop)(bl:Nat->Nat)(t:Nat->Dn)(h:FK w B S bl t)(p c r q:Nat)(l:S p)(a:S c)(hr:S r)(s:S q)(v:p≠c)(f:r≠p)(y:r≠c)(g:q≠p)(b:q≠c)(m:r≠q)
 (O:(t c).par=none)(A:(t c).prv=none)(T:(t c).nxt=none)(z:(t q).prv=(some r)):
 AX AC 112 #[.pointer (some ⟨bl p,0,none⟩),.pointer (some ⟨bl c,0,none⟩),.pointer (some ⟨bl q,0,none⟩)] w (Eh S B bl (GG t p c (some r) (some q)) w):=by
 have P:bl p≠bl c:=λe=>v (h.inj p c l a e);have L:bl r≠bl p:=λe=>f (h.inj r p hr l e);have D:bl r≠bl c:=λe=>y (h.inj r c hr a e);have R:bl q≠bl p:=λe=>g (h.inj q p s l e);have H:bl q≠bl c:=λe=>b (h.inj q c s a e);have N:bl r≠bl q:=λe=>m (h.inj r q hr s e);obtain⟨U,-,p1,p2,-⟩:=h.cells l;obtain⟨u,I,-,-,c3,c4,-⟩:=h.cells a;obtain⟨k,-,-,-,-,r4,-⟩:=h.cells hr;obtain⟨j,-,-,-,x,-⟩:=h.cells s;rw[O]at I;rw[A]at c3;rw[T]at c4;rw[z]at x;obtain⟨W,n⟩:∃o,Au bl (t p).fst= .pointer o:=⟨_,rfl⟩;rw[n]at p1;obtain⟨F,i⟩:∃o,Au bl (t p).lst= .pointer o:=⟨_,rfl⟩;rw[i]at p2;obtain⟨J,d⟩:∃o,Au bl (t r).nxt= .pointer o:=⟨_,rfl⟩;rw[d]at r4;simp only[Au,BF,As]at I c3 c4 x;have E:FK (((((w.setCell ⟨bl r,4,none⟩ (.pointer (some ⟨bl c,0,none⟩))).setCell ⟨bl q,3,none⟩ (.pointer (some ⟨bl c,0,none⟩))).setCell ⟨bl c,0,none⟩ (.pointer (some ⟨bl p,0,none⟩))).setCell ⟨bl c,3,none⟩ (.pointer (some ⟨bl r,0,none⟩))).setCell ⟨bl c,4,none⟩ (.pointer (some ⟨bl q,0,none⟩))) B S bl (GG t p c (some r) (some q)):=(((((h.set hr 4 (by omega) (some c)).set s 3 (by omega) (some c)).set a 0 (by omega) (some p)).set a 3 (by omega) (some r)).set a 4 (by omega) (some q));have M:=AA E;have C:=AA ((((((GI.refl S bl w).setCell hr 4 (.pointer (some ⟨bl c,0,none⟩))).setCell s 3 (.pointer (some ⟨bl c,0,none⟩))).setCell a 0 (.pointer (some ⟨bl p,0,none⟩))).setCell a 3 (.pointer (some ⟨bl r,0,none⟩))).setCell a 4 (.pointer (some ⟨bl q,0,none⟩)));have Y:=k 4;have G:=j 3;have Q:=u 0;have K:=u 3;have V:=u 4;clear E O A T z h U u n i j k d;go_enter func112,ntmps112;go_wp2_with fail
 go_end0;exact⟨rfl,M.o,C.o⟩
theorem Qc(o:F.Ok S u)(w:AB)(B:Nat)(bl:Nat->Nat)(a:Nat->Dn)(h:FK w B S bl a)(j:∀i,S i->Il F i (a i))(p c:Nat)(m:S p)(y:S c)(z:F.par c=none)(t:p≠c)(l1 l2:List Nat)(f:F.kids p=l1++l2):
 AX AC 112 #[.pointer (some ⟨bl p,0,none⟩),.pointer (some ⟨bl c,0,none⟩),Au bl l2.head?] w (Eh S B bl (GG a p c l1.getLast? l2.head?) w):=by
 obtain⟨⟨l,E,k,v,b⟩,-⟩:=OH o j m y z t f;cases l2 with
 |nil=>
  have s:(a p).lst=l1.getLast? :=by rw[(j p m).lst,f,Ey]
  cases e:l1.getLast? with
  |none=>exact SV w B S bl a h p c m y t k v b (by rw[s,e])
  |some r=>exact SX w B S bl a h p c r m y (l r e).1 t (l r e).2.1 (l r e).2.2.1 k v b (by rw[s,e])
 |cons q l2=>
  have d:=E q rfl;have g:=o.nodup p;rw[f]at g;have x:F.par q=some p:=by rw[<-o.mem,f];simp
  have n:(a q).prv=l1.getLast? :=by rw[((j q d.1).sib p x).1,f,CE _ _ _ (CH g).2.1]
  cases e:l1.getLast? with
  |none=>exact SW w B S bl a h p c q m y d.1 t d.2.1 d.2.2 k v b (by rw[n,e])
  |some r=>exact SY w B S bl a h p c r q m y (l r e).1 d.1 t (l r e).2.1 (l r e).2.2.1 d.2.1 d.2.2 (λe2=>(l r e).2.2.2 (by rw[e2];rfl)) k v b (by rw[n,e])
structure Br(F:Fo)(S:Nat->Prop)(nd:Nat->Nd)(B:Nat)(bl:Nat->Nat)(st:Nat->Dn)(w:AB):Prop where
 dom:FK w B S bl st
 fit:∀i,S i->Il F i (st i)
 self:∀i,S i->Ex (nd i) (st i)
theorem Br.kept{w':AB}(h:Br F S H B Z V w)(t:AL w.heap.size w w'):Br F S H B Z V w':=
 ⟨h.dom.kept (λb _ e=>t.block b e),h.fit,h.self⟩
theorem Pw(h:∀i,S i->Ex (H i) (V i))(j:Nat)(k:Nat)(o:Option Nat):∀i,S i->Ex (H i) (FL V j ((V j).set k o) i):=by
 intro i a;have t:=h i a;by_cases e:i=j
 .subst e;rw[Dq]
  match k with
  |0=>exact⟨t.typ,t.dat,t.ats⟩
  |1=>exact⟨t.typ,t.dat,t.ats⟩
  |2=>exact⟨t.typ,t.dat,t.ats⟩
  |3=>exact⟨t.typ,t.dat,t.ats⟩
  |n+4=>exact⟨t.typ,t.dat,t.ats⟩
 rw[Ch _ _ _ _ e];exact t
theorem WM(h:∀i,S i->Ex (H i) (V i))(p c:Nat):∀i,S i->Ex (H i) (Ii V p c i):=by
 unfold Ii;cases (V c).prv<;>cases (V c).nxt<;>dsimp only<;>repeat (first|exact h|refine Pw ?_ _ _ _)
theorem PP(h:∀i,S i->Ex (H i) (V i))(p c:Nat)(e t:Option Nat):∀i,S i->Ex (H i) (GG V p c e t i):=by
 unfold GG;cases e<;>cases t<;>dsimp only<;>repeat (first|exact h|refine Pw ?_ _ _ _)
theorem Vd(t:Nat->Dn)(p c:Nat)(o:p≠c)(r:∀q,(t p).lst=some q->q≠c)(n:(t c).nxt=none):Hd t p c=GG t p c (t p).lst none:=by
 have key:∀a:Nat->Dn,(a c).nxt=none->a=FL a c ((a c).set 4 none):=by
  intro a h;funext i;by_cases e:i=c
  .subst e;rw[Dq];cases hx:a i
   rw[hx]at h;dsimp only at h;subst h;rfl
  rw[Ch _ _ _ _ e]
 unfold Hd GG;cases e:(t p).lst with
 |none=>
  dsimp only;refine key _ ?_;simp[FL,Dn.set,Ne.symm o,n]
 |some q=>
  have s:c≠q:=λe2=>r q e e2.symm;dsimp only;refine key _ ?_;simp[FL,Dn.set,Ne.symm o,s,n]
def EH(F:Fo)(S:Nat->Prop)(nd:Nat->Nd)(B:Nat)(bl:Nat->Nat)(w:AB)(e:Bx)(w':AB):Prop:=
 e= .returned (.tuple #[])/\(∃t,Br F S nd B bl t w')/\GI S bl w w'
theorem Ee(o:F.Ok S u)(w:AB)(B:Nat)(bl:Nat->Nat)(t:Nat->Dn)(h:Br F S H B bl t w)(p c:Nat)(a:F.par c=some p):
 AX AC 115 #[.pointer (some ⟨bl p,0,none⟩),.pointer (some ⟨bl c,0,none⟩)] w (EH (F.cut c) S H B bl w):=by
 refine(Qy o w B bl t h.dom h.fit p c a).mono ?_;rintro e s ⟨rfl,n,i⟩;exact⟨rfl,⟨_,n,(RR o h.fit a).2,WM h.self p c⟩,i⟩
theorem G1(o:F.Ok S u)(w:AB)(B:Nat)(bl:Nat->Nat)(i:Nat->Dn)(h:Br F S H B bl i w)(p c:Nat)(n:S p)(r:S c)(a:F.par c=none)(t:p≠c)(l1 l2:List Nat)(s:F.kids p=l1++l2):
 AX AC 112 #[.pointer (some ⟨bl p,0,none⟩),.pointer (some ⟨bl c,0,none⟩),Au bl l2.head?] w (EH (F.put p l1.length c) S H B bl w):=by
 refine(Qc o w B bl i h.dom h.fit p c n r a t l1 l2 s).mono ?_;rintro e m ⟨rfl,l,d⟩;exact⟨rfl,⟨_,l,(OH o h.fit n r a t s).2,PP h.self p c _ _⟩,d⟩
theorem LL(o:F.Ok S u)(w:AB)(B:Nat)(bl:Nat->Nat)(i:Nat->Dn)(h:Br F S H B bl i w)(p c:Nat)(r:S p)(m:S c)(d:F.par c=none)(a:p≠c):
 AX AC 99 #[.pointer (some ⟨bl p,0,none⟩),.pointer (some ⟨bl c,0,none⟩)] w (EH (F.put p (F.kids p).length c) S H B bl w):=by
 obtain⟨⟨z,T,x,j,y⟩,n⟩:=OH o h.fit r m d a (l1:=F.kids p) (l2:=[]) (by simp);have t:(i p).lst=(F.kids p).getLast? :=(h.fit p r).lst;have l:∀q,(i p).lst=some q->S q/\q≠c/\q≠p:=λq s=>by
  rw[t]at s;obtain⟨k,v,b,_⟩:=z q s;exact⟨k,b,v⟩
 refine(MJ w B S bl i h.dom p c r m a x j y l).mono ?_;rintro e E ⟨rfl,f,g⟩;have e1:=Vd i p c a (λq s=>(l q s).2.1) y;rw[t]at e1;rw[e1]at f;exact⟨rfl,⟨_,f,n,PP h.self p c _ _⟩,g⟩
structure Dy(S:Nat->Prop)(bl:Nat->Nat)(B:Nat)(w w':AB):Prop where
 os:w'.os=w.os
 tape:w'.tape=w.tape
 output:w'.output=w.output
 size:w.heap.size<=w'.heap.size
 block:∀b,b<B->(∀i,S i->b≠bl i)->w'.heap[b]? =w.heap[b]?
 row:∀i,S i->bl i<B->rowAt w' (bl i)=rowAt w (bl i)
theorem Dy.refl(S:Nat->Prop)(bl:Nat->Nat)(B:Nat)(w:AB):Dy S bl B w w:=⟨rfl,rfl,rfl,AG _,λ_ _ _=>rfl,λ_ _ _=>rfl⟩
theorem Dy.trans{a b c:AB}(h:Dy S Z B a b)(k:Dy S Z B b c):Dy S Z B a c:=
 ⟨k.os.trans h.os,k.tape.trans h.tape,k.output.trans h.output,AH h.size k.size,λq n o=>(k.block q n o).trans (h.block q n o),λi e t=>(k.row i e t).trans (h.row i e t)⟩
theorem Dy.Yq{a b:AB}(h:AL B a b):Dy S Z B a b:=⟨h.os,h.tape,h.output,h.size,λq t _=>h.block q t,λi _ e=>Ce (h.block _ e)⟩
theorem Dy.Y3{a b:AB}(h:GI S Z a b):Dy S Z B a b:=⟨h.os,h.tape,h.output,Nat.le_of_eq h.size.symm,λq _ t=>h.block q t,λi e _=>h.row i e⟩
section
variable (w:AB)
theorem Ol{o:Oper}{a:Act}(s x:Operand)
 (z:o.op= .call {callee:= .builtin .append,args:= #[s,x],argTypes:= #[63,63]})(bl:Nat->Nat)
 (base:Nat)(v:AS)(xs:List Nat)(j:a.eval s=v)(d:w.ownsRow base 70 1 v xs.length (Ad bl xs))
 (A:Option Ai)(m c:Nat)(t:List Nat)(E:m=t.length)(hx:a.eval x= .slice A m c)(hr:B6 w w.heap.size A (Ad bl t))(k:xs.length+t.length<=1000000)(i:base<=w.heap.size)
 (h:∀r n w',w'.ownsRow base 70 1 (.slice r (xs++t).length n) (xs++t).length (Ad bl (xs++t))->w.grownBy w' v.ownBlock->((AO r (xs++t).length n).ownBlock=v.ownBlock\/(AO r (xs++t).length n).ownBlock=some w.heap.size)->K (a.put o.dst (.slice r (xs++t).length n)) w'):
 Oper.wp AC o a w K Q:=by
 subst E;obtain⟨q,l,g,y,f⟩:=D6 Tryz.ZF;have p:=hr.reads;rw[AM]at p;refine EN w s x 63 z base 70 q (.pointer none) 1 8 underlying63 l g y f rfl (by decide) v xs.length (Ad bl xs) j d w.heap.size A t.length c (Ad bl t) hx p (Ni bl t) (by unfold maxLen;omega) (by omega) i ?_;intro O w' u T b;obtain⟨r,n,rfl⟩:=DA u;have e:(xs++t).length=xs.length+t.length:=AN;rw[<-LW]at u;rw[<-e]at u b|-;exact h r n w' u T b
theorem Db{rest:List Oper}{o:Oper}{a:Act}(l:o.guard=none)(s x:Operand)
 (f:o.op= .call {callee:= .builtin .append,args:= #[s,x],argTypes:= #[63,63]})(bl:Nat->Nat)
 (base:Nat)(v:AS)(xs:List Nat)(u:a.eval s=v)(r:w.ownsRow base 70 1 v xs.length (Ad bl xs))
 (A:Option Ai)(m c:Nat)(e:List Nat)(y:m=e.length)(hx:a.eval x= .slice A m c)(hr:B6 w w.heap.size A (Ad bl e))(d:xs.length+e.length<=1000000)(t:base<=w.heap.size)
 (h:∀n i w',w'.ownsRow base 70 1 (.slice n (xs++e).length i) (xs++e).length (Ad bl (xs++e))->w.grownBy w' v.ownBlock->((AO n (xs++e).length i).ownBlock=v.ownBlock\/(AO n (xs++e).length i).ownBlock=some w.heap.size)->wpList AC T Q rest (a.put o.dst (.slice n (xs++e).length i)) w'):
 wpList AC T Q (o::rest) a w:=
 wpList_plain l λ_ g=>Ol w s x f bl base v xs u r A m c e y hx hr d t λn i w' k b p=>g _ _ (h n i w' k b p)
end
structure DO(r s:Option Nat)(w w':AB):Prop where
 os:w'.os=w.os
 tape:w'.tape=w.tape
 output:w'.output=w.output
 size:w.heap.size<=w'.heap.size
 block:∀b,b<w.heap.size->some b≠r->some b≠s->w'.heap[b]? =w.heap[b]?
def Gq(B:Nat)(e r:Option Nat):Prop:=e=r\/∃x,e=some x/\B<=x
theorem Gq.trans{C:Nat}{a b c:Option Nat}(h:Gq B b a)(k:Gq C c b)(t:B<=C):Gq B c a:=by
 rcases k with rfl|⟨x,e,hx⟩
 .exact h
 exact .inr ⟨x,e,by omega⟩
theorem DO.trans{r s n i:Option Nat}{a b c:AB}(h:DO r s a b)(k:DO n i b c)(hr:Gq a.heap.size n r)(m:Gq a.heap.size i s):DO r s a c:=by
 have key:∀{x y:Option Nat},Gq a.heap.size x y->∀b,b<a.heap.size->some b≠y->some b≠x:=by
  intro x y o b g u;rcases o with rfl|⟨z,e,f⟩
  .exact u
  rw[e];intro e2;cases e2;omega
 exact⟨k.os.trans h.os,k.tape.trans h.tape,k.output.trans h.output,AH h.size k.size,λq t l d=>(k.block q (AR t h.size) (key hr q t l) (key m q t d)).trans (h.block q t l d)⟩
theorem DO.Yq{r s:Option Nat}{a b:AB}(h:AL a.heap.size a b):DO r s a b:=⟨h.os,h.tape,h.output,h.size,λq e _ _=>h.block q e⟩
theorem DO.Zp{r s:Option Nat}{a b:AB}(h:a.grownBy b r):DO r s a b:=⟨h.os,h.tape,h.output,h.size,λq t e _=>h.block q t e⟩
theorem DO.ZN{r s:Option Nat}{a b:AB}(h:a.grownBy b s):DO r s a b:=⟨h.os,h.tape,h.output,h.size,λq t _ e=>h.block q t e⟩
theorem DO.set{r s:Option Nat}{a b:AB}(h:DO r s a b){p:Ai}(o:Gq a.heap.size (some p.block) r)(u:AS):DO r s a (b.setCell p u):=
 ⟨h.os,h.tape,h.output,by simpa [Cb]using h.size,λq n t i=>(A8 _ _ _ _ (by
  rcases o with e|⟨x,e,hx⟩
  .rw[<-e]at t;intro e2;exact t (by rw[e2])
  cases e;intro e2;omega)).trans (h.block q n t i)⟩
theorem DO.below{r s:Option Nat}{a b:AB}(h:DO r s a b)(i:B<=a.heap.size)(hr:∀x,r=some x->B<=x)(t:∀x,s=some x->B<=x):AL B a b:=
 ⟨h.os,h.tape,h.output,h.size,λq o=>h.block q (by omega) (λe=>by have:=hr q e.symm;omega) (λe=>by have:=t q e.symm;omega)⟩
theorem OW{w:AB}{l d e1 e2 s1 s2 n1 n2:Nat}{v1 v2:AS}{n i:List AS}(h:w.ownsRow l e1 s1 v1 n1 n)(s:w.ownsRow d e2 s2 v2 n2 i)(o:e1≠e2):v2.ownBlock=none\/v2.ownBlock≠v1.ownBlock:=by
 cases t:v2.ownBlock with
 |none=>exact .inl rfl
 |some b=>
  refine .inr λe=> ?_;rcases s.2 with⟨a,_⟩|⟨g,_,u,a,_,r,_⟩
  .rw[a]at t;simp[A6]at t
  rw[a]at t;simp[A6]at t;subst t;exact Ax h r o e.symm
theorem Nl{w:AB}{e size:Nat}{xs:List AS}{V U:AS}{p y n1 n2:Nat}{s i:List AS}(r:DO V.ownBlock U.ownBlock w N)(l:w.ownsRow p 41 5 V n1 s)(u:w.ownsRow y 70 1 U n2 i)(o:w.ownsRow B e size v n xs)(f:41≠e)(m:70≠e):N.ownsRow B e size v n xs:=by
 refine⟨o.1,?_⟩;rcases o.2 with c|⟨g,cap,a,h,d,t,r3⟩
 .exact .inl c
 refine .inr ⟨g,cap,a,h,d,?_,r3⟩;rw[r.block g (AE.1 t).1 (λe2=>Ax l t f e2.symm) (λe2=>Ax u t m e2.symm)];exact t
theorem Br.ZE{s:Nat->Dn}{w:AB}(h:Br F S H B Z s w){V U:AS}{m c n1 n2:Nat}{d r:List AS}(t:DO V.ownBlock U.ownBlock w N)(o:w.ownsRow m 41 5 V n1 d)(n:w.ownsRow c 70 1 U n2 r):Br F S H B Z s N:=by
 refine⟨⟨λi a=> ?_,h.dom.inj,h.dom.Zd (λi a=>by
  obtain⟨_,aa,ac,e,_⟩:=h.dom.node i a;exact t.block _ (AE.1 e).1 (λe2=>Ax o e (by decide) e2.symm) (λe2=>Ax n e (by decide) e2.symm))⟩,h.fit,h.self⟩
 obtain⟨u,aa,ac,e,l⟩:=h.dom.node i a;refine⟨u,aa,ac,?_,Nl t o n l (by decide) (by decide)⟩;rw[t.block _ (AE.1 e).1 (λe2=>Ax o e (by decide) e2.symm) (λe2=>Ax n e (by decide) e2.symm)];exact e
def Ja(B:Nat)(w:AB)(e:Nd):Prop:=w.ownsRow B 49 2 (.slice e.aa e.attrs.length e.ac) e.attrs.length (CJ e.attrs)
theorem Ja.ZE{w:AB}{e:Nd}(h:Ja B w e){V U:AS}{r s n1 n2:Nat}{a t:List AS}(o:DO V.ownBlock U.ownBlock w N)(i:w.ownsRow r 41 5 V n1 a)(n:w.ownsRow s 70 1 U n2 t):Ja B N e:=
 Nl o i n h (by decide) (by decide)
def D4(F:Fo)(h:Nat->Nat)(nd:Nat->Nd)(y:Nat):Nd:=Cj {nd y with size:=((F.all h y).length:Int)}
def JA(F:Fo)(h:Nat->Nat)(nd:Nat->Nd)(B:Nat)(bl:Nat->Nat)(x:Nat)(o:List Nd)(L:List Nat)(v u:AS)(w:AB)(e:Bx)(w':AB):Prop:=
 ∃t a c i c2,e= .returned (.tuple #[.slice a (o++t).length c,.slice i (L++F.all h x).length c2])/\t.map Cj=(F.all h x).map (D4 F h nd)/\(∀e∈t,Ja B w' e)/\
  w'.ownsRow B 41 5 (.slice a (o++t).length c) (o++t).length (B7 (o++t))/\
  w'.ownsRow B 70 1 (.slice i (L++F.all h x).length c2) (L++F.all h x).length (Ad bl (L++F.all h x))/\
  Gq w.heap.size (AO a (o++t).length c).ownBlock v.ownBlock/\Gq w.heap.size (AO i (L++F.all h x).length c2).ownBlock u.ownBlock/\DO v.ownBlock u.ownBlock w w'
def ME(F:Fo)(h:Nat->Nat)(nd:Nat->Nd)(B:Nat)(bl:Nat->Nat)(x:Nat)(s:List Nd)(L:List Nat)(v u:AS)(w:AB)(v1 v2 r:AS)(wr:AB):Prop:=
 ∃j i o a c m n c2 t,j<=(F.kids x).length/\r=Au bl ((F.kids x)[j]?)/\v1= .slice a m c/\v2= .slice n t c2/\m=(s++i::o).length/\t=(L++x::CR F h x j).length/\
  Cj i=Cj {nd x with size:=0}/\o.map Cj=(CR F h x j).map (D4 F h nd)/\(∀e∈i::o,Ja B wr e)/\
  wr.ownsRow B 41 5 (.slice a m c) m (B7 (s++i::o))/\
  wr.ownsRow B 70 1 (.slice n t c2) t (Ad bl (L++x::CR F h x j))/\
  Gq w.heap.size (AO a m c).ownBlock v.ownBlock/\Gq w.heap.size (AO n t c2).ownBlock u.ownBlock/\DO v.ownBlock u.ownBlock w wr
def RZ(v:AS):Nat:=match v with| .slice _ n _=>n|_=>0
theorem Ju{l:List Nat}(o:l.Nodup){j:Nat}(i:j<l.length):EC l l[j]=l[j+1]? :=by
 have e:l=l.take j++l[j]::l.drop (j+1):=by
  conv=>lhs;rw[<-Av j l,Ck i]
 have t:=o;rw[e]at t;have a:=Bt (l.drop (j+1)) l[j] (l.take j) (CH t).1;rw[<-e]at a;rw[a,List.head?_drop]
theorem Ud(w:AB)(T:Dk)(x:Nd):GC (w.alloc (.cells #[.int .i64 x.kind,.string x.tag,.string x.text,.slice x.aa x.attrs.length x.ac,.int .i64 x.size] T)) (w.heap.size+1) 5 (some ⟨w.heap.size,0,none⟩) 1 (B7 [x]):=by
 refine⟨rfl,λ_=>⟨_,rfl,by show w.heap.size<_;omega,λj u t=> ?_⟩⟩;rw[Ba,BI];have e:B7 [x]=[.int .i64 x.kind,.string x.tag,.string x.text,.slice x.aa x.attrs.length x.ac,.int .i64 x.size]:=rfl;rw[e]at t;rw[By];simpa using t
theorem Cv{w':AB}{e size:Nat}{xs:List AS}(o:w.ownsRow B e size v n xs)(s:∀b,v.ownBlock=some b->b<w.heap.size->w'.heap[b]? =w.heap[b]?):w'.ownsRow B e size v n xs:=by
 refine⟨o.1,?_⟩;rcases o.2 with r|⟨g,cap,t,a,h,i,r3⟩
 .exact .inl r
 refine .inr ⟨g,cap,t,a,h,?_,r3⟩;rw[s g (by rw[a];rfl) (AE.1 i).1];exact i
theorem Gq.refl(B:Nat)(r:Option Nat):Gq B r r:= .inl rfl
theorem K4{r:Option Nat}(s:w.grownBy N r){e size:Nat}{xs:List AS}(o:w.ownsRow B e size v n xs)(i:v.ownBlock=none\/v.ownBlock≠r):N.ownsRow B e size v n xs:=
 Cv o λb a t=>s.block b t (by rw[<-a];rcases i with h|h;rw[a]at h;cases h;exact h)
theorem Iz(w:AB)(bl:Nat->Nat)(x:Nat):B6 (w.alloc (.cells #[.pointer (some ⟨bl x,0,none⟩)] 70)) (w.alloc (.cells #[.pointer (some ⟨bl x,0,none⟩)] 70)).heap.size (some ⟨w.heap.size,0,none⟩) (Ad bl [x]):=by
 refine .inr ⟨_,0,rfl,by rw[BX];omega,λi t=> ?_⟩;have e:i=0:=by simp[Ad]at t;exact t
 subst e;rw[By,BI];rfl
theorem Pt{nd:Nat->Nd}{C:Nat}{t:List Nd}{L:List Nat}{c m:Option Ai}{l u:Nat}{o:AB}(d:AL w.heap.size w o)(P:C<=w.heap.size)
 (W:w.ownsRow C 41 5 (.slice c t.length l) t.length (B7 t))(Y:w.ownsRow C 70 1 (.slice m L.length u) L.length (Ad Z L)){s:Nd}(G:Ja w.heap.size o s)(U:Cj s=Cj {nd x with size:=0})(y f:Array AS)
 {g:Option Ai}{c9:Nat}{r:AB}(N:r.ownsRow C 41 5 (.slice g (t++[s]).length c9) (t++[s]).length (B7 (t++[s])))(v:(o.alloc (.cells y 41)).grownBy r (AO c t.length l).ownBlock)
 (T:(AO g (t++[s]).length c9).ownBlock=(AO c t.length l).ownBlock\/(AO g (t++[s]).length c9).ownBlock=some (o.alloc (.cells y 41)).heap.size)
 {n:Option Ai}{i:Nat}{a:AB}(I:a.ownsRow C 70 1 (.slice n (L++[x]).length i) (L++[x]).length (Ad Z (L++[x])))(p:(r.alloc (.cells f 70)).grownBy a (AO m L.length u).ownBlock)
 (E:(AO n (L++[x]).length i).ownBlock=(AO m L.length u).ownBlock\/(AO n (L++[x]).length i).ownBlock=some (r.alloc (.cells f 70)).heap.size):
 ME F h nd C Z x t L (.slice c t.length l) (.slice m L.length u) w (.slice g (t++[s]).length c9) (.slice n (L++[x]).length i) (Au Z ((F.kids x)[0]?)) a/\DO (AO c t.length l).ownBlock (AO m L.length u).ownBlock w a:=by
 have k:=BB W (λb _ O=>d.block b O);have j:=BB Y (λb _ O=>d.block b O);have ba:AL o.heap.size o (o.alloc (.cells y 41)):=Ac;have B:AL r.heap.size r (r.alloc (.cells f 70)):=Ac;have D:DO (AO c t.length l).ownBlock (AO m L.length u).ownBlock o r:=(DO.Yq ba).trans (DO.Zp v) (Gq.refl _ _) (Gq.refl _ _);have r1:DO (AO c t.length l).ownBlock (AO m L.length u).ownBlock o a:=(D.trans (DO.Yq B) (Gq.refl _ _) (Gq.refl _ _)).trans (DO.ZN p) (Gq.refl _ _) (Gq.refl _ _);have r2:DO (AO c t.length l).ownBlock (AO m L.length u).ownBlock w a:=(DO.Yq d).trans r1 (Gq.refl _ _) (Gq.refl _ _);have q:=j.alloc (.cells y 41);have S:=k.alloc (.cells y 41);have R:=K4 v q (OW S q (by decide));have z:=N.alloc (.cells f 70);have H:=R.alloc (.cells f 70);have A:=K4 p z (OW H z (by decide));have e1:x::CR F h x 0=[x]:=by simp[CR]
 have s1:o.heap.size<=r.heap.size:=D.size;have V:=d.size;refine⟨⟨0,s,[],g,c9,_,n,i,_,AY _,rfl,rfl,rfl,rfl,by rw[e1],U,by simp[CR],?_,A,by rw[e1];exact I,?_,?_,r2⟩,r2⟩
 .intro e M;have:e=s:=by simpa using M
  subst this;exact(show Ja C o e from Bf G P).ZE r1 k j
 .rcases T with e|e
  .exact .inl e
  exact .inr ⟨_,e,by rw[BX];omega⟩
 rcases E with e|e
 .exact .inl e
 exact .inr ⟨_,e,by rw[BX];omega⟩
theorem Q2(o:F.Ok S h)(hnd:∀i,S i->G' (H i))(C:Nat)(d:Nat)
 (ih:∀(x:Nat) (v u:AS) (t:List Nd) (L:List Nat) (w:AB),h x<d->S x->
 Br F S H B Z V w->C<=w.heap.size->w.ownsRow C 41 5 v t.length (B7 t)->w.ownsRow C 70 1 u L.length (Ad Z L)->t.length+(F.all h x).length<=100000->L.length+(F.all h x).length<=100000->(∃a c,v= .slice a t.length c)->(∃a c,u= .slice a L.length c)->
 AX AC 25 #[.pointer (some ⟨Z x,0,none⟩),v,u] w (JA F h H C Z x t L v u w)):
 ∀(x:Nat) (v u:AS) (t:List Nd) (L:List Nat) (w:AB),h x<d+1->S x->
 Br F S H B Z V w->C<=w.heap.size->w.ownsRow C 41 5 v t.length (B7 t)->w.ownsRow C 70 1 u L.length (Ad Z L)->t.length+(F.all h x).length<=100000->L.length+(F.all h x).length<=100000->(∃a c,v= .slice a t.length c)->(∃a c,u= .slice a L.length c)->
 AX AC 25 #[.pointer (some ⟨Z x,0,none⟩),v,u] w (JA F h H C Z x t L v u w):=by
 rintro x v u t L w hx U hP hC hv hu hlen K ⟨av,cv,rfl⟩ ⟨au,cu,rfl⟩;have HK:=AA (Qh hP.dom U (hP.self x U) (hnd x U));have hP0:=AA hP;have en:=AA hv;have eh:=AA hu;have HIh:=AA ih;have HO:=AA o;have HKid:Hid (∀q (hq:q<(F.kids x).length),S (F.kids x)[q]/\h (F.kids x)[q]<h x/\F.par (F.kids x)[q]=some x):=λq hq=>by
  have:=(o.mem x _).1 (AD hq);exact⟨(o.dom _ _ this).2,o.ht _ _ this,this⟩
 have HAll:Hid (∀q (hq:q<(F.kids x).length),(CR F h x q).length+(F.all h (F.kids x)[q]).length+1<=(F.all h x).length):=λq hq=>by
  have:=Ht o x (q+1);rw[Ef F h x q hq,AN]at this;omega
 have hal1:1<=(F.all h x).length:=by have:=Iy o x;omega
 have HLen:=AA hlen;have HLen2:=AA K;have hds:t.length+1<=100000:=by omega
 have hLs:L.length+1<=100000:=by omega
 have HKn:Hid ((F.kids x).length<=100000):=by have:=Iy o x;unfold Hid;omega
 clear hP hv hu ih o hlen K;go_enter func25,ntmps25;go_wp2_with fail;refine HK.o.mono ?_;rintro e w1 ⟨a0,c0,rfl,T,D⟩;obtain⟨r,l⟩:∃r:Nd,r=⟨(H x).kind,(H x).tag,(H x).text,a0,c0,(H x).attrs,0⟩:=⟨_,rfl⟩;have k1:(H x).kind=r.kind:=by rw[l]
 have k2:(H x).tag=r.tag:=by rw[l]
 have k3:(H x).text=r.text:=by rw[l]
 have k4:(H x).attrs=r.attrs:=by rw[l]
 have k5:a0=r.aa:=by rw[l]
 have k6:c0=r.ac:=by rw[l]
 have k7:(0:Int)=r.size:=by rw[l]
 have HE0:Hid (Cj r=Cj {H x with size:=0}):=by rw[l];rfl
 rw[k4,k5,k6]at T;rw[k1,k2,k3,k4,k5,k6,k7];have HOwn0:=AA T;have HB1:=AA D;have hv1:=BB en.o (λb _ h2=>D.block b h2);have hu1:=BB eh.o (λb _ h2=>D.block b h2);have HV1:=AA (hv1.alloc (.cells #[.int .i64 r.kind,.string r.tag,.string r.text,.slice r.aa r.attrs.length r.ac,.int .i64 r.size] 41));have HR1:=AA (Ud w1 41 r);have hs1:=D.size;clear T D hv1 l k1 k2 k3 k4 k5 k6 k7;go_wp2_with(at_builtin;refine Da rfl (.tmp 12) (.tmp 15) rfl C (.slice av t.length cv) t rfl HV1.o (some ⟨w1.heap.size,0,none⟩) 1 1 [r] rfl rfl (by simpa using HR1.o) (by simp;omega) (by simp;omega) ?_);intro a9 c9 w9 P eo n;have HN2:=AA P;have HG2:=AA eo;have HA2:=AA n;have hU9:w9.ownsRow C 70 1 (.slice au L.length cu) L.length (Ad Z L):=K4 eo (hu1.alloc _) (OW HV1.o (hu1.alloc _) (by decide));have HUp:=AA (hU9.alloc (.cells #[.pointer (some ⟨Z x,0,none⟩)] 70));have hs9:w1.heap.size+1<=w9.heap.size:=by have:=eo.size;rw[BX]at this;exact this
 clear P eo n hu1 hU9 HV1 HR1;go_wp2_with(at_builtin;refine Db _ rfl (.tmp 17) (.tmp 19) rfl Z C (.slice au L.length cu) L rfl HUp.o (some ⟨w9.heap.size,0,none⟩) 1 1 [x] rfl rfl ?c1 (by simp;omega) (by simp;omega) ?_)
 case c1=>exact Iz w9 Z x
 intro a10 c10 w10 G hg3 s;obtain⟨Q,hT0⟩:=Pt (F:=F) (h:=h) (nd:=H) HB1.o hC en.o eh.o HOwn0.o HE0.o _ _ (by simpa using HN2.o) HG2.o (by simpa using HA2.o) (by simpa using G) hg3 (by simpa using s);have J:=AA Q;have Y:=hP0.o.ZE hT0 en.o eh.o;have c1:=(Y.dom.cells U).2.2.1;rw[(Y.fit x U).fst,List.head?_eq_getElem?]at c1;clear G hg3 s Q hT0 Y HUp;go_wp2;go_loopw [1,2,9] (λv1 v2 v9 wr=>ME F h H C Z x t L (.slice av t.length cv) (.slice au L.length cu) w v1 v2 v9 wr) (λv1 _ _ _=>t.length+(F.all h x).length-RZ v1)
 .have:=J.o;simpa using this
 clear J c1;obtain⟨j,e1,I,a,c,m,a2,c2,m2,hj,rfl,rfl,rfl,hm,hm2,ee,N,k,X,hU,O,n,hl⟩:=hrel;obtain⟨E,hE⟩:∃E,E=t++e1::I:=⟨_,rfl⟩;obtain⟨M,hM⟩:∃M,M=L++x::CR F h x j:=⟨_,rfl⟩;rw[<-hE]at hm X;rw[<-hM]at hm2 hU;subst hm hm2;have hPr:=hP0.o.ZE hl en.o eh.o;have hes:I.length=(CR F h x j).length:=by have:=congrArg Dw N;simpa using this
 have hEl:E.length=t.length+1+(CR F h x j).length:=by rw[hE];simp;omega
 have hMl:M.length=L.length+1+(CR F h x j).length:=by rw[hM];simp;omega
 have hsf:=Ht HO.o x j;have HEl:=AA hEl;have HE:=AA hE;have HM:=AA hM;have HSe:=AA ee;have HSs:=AA N;have HOw:=AA k;have HV:=AA X;have HU:=AA hU;have HAt:=AA O;have HAt2:=AA n;have HL:=AA hl;have HPr:=AA hPr;have hE100:E.length<=100000:=by have:=HLen.o;omega
 have hEd:t.length<E.length:=by omega
 have hwr:w.heap.size<=wr.heap.size:=hl.size;by_cases A:j<(F.kids x).length
 .obtain⟨y,hy⟩:∃y,y=(F.kids x)[j]:=⟨_,rfl⟩;have R:=HKid.o j A;have hal:=HAll.o j A;rw[<-hy]at R hal;have HI:=AA (HIh.o y (.slice a E.length c) (.slice a2 M.length c2) E M wr (by omega) R.1 HPr.o (AH hC hwr) HV.o HU.o (by have:=HLen.o;omega) (by have:=HLen2.o;omega) ⟨a,c,rfl⟩ ⟨a2,c2,rfl⟩);have HY:=AA hy;have hsy:=R.1;have hpy:=R.2.2;have ey:(F.kids x)[j]? =some y:=by rw[AK A,hy]
  rw[ey];simp only[Au,As];clear hE hM ee N k X hU O n hl hPr hes hEl hMl R hy ey;go_wp2_with fail;refine HI.o.mono ?_;rintro e w3 ⟨f,a3,c3,a4,c4,rfl,hs3,how3,hV3,hU3,s,W,ea⟩;have hP3:=HPr.o.ZE ea HV.o HU.o;have c4':=(hP3.dom.cells hsy).2.2.2.2.2.1;have hnx:(V y).nxt=(F.kids x)[j+1]? :=by
   rw[((hP3.fit y hsy).sib x hpy).2,HY.o];exact Ju (HO.o.nodup x) A
  rw[hnx]at c4';have er:E++f=t++e1::(I++f):=by rw[HE.o];simp
  have e2':M++F.all h y=L++x::CR F h x (j+1):=by
   rw[HM.o,Ef F h x j A,<-HY.o];simp
  rw[er]at hV3 s;rw[e2']at hU3 W;have hlen3:f.length=(F.all h y).length:=by have:=congrArg Dw hs3;simpa using this
  have hy1:1<=(F.all h y).length:=by have:=Iy HO.o y;omega
  have HRel:Hid (ME F h H C Z x t L (.slice av t.length cv) (.slice au L.length cu) w (.slice a3 (t++e1::(I++f)).length c3) (.slice a4 (L++x::CR F h x (j+1)).length c4) (Au Z ((F.kids x)[j+1]?)) w3):=by
   refine⟨j+1,e1,I++f,a3,c3,_,a4,c4,_,by omega,rfl,rfl,rfl,rfl,rfl,HSe.o,?_,?_,hV3,hU3,HAt.o.trans s HL.o.size,HAt2.o.trans W HL.o.size,HL.o.trans ea HAt.o HAt2.o⟩
   .rw[B3,HSs.o,hs3,Ef F h x j A,<-HY.o,B3]
   intro e he;rw[<-List.cons_append]at he;rcases AV.1 he with he|he
   .exact(HOw.o e he).ZE ea HV.o HU.o
   exact how3 e he
  have hEl3:(t++e1::(I++f)).length=E.length+f.length:=by rw[<-er,AN]
  rw[er,e2'];obtain⟨m3,et⟩:∃m3,(t++e1::(I++f)).length=m3:=⟨_,rfl⟩;obtain⟨m4,hm4⟩:∃m4,(L++x::CR F h x (j+1)).length=m4:=⟨_,rfl⟩;rw[et]at hEl3;rw[et,hm4]at HRel;rw[et,hm4];have hEb:E.length<m3:=by omega
  have hEb2:E.length<t.length+(F.all h x).length:=by have:=HEl.o;omega
  clear hs3 how3 hV3 hU3 s W ea hP3 hnx er e2' hlen3 hEl3 et hm4;go_wp2;go_roundw
  .exact HRel.o
  simp only[RZ];omega
 have e:j=(F.kids x).length:=by omega
 subst e;have ey:(F.kids x)[(F.kids x).length]? =none:=by simp
 rw[ey];simp only[Au,BF];obtain⟨g,c',hgv⟩:=FW X (by omega);cases hgv
 obtain⟨cu3,ei⟩:=KR X;have hix:(B7 E)[t.length*5+4]? =some (.int .i64 e1.size):=by
  rw[hE,EB,EV (by rw[C_];omega),C_];have e3:t.length*5+4-t.length*5=4:=by omega
  rw[e3];rfl
 have hgc:wr.cell? ⟨g,t.length*5+4,none⟩=some (.int .i64 e1.size):=by
  have:=X.cells (g:=g) rfl _ _ hix;rw[Ba,By]at this;exact this
 have hgf:=A7 wr g (t.length*5+4) _ _ ei;have z:=LB HO.o x;have hsz:((E.length:Int)-(t.length:Int))=((F.all h x).length:Int):=by
  rw[<-z,Ak];omega
 have hgo:=X.lt g rfl;have HFin:Hid (JA F h H C Z x t L (.slice av t.length cv) (.slice au L.length cu) w (.returned (.tuple #[.slice (some ⟨g,0,none⟩) E.length c,.slice a2 M.length c2])) (wr.setCell ⟨g,t.length*5+4,none⟩ (.int .i64 ((E.length:Int)-(t.length:Int))))):=by
  have h1:=JN X (t.length*5+4) (by rw[C_];omega) (.int .i64 ((E.length:Int)-(t.length:Int)));have hel:E.length=(t++{e1 with size:=((F.all h x).length:Int)}::I).length:=by rw[hE];simp
  have hml:M=L++F.all h x:=by rw[hM,z]
  have hU2:=Cv (w':=wr.setCell ⟨g,t.length*5+4,none⟩ (.int .i64 ((E.length:Int)-(t.length:Int)))) hU (λb hb hlt2=>A8 _ _ _ _ (λe=>Ax hU ei (by decide) (by rw[hb,e])));have hO2:∀e∈e1::I,Ja C (wr.setCell ⟨g,t.length*5+4,none⟩ (.int .i64 ((E.length:Int)-(t.length:Int)))) e:=λe he=>
   Cv (k e he) (λb hb hlt2=>A8 _ _ _ _ (λe4=>Ax (k e he) ei (by decide) (by rw[hb,e4])))
  rw[hsz]at h1 hU2 hO2|-;have h2:(B7 E).set (t.length*5+4) (.int .i64 ((F.all h x).length:Int))=B7 (t++{e1 with size:=((F.all h x).length:Int)}::I):=by rw[hE,JD]
  rw[h2,hel]at h1;rw[hel]at O;rw[hml]at hU2 n;refine⟨{e1 with size:=((F.all h x).length:Int)}::I,some ⟨g,0,none⟩,c,a2,c2,by rw[hel,hml],?_,?_,h1,hU2,O,n,hl.set (p:=⟨g,t.length*5+4,none⟩) O _⟩
  .rw[<-z,Bz,Bz,N];congr 1;have e5:(F.all h x).length=(x::CR F h x (F.kids x).length).length:=by rw[z]
   unfold D4;show{Cj e1 with size:=((x::CR F h x (F.kids x).length).length:Int)}=_;rw[ee,<-e5];rfl
  intro e he;rcases BQ.1 he with rfl|he
  .exact hO2 e1 (Af ..)
  exact hO2 e (Ab _ he)
 clear hE hM ee N k X hU O n hl hPr hes hEl hMl ei hix z hsz hgo ey;go_wp2_with fail;go_ret2;exact HFin.o
theorem Nx(o:F.Ok S h)(t:∀i,S i->G' (H i))(C:Nat)(d:Nat):
 ∀(x:Nat) (v u:AS) (e:List Nd) (L:List Nat) (w:AB),h x<d->S x->
 Br F S H B Z V w->C<=w.heap.size->w.ownsRow C 41 5 v e.length (B7 e)->w.ownsRow C 70 1 u L.length (Ad Z L)->e.length+(F.all h x).length<=100000->L.length+(F.all h x).length<=100000->(∃a c,v= .slice a e.length c)->(∃a c,u= .slice a L.length c)->
 AX AC 25 #[.pointer (some ⟨Z x,0,none⟩),v,u] w (JA F h H C Z x e L v u w):=by
 induction d with
 |zero=>intro x v u e L w hx;omega
 |succ d n=>exact Q2 o t C d n
def E7(e:List Nat)(x:Nat):Int:=J2 e 0 (λ_=> -1) x
theorem Pc(I:FK w B S Z V)(t:List Nat)(u:∀m∈t,S m)(Y:t.length<=100000)(a:Option Ai)(c:Nat)(h:B6 w w.heap.size a (Ad Z t))(x:Nat)(hx:S x):
 AX AC 93 #[.slice a t.length c,.pointer (some ⟨Z x,0,none⟩)] w (λe w'=>e= .returned (.int .i64 (E7 t x))/\w=w'):=by
 have M:=AA I;have C:=AA h;have U:=AA u;clear I h u;go_enter func93,ntmps93;go_wp2;go_loopw [8] (λy wr=>∃k:Nat,k<=t.length/\y= .int .i64 k/\Hid (∀q,q<k->t[q]?≠some x)/\w=wr) (λy _=>t.length-(Aa y).toNat)
 .exact⟨0,by omega,rfl,(λq l=>by omega),rfl⟩
 obtain⟨k,G,rfl,d,rfl⟩:=hrel;by_cases n:k<t.length
 .obtain⟨b,o,rfl,F,g⟩:=C.o.at_ (by rw[AM];omega);have T:=g k (by rw[AM];exact n);rw[A5 n]at T;have O:=U.o t[k] (AD n);obtain⟨j,E⟩:∃j,j=t[k]:=⟨_,rfl⟩;rw[<-E]at T O;have A:Hid (t[k]? =some j):=by rw[Hid,AK n,E]
  clear g E;by_cases e:j=x
  .subst e;have f:=I3 j Z w;have s:Hid (E7 t j=(k:Int)):=by
    have z:j∈t:=List.mem_of_getElem? A.o;unfold E7 J2;rw[Hid,AJ z];have e1:t.idxOf j=k:=by
     have H:=List.idxOf_lt_length_of_mem z;have L:t[t.idxOf j]? =some j:=(by rw[AK H,List.getElem_idxOf H]);rcases Nat.lt_trichotomy (t.idxOf j) k with r|r|r
     .exact absurd L (d.o _ r)
     .exact r
     have N:=List.not_of_lt_findIdx (p:=(·==j)) (xs:=t) (i:=k) r;have D:t[k]=j:=(by have:=A.o;rw[AK n]at this;injection this);rw[D]at N;simp at N
    rw[e1];omega
   go_wp2;go_ret;rw[s.o];exact⟨rfl,rfl⟩
  have f:=M.o.other hx O e;obtain⟨R,v⟩:∃R,R=Z j:=⟨_,rfl⟩;rw[<-v]at T f;clear v;go_wp2;go_roundw
  .refine⟨k+1,by omega,by go_num,λq l=> ?_,by trivial⟩;rcases Nat.lt_succ_iff_lt_or_eq.1 l with r|rfl
   .exact d.o q r
   rw[A.o];intro e2;injection e2 with e2;exact e e2
  simp[Aa];omega
 have e:k=t.length:=by omega
 subst e;have s:Hid (E7 t x= -1):=by
  unfold E7 J2;rw[Hid,AI (λz=>by
   obtain⟨q,l,e2⟩:=An z;exact d.o q l (by rw[AK l,e2]))]
 go_wp2;go_ret;rw[s.o];exact⟨rfl,rfl⟩
def J6(t ns:List Nat)(w:AB)(e:Bx)(w':AB):Prop:=∃a c,e= .returned (.slice a ns.length c)/\w'.ownsRow w.heap.size 3 1 (.slice a ns.length c) ns.length (E3 (ns.map (E7 t)))/\AL w.heap.size w w'
theorem OX(G:FK w B S Z V)(n:List Nat)(g:∀m∈n,S m)(hl:n.length<=100000)(a:Option Ai)(c:Nat)(h:B6 w w.heap.size a (Ad Z n))
 (ns:List Nat)(y:∀m∈ns,S m)(ee:ns.length<=100000)(K:Option Ai)(c5:Nat)(P:B6 w w.heap.size K (Ad Z ns)):
 AX AC 52 #[.slice a n.length c,.slice K ns.length c5] w (J6 n ns w):=by
 obtain⟨i0,T,D,R,H⟩:=D6 Tryz.Zl;have HD:=AA G;have HM:=AA g;have HR:=AA h;have HH:=AA P;have M:=AA y;clear G g h P y;go_enter func52,ntmps52;go_wp2;go_loopw [5,10] (λv x wr=>∃k N c1,k<=ns.length/\x= .int .i64 (k:Nat)/\v= .slice N k c1/\wr.ownsRow w.heap.size 3 1 (.slice N k c1) k (E3 ((ns.take k).map (E7 n)))/\AL w.heap.size w wr) (λ_ x _=>ns.length-(Aa x).toNat)
 .exact⟨0,none,0,by omega,rfl,rfl,Aw _ _ _ _,AW _ _⟩
 obtain⟨k,N,c1,hk,rfl,rfl,i,d⟩:=hrel;by_cases r:k<ns.length
 .obtain⟨b,o,rfl,L,E⟩:=HH.o.at_ (by rw[AM];omega);have A:=E k (by rw[AM];exact r);rw[A5 r]at A;replace A:=(d.cell (p:=⟨b,_,none⟩) L).trans A;have Y:=M.o ns[k] (AD r);obtain⟨j,I⟩:∃j,j=ns[k]:=⟨_,rfl⟩;rw[<-I]at A Y;have X:Hid ((ns.take (k+1)).map (E7 n)=(ns.take k).map (E7 n)++[E7 n j]):=by
   rw[Hid,AF r,I,B3];rfl
  have HP:=AA (Pc (HD.o.kept (λb _ h2=>d.block b h2)) n HM.o hl a c (HR.o.up d) j Y);have J:=AA i;have hsz:=d.size;clear E I i;go_wp2_with fail;refine HP.o.mono ?_;rintro e O ⟨rfl,rfl⟩;obtain⟨z,F⟩:∃z,z=E7 n j:=⟨_,rfl⟩;rw[<-F]at X|-;clear F;go_wp2_with(at_builtin;refine wpList_append_own _ rfl _ _ 23 rfl w.heap.size 3 i0 (.int .i64 0) 1 8 underlying23 T D R H rfl (by decide) _ _ _ rfl (J.o.alloc _) ⟨wr.heap.size,0,none⟩ 1 1 [.int .i64 z] rfl rfl ?c1 ?c2 ?c3 ?c4 ?c5 ?_)
  case c1=>
   intro q u l
   match q,l with
   |0,l=>simp at l;subst l;simp[Addr.add]
  case c2=>intro u W;simp at W;subst W;rfl
  case c3=>unfold maxLen;omega
  case c4=>omega
  case c5=>simp;omega
  intro v' O t s _;obtain⟨Q,c2,f⟩:=DA t;rw[f]at t|-;have U:AL w.heap.size w O:=(d.alloc d.size _).grown s (by simp;omega) (λq l=>(J.o.lt q l).1);have C:Hid (O.ownsRow w.heap.size 3 1 (.slice Q (k+1) c2) (k+1) (E3 ((ns.take (k+1)).map (E7 n)))):=by
   rw[Hid,X.o,UC,List.map_take];exact t
  clear t s f;go_wp2;go_roundw
  .exact⟨k+1,Q,c2,by omega,by go_num,rfl,C.o,U⟩
  simp[Aa];omega
 go_wp2;go_ret;have e:k=ns.length:=by omega
 subst e;rw[AU]at i;exact⟨_,_,rfl,i,d⟩
def QH(w:AB)(e L n t:Nat):Prop:=w.heap[e]? =some (.cells #[.slice (some ⟨L,0,none⟩) n n,.pointer (some ⟨t,0,none⟩)] 69 (0,0))
def Rz(t:List Nd)(w:AB)(e:Bx)(w':AB):Prop:=
 ∃L s i a o n,e= .returned (.tuple #[.pointer (some ⟨a,0,none⟩),.bool true])/\L<w'.heap.size/\Jm t w' w.heap.size L s i/\QH w' a L t.length o/\DP w' o none 0 0 (some ⟨n,0,none⟩) none/\w.heap.size<=a/\AL w.heap.size w w'
theorem SD(a:Option Ai)(c:Nat)(t:List Nd)(p:CQ t)(w:AB)(h:Gp w w.heap.size a t):
 AX AC 44 #[.slice a t.length c] w (Rz t w):=by
 have I:=AA p;have N:=AA h;have f:=p.pos;have H:(0:Int)<(t.length:Int):=by omega
 clear p h;go_enter func44,ntmps44;go_wp2_with fail;refine(SQ _ c t w N.o I.o).mono ?_;rintro e v ⟨L,j,z,rfl,l,D,g⟩;have U:=g.cell 0 f;have A:=AA g;have m:=AA l;clear g l;go_wp2_with fail;refine(Qm ⟨j 0,0,none⟩ v).mono ?_;rintro e y ⟨q,E,T,rfl,R,k,d⟩;have O:=AA k;have b:=AA d;clear k d;go_wp2_with fail;refine(Vq E T q y O.o).mono ?_;rintro e n ⟨rfl,s,r⟩;have u:=AA s;have i:=AA (BT b.o r);have x:v.heap.size<=n.heap.size:=i.o.size;have S:=m.o.size;clear s r;go_wp2_with fail;go_ret2;have o:AL n.heap.size n (n.alloc (.cells #[.slice (some ⟨L,0,none⟩) t.length t.length,.pointer (some ⟨y.heap.size,0,none⟩)] 69)):=Ac;refine⟨L,j,z,n.heap.size,y.heap.size,q,rfl,by rw[BX];omega,(A.o.kept i.o).kept o,Ah _ _,u.o.below o u.o.lt,by omega,BT (BT m.o i.o) o⟩
def N5(F:Fo)(S:Nat->Prop)(nd:Nat->Nd)(t:Nat->Int)(B:Nat)(kb:Nat->Nat)(i:Nat)(w:AB)(e:Bx)(w':AB):Prop:=
 e= .returned (.tuple #[])/\Ct (F.cut i) S nd t B kb w'/\Al S kb w w'
theorem Xx(o:F.Ok S u)(h:Ct F S H P B O w)(hBw:B<=w.heap.size)(i p:Nat)(hp:F.par i=some p)(l1 l2:List Nat)(Z:F.kids p=l1++i::l2)(hlen:(F.kids p).length<=100000)
 (ka:Option Ai)(f:Nat)(c7:w.cell? ⟨O p,7,none⟩=some (.slice ka (F.kids p).length f))(hkc:(F.kids p).length<=f)(I:w.ownsRow B 57 1 (.slice ka (F.kids p).length f) (F.kids p).length (Ad O (F.kids p)))(hcap:¬f=l1.length+1):
 AX AC 39 #[.pointer (some ⟨O i,0,none⟩)] w (N5 F S H P B O i w):=by
 have HP:=AA (Ed o h i p hp l1 l2 Z hlen);obtain⟨z,E⟩:=o.dom p i hp;have hpi:p≠i:=λe=>by have:=o.ht p i hp;rw[e]at this;omega
 have hne:O p≠O i:=λe=>hpi (h.inj p i z E e);obtain⟨if_,c6,-⟩:=h.cells E;obtain⟨pf,-⟩:=h.cells z;rw[hp]at c6;simp only[Au,As]at c6;obtain⟨_,_,hv,_,hrs⟩:=B6.own I;cases hv
 have hkl:(F.kids p).length=l1.length+l2.length+1:=by rw[Z];simp;omega
 obtain⟨b,a,rfl,hbB,hc⟩:=hrs.at_ (by rw[AM];omega);have hlp:=h.lt z;have hli:=h.lt E;have hnd:=o.nodup p;have HL2:Hid ((F.kids p).length-(l1.length+1)=l2.length):=by unfold Hid;omega
 have HL3:Hid (l1.length+l2.length<=100000):=by unfold Hid;omega
 have x:AL w.heap.size w (w.alloc (.cells #[] 57)).drew:=((AW _ _).alloc (AG _) _).drew;have HB0:=AA x;have HE:Hid ((w.alloc (.cells #[] 57)).drew.ownsRow w.heap.size 57 1 (.slice (some ⟨w.heap.size,0,none⟩) 0 0) 0 []):=JM w 57;have HR1:Hid (∀W,AL w.heap.size w W->B6 W W.heap.size (some ⟨b,a,none⟩) (Ad O l1)):=by
  intro W s;rcases BJ l1.length with h0|h0
  .rw[Ag h0];exact .inl rfl
  refine .inr ⟨b,a,rfl,by have:=s.size;omega,λq hq=> ?_⟩;rw[AM]at hq;rw[s.cell (p:=⟨b,_,none⟩) hbB,hc q (by rw[AM];omega),A5 hq,A5 (by omega)];simp only[Z];rw[Cs hq]
 have HR2:Hid (∀W,AL w.heap.size w W->B6 W W.heap.size (some ⟨b,a+(l1.length+1),none⟩) (Ad O l2)):=by
  intro W s;refine .inr ⟨b,a+(l1.length+1),rfl,by have:=s.size;omega,λq hq=> ?_⟩;rw[AM]at hq;have e:a+(l1.length+1)+q=a+(l1.length+1+q):=by omega
  rw[e,s.cell (p:=⟨b,_,none⟩) hbB,hc (l1.length+1+q) (by rw[AM];omega),A5 hq,A5 (by omega)];simp only[Z];rw[Gt (by omega)];have e2:l1.length+1+q-l1.length=q+1:=by omega
  simp only[e2,List.getElem_cons_succ]
 have r:∀W,AL w.heap.size w W->W.cell? ⟨O i,6,none⟩=some (.pointer (some ⟨O p,0,none⟩))/\W.cell? ⟨O p,7,none⟩=some (.slice (some ⟨b,a,none⟩) (F.kids p).length f):=λW s=>⟨(s.cell (p:=⟨O i,_,none⟩) hli).trans c6,(s.cell (p:=⟨O p,_,none⟩) hlp).trans c7⟩;have hfz:∀W,AL w.heap.size w W->(∀j,W.frozen? ⟨O p,j,none⟩=false)/\(∀j,W.frozen? ⟨O i,j,none⟩=false):=λW s=>⟨λj=>(Bj (s.block _ hlp)).trans (pf j),λj=>(Bj (s.block _ hli)).trans (if_ j)⟩;have HC1:=AA (r _ x);have HB1:Hid (∀l,(w.alloc (.cells #[] 57)).drew.grownBy l (AO (some ⟨w.heap.size,0,none⟩) 0 0).ownBlock->AL w.heap.size w l/\(l.cell? ⟨O i,6,none⟩=some (.pointer (some ⟨O p,0,none⟩))/\l.cell? ⟨O p,7,none⟩=some (.slice (some ⟨b,a,none⟩) (F.kids p).length f))):=by
  intro l hg;have s:AL w.heap.size w l:=x.grown hg x.size (λk e=>by cases e;exact AG _);exact⟨s,r _ s⟩
 have HB2:Hid (∀l n,AL w.heap.size w l->∀{a1:Option Ai} {c1:Nat},l.ownsRow w.heap.size 57 1 (.slice a1 l1.length c1) l1.length (Ad O l1)->l.grownBy n (AO a1 l1.length c1).ownBlock->AL w.heap.size w n/\(n.cell? ⟨O i,6,none⟩=some (.pointer (some ⟨O p,0,none⟩))/\n.cell? ⟨O p,7,none⟩=some (.slice (some ⟨b,a,none⟩) (F.kids p).length f))/\n.frozen? ⟨O p,7,none⟩=false/\n.frozen? ⟨O i,6,none⟩=false/\True):=by
  intro l n s a1 c1 ho hg;have c:AL w.heap.size w n:=s.grown hg s.size (λk e=>(ho.lt k e).1);exact⟨c,r _ c,(hfz _ c).1 7,(hfz _ c).2 6,trivial⟩
 have HZ:Hid (∀(n:AB) (v:AS),n.cell? ⟨O i,6,none⟩=some (.pointer (some ⟨O p,0,none⟩))->n.frozen? ⟨O i,6,none⟩=false->(n.setCell ⟨O p,7,none⟩ v).cell? ⟨O i,6,none⟩=some (.pointer (some ⟨O p,0,none⟩))/\(n.setCell ⟨O p,7,none⟩ v).frozen? ⟨O i,6,none⟩=false):=by
  intro n v h1 h2;exact⟨by rw[BN _ _ _ _ (by exact hne)];exact h1,by rw[EK];exact h2⟩
 have HF:Hid (∀(n:AB) (a2:Option Ai) (c2:Nat),AL w.heap.size w n->n.ownsRow w.heap.size 57 1 (.slice a2 (l1++l2).length c2) (l1++l2).length (Ad O (l1++l2))->
  Ct (F.cut i) S H P B O ((n.setCell ⟨O p,7,none⟩ (.slice a2 (l1++l2).length c2)).setCell ⟨O i,6,none⟩ (.pointer none))/\Al S O w ((n.setCell ⟨O p,7,none⟩ (.slice a2 (l1++l2).length c2)).setCell ⟨O i,6,none⟩ (.pointer none))):=by
  intro n a2 c2 s ho;have hk1:=((h.up s).Ys z (Bf ho hBw)).Yt E none;have e:(F.Ys p (l1++l2)).Yt i none=F.cut i:=by
   refine Fo.Yv (λq=>rfl) (λq=> ?_);show(if q=p then l1++l2 else F.kids q)=(F.kids q).filter _;by_cases e:q=p
   .rw[AJ e,e,Z,FQ (by rw[<-Z];exact hnd)]
   rw[AI e,CD];intro hm;rw[o.mem,hp]at hm;cases hm;exact e rfl
  rw[e]at hk1;exact⟨hk1,((Al.Yq s).set z 7 _).set E 6 _⟩
 have hl1:l1.length<(F.kids p).length:=by omega
 have hA:l1.length<=f:=by omega
 have hA1:l1.length+1<=f:=by omega
 have hA2:l1.length+1<=(F.kids p).length:=by omega
 have hA3:(0:Int)<=(l1.length:Int)+1:=by omega
 have hA4:((l1.length:Int)+1).toNat=l1.length+1:=by omega
 have hA5:(l1.length:Int)+1<=((F.kids p).length:Int):=by omega
 have hA6:IntKind.i64.wrap ((l1.length:Int)+1)=(l1.length:Int)+1:=IntWalk.i64_in _ (by omega);clear h hp I hrs Z pf if_ hc r hfz x hkl hnd;go_enter func39,ntmps39;go_wp2_with fail;refine HP.o.mono ?_;rintro e l ⟨rfl,rfl⟩;go_wp2_with fail;refine D' (G3 28 28 28 (λw'=>w'.cell? ⟨O i,6,none⟩=some (.pointer (some ⟨O p,0,none⟩))/\w'.cell? ⟨O p,7,none⟩=some (.slice (some ⟨b,a,none⟩) (F.kids p).length f)) (λ_=>True) (λ_=>True)) (by kernel_rfl) ?_;have hG0:G3 28 28 28 (λw'=>w'.cell? ⟨O i,6,none⟩=some (.pointer (some ⟨O p,0,none⟩))/\w'.cell? ⟨O p,7,none⟩=some (.slice (some ⟨b,a,none⟩) (F.kids p).length f)) (λ_=>True) (λ_=>True) (Array.replicate 29 false) w.drew:=⟨λ_=>⟨c6,c7⟩,λ_=>trivial,λ_=>trivial⟩;refine DF 0 hG0 λhG1=> ?_;clear hG0;simp only[AQ,Cx];refine DF 1 hG1 λhG2=> ?_;clear hG1;simp only[AQ];refine DF 2 hG2 λhG3=> ?_;clear hG2;simp only[AQ];refine tH 3 28 (λ_ _ h g=>g.1 h) hG3 λhG4=> ?_;clear hG3;simp only[AQ];refine DF 5 hG4 λhG5=> ?_;clear hG4;simp only[AQ];refine DF 6 hG5 λhG6=> ?_;clear hG5;simp only[AQ];refine DF 7 hG6 λhG7=> ?_;clear hG6;simp only[AQ];refine tH 8 28 (λ_ _ h g=>g.1 h) hG7 λhG8=> ?_;clear hG7;simp only[AQ];refine DF 9 hG8 λt=> ?_;clear hG8;simp only[AQ];refine DF 10 t λX=> ?_;clear t;simp only[AQ];refine tH 11 28 (λ_ _ h g=>g.1 h) X λJ=> ?_;clear X;simp only[AQ];refine DF 12 J λQ=> ?_;clear J;simp only[AQ];refine DF 13 Q λK=> ?_;clear Q;simp only[AQ];refine DF 15 K λV=> ?_;clear K;simp only[AQ];refine DF 16 V λG=> ?_;clear V;simp only[AQ];refine DF 17 G λY=> ?_;clear G;simp only[AQ];refine tH 18 28 (λ_ _ h g=>g.1 h) Y λM=> ?_;clear Y;simp only[AQ];refine DF 19 M λC=> ?_;clear M;simp only[AQ];refine DF 20 C λU=> ?_;clear C;simp only[AQ];refine tH 21 28 (λ_ _ h g=>g.1 h) U λL=> ?_;clear U;simp only[AQ];refine DF 22 L λD=> ?_;clear L;simp only[AQ];refine DF 23 D λR=> ?_;clear D;simp only[AQ];refine DF 24 R λhG23=> ?_;clear R;simp only[AQ];refine Bb (i:=4) (by decide+kernel) rfl (λy d=> ?_);go_simp;refine d.o _ _ ⟨λ_=>HC1.o,λ_=>trivial,λ_=>trivial⟩ (λt=> ?_);clear d y t hG23;refine Bb (i:=14) (by decide+kernel) rfl (λy d=> ?_);refine Cr _ rfl (.tmp 11) (.tmp 20) rfl O w.heap.size (.slice (some ⟨w.heap.size,0,none⟩) 0 0) [] rfl HE.o (some ⟨b,a,none⟩) l1.length f l1 rfl rfl (HR1.o _ HB0.o) (by simp;omega) (by simp) ?_;intro a1 c1 l m hg1 N;obtain⟨hb1,hc1⟩:=HB1.o l hg1;simp only[BY]at m N|-;have HO1:=AA m;have Hb1:=AA hb1;refine d.o _ _ ⟨λ_=>hc1,λ_=>trivial,λ_=>trivial⟩ (λt=> ?_);clear d y t hg1 N m hb1;refine Bb (i:=25) (by decide+kernel) rfl (λy d=> ?_);refine Cr _ rfl (.tmp 21) (.tmp 31) rfl O w.heap.size (.slice a1 l1.length c1) l1 rfl HO1.o (some ⟨b,a+(l1.length+1),none⟩) ((F.kids p).length-(l1.length+1)) (f-(l1.length+1)) l2 HL2.o rfl (HR2.o _ Hb1.o) (by have:=HL3.o;omega) Hb1.o.size ?_;intro a2 c2 n T hg2 hat2;obtain⟨c,A,hf2,hf6,hc6⟩:=HB2.o l n Hb1.o HO1.o hg2;have HO2:=AA T;have Hb2:=AA c;refine d.o _ _ ⟨λ_=>A,λ_=>trivial,λ_=>trivial⟩ (λt=> ?_);clear d y t hg2 hat2 T c;refine Bb (i:=26) (by decide+kernel) rfl (λy d=> ?_);go_simp;refine d.o _ _ ⟨λ_=>A,λ_=>trivial,λ_=>trivial⟩ (λt=> ?_);clear d y t;refine Bb (i:=27) (by decide+kernel) rfl (λy d=> ?_);go_simp;refine d.o _ _ ⟨λ_=>A,λ_=>trivial,λ_=>trivial⟩ (λt=> ?_);clear d y t;refine Bb (i:=28) (by decide+kernel) rfl (λy d=> ?_);obtain⟨hc26,hc27⟩:=A;go_simp;refine d.o _ _ ⟨λh=>absurd h (by decide),λh=>absurd h (by decide),λh=>absurd h (by decide)⟩ (λt=> ?_);clear d y t;refine D_ (by decide+kernel) ?_ _;obtain⟨c6z,f6z⟩:=HZ.o n (.slice a2 (l1++l2).length c2) hc26 hf6;have eL:(l1++l2).length=l1.length+l2.length:=AN;rw[eL]at c6z f6z;clear eL;go_wp2_with fail
 go_end0;have:=HF.o n a2 c2 Hb2.o HO2.o;rw[AN]at this;exact⟨rfl,this.1,this.2⟩
theorem Xw(o:F.Ok S u)(h:Ct F S H P B O w)(hBw:B<=w.heap.size)(i p:Nat)(hp:F.par i=some p)(l1 l2:List Nat)(hk:F.kids p=l1++i::l2)(hlen:(F.kids p).length<=100000)
 (ka:Option Ai)(A:Nat)(c7:w.cell? ⟨O p,7,none⟩=some (.slice ka (F.kids p).length A))(hkc:(F.kids p).length<=A)(N:w.ownsRow B 57 1 (.slice ka (F.kids p).length A) (F.kids p).length (Ad O (F.kids p)))(hcap:A=l1.length+1):
 AX AC 39 #[.pointer (some ⟨O i,0,none⟩)] w (N5 F S H P B O i w):=by
 have HP:=AA (Ed o h i p hp l1 l2 hk hlen);obtain⟨x,z⟩:=o.dom p i hp;have hpi:p≠i:=λe=>by have:=o.ht p i hp;rw[e]at this;omega
 have hne:O p≠O i:=λe=>hpi (h.inj p i x z e);obtain⟨if_,c6,-⟩:=h.cells z;obtain⟨pf,-⟩:=h.cells x;rw[hp]at c6;simp only[Au,As]at c6;obtain⟨_,_,hv,_,hrs⟩:=B6.own N;cases hv
 have hkl:(F.kids p).length=l1.length+l2.length+1:=by rw[hk];simp;omega
 obtain⟨b,n,rfl,hbB,hc⟩:=hrs.at_ (by rw[AM];omega);have hlp:=h.lt x;have hli:=h.lt z;have hnd:=o.nodup p;have HL2:Hid ((F.kids p).length-(l1.length+1)=l2.length):=by unfold Hid;omega
 have HL3:Hid (l1.length+l2.length<=100000):=by unfold Hid;omega
 have y:AL w.heap.size w (w.alloc (.cells #[] 57)).drew:=((AW _ _).alloc (AG _) _).drew;have HB0:=AA y;have HE:Hid ((w.alloc (.cells #[] 57)).drew.ownsRow w.heap.size 57 1 (.slice (some ⟨w.heap.size,0,none⟩) 0 0) 0 []):=JM w 57;have HR1:Hid (∀W,AL w.heap.size w W->B6 W W.heap.size (some ⟨b,n,none⟩) (Ad O l1)):=by
  intro W r;rcases BJ l1.length with h0|h0
  .rw[Ag h0];exact .inl rfl
  refine .inr ⟨b,n,rfl,by have:=r.size;omega,λq hq=> ?_⟩;rw[AM]at hq;rw[r.cell (p:=⟨b,_,none⟩) hbB,hc q (by rw[AM];omega),A5 hq,A5 (by omega)];simp only[hk];rw[Cs hq]
 have E:l2=[]:=Ag (by omega);have HL4:Hid (0=l2.length):=by rw[E];rfl
 have HR2:Hid (∀W,B6 W W.heap.size (some ⟨b,n,none⟩) (Ad O l2)):=by
  intro W;rw[E];exact .inl rfl
 have s:∀W,AL w.heap.size w W->W.cell? ⟨O i,6,none⟩=some (.pointer (some ⟨O p,0,none⟩))/\W.cell? ⟨O p,7,none⟩=some (.slice (some ⟨b,n,none⟩) (F.kids p).length A):=λW r=>⟨(r.cell (p:=⟨O i,_,none⟩) hli).trans c6,(r.cell (p:=⟨O p,_,none⟩) hlp).trans c7⟩;have hfz:∀W,AL w.heap.size w W->(∀j,W.frozen? ⟨O p,j,none⟩=false)/\(∀j,W.frozen? ⟨O i,j,none⟩=false):=λW r=>⟨λj=>(Bj (r.block _ hlp)).trans (pf j),λj=>(Bj (r.block _ hli)).trans (if_ j)⟩;have HC1:=AA (s _ y);have HB1:Hid (∀l,(w.alloc (.cells #[] 57)).drew.grownBy l (AO (some ⟨w.heap.size,0,none⟩) 0 0).ownBlock->AL w.heap.size w l/\(l.cell? ⟨O i,6,none⟩=some (.pointer (some ⟨O p,0,none⟩))/\l.cell? ⟨O p,7,none⟩=some (.slice (some ⟨b,n,none⟩) (F.kids p).length A))):=by
  intro l hg;have r:AL w.heap.size w l:=y.grown hg y.size (λk e=>by cases e;exact AG _);exact⟨r,s _ r⟩
 have HB2:Hid (∀l a,AL w.heap.size w l->∀{a1:Option Ai} {c1:Nat},l.ownsRow w.heap.size 57 1 (.slice a1 l1.length c1) l1.length (Ad O l1)->l.grownBy a (AO a1 l1.length c1).ownBlock->AL w.heap.size w a/\(a.cell? ⟨O i,6,none⟩=some (.pointer (some ⟨O p,0,none⟩))/\a.cell? ⟨O p,7,none⟩=some (.slice (some ⟨b,n,none⟩) (F.kids p).length A))/\a.frozen? ⟨O p,7,none⟩=false/\a.frozen? ⟨O i,6,none⟩=false/\True):=by
  intro l a r a1 c1 ho hg;have c:AL w.heap.size w a:=r.grown hg r.size (λk e=>(ho.lt k e).1);exact⟨c,s _ c,(hfz _ c).1 7,(hfz _ c).2 6,trivial⟩
 have HZ:Hid (∀(a:AB) (v:AS),a.cell? ⟨O i,6,none⟩=some (.pointer (some ⟨O p,0,none⟩))->a.frozen? ⟨O i,6,none⟩=false->(a.setCell ⟨O p,7,none⟩ v).cell? ⟨O i,6,none⟩=some (.pointer (some ⟨O p,0,none⟩))/\(a.setCell ⟨O p,7,none⟩ v).frozen? ⟨O i,6,none⟩=false):=by
  intro a v h1 h2;exact⟨by rw[BN _ _ _ _ (by exact hne)];exact h1,by rw[EK];exact h2⟩
 have HF:Hid (∀(a:AB) (a2:Option Ai) (c2:Nat),AL w.heap.size w a->a.ownsRow w.heap.size 57 1 (.slice a2 (l1++l2).length c2) (l1++l2).length (Ad O (l1++l2))->
  Ct (F.cut i) S H P B O ((a.setCell ⟨O p,7,none⟩ (.slice a2 (l1++l2).length c2)).setCell ⟨O i,6,none⟩ (.pointer none))/\Al S O w ((a.setCell ⟨O p,7,none⟩ (.slice a2 (l1++l2).length c2)).setCell ⟨O i,6,none⟩ (.pointer none))):=by
  intro a a2 c2 r ho;have hk1:=((h.up r).Ys x (Bf ho hBw)).Yt z none;have e:(F.Ys p (l1++l2)).Yt i none=F.cut i:=by
   refine Fo.Yv (λq=>rfl) (λq=> ?_);show(if q=p then l1++l2 else F.kids q)=(F.kids q).filter _;by_cases e:q=p
   .rw[AJ e,e,hk,FQ (by rw[<-hk];exact hnd)]
   rw[AI e,CD];intro hm;rw[o.mem,hp]at hm;cases hm;exact e rfl
  rw[e]at hk1;exact⟨hk1,((Al.Yq r).set x 7 _).set z 6 _⟩
 have hl1:l1.length<(F.kids p).length:=by omega
 have hA:l1.length<=A:=by omega
 have hA1:l1.length+1<=A:=by omega
 have hA2:l1.length+1<=(F.kids p).length:=by omega
 have hA3:(0:Int)<=(l1.length:Int)+1:=by omega
 have hA4:((l1.length:Int)+1).toNat=l1.length+1:=by omega
 have hA5:(l1.length:Int)+1<=((F.kids p).length:Int):=by omega
 have hA6:IntKind.i64.wrap ((l1.length:Int)+1)=(l1.length:Int)+1:=IntWalk.i64_in _ (by omega);clear h hp N hrs hk pf if_ hc s hfz y hkl hnd E;subst hcap;have hX:(l1.length:Int)<=(l1.length:Int)+1:=by omega
 go_enter func39,ntmps39;go_wp2_with fail;refine HP.o.mono ?_;rintro e l ⟨rfl,rfl⟩;go_wp2_with fail;refine D' (G3 28 28 28 (λw'=>w'.cell? ⟨O i,6,none⟩=some (.pointer (some ⟨O p,0,none⟩))/\w'.cell? ⟨O p,7,none⟩=some (.slice (some ⟨b,n,none⟩) (F.kids p).length (l1.length+1))) (λ_=>True) (λ_=>True)) (by kernel_rfl) ?_;have hG0:G3 28 28 28 (λw'=>w'.cell? ⟨O i,6,none⟩=some (.pointer (some ⟨O p,0,none⟩))/\w'.cell? ⟨O p,7,none⟩=some (.slice (some ⟨b,n,none⟩) (F.kids p).length (l1.length+1))) (λ_=>True) (λ_=>True) (Array.replicate 29 false) w.drew:=⟨λ_=>⟨c6,c7⟩,λ_=>trivial,λ_=>trivial⟩;refine DF 0 hG0 λhG1=> ?_;clear hG0;simp only[AQ,Cx];refine DF 1 hG1 λhG2=> ?_;clear hG1;simp only[AQ];refine DF 2 hG2 λhG3=> ?_;clear hG2;simp only[AQ];refine tH 3 28 (λ_ _ h g=>g.1 h) hG3 λhG4=> ?_;clear hG3;simp only[AQ];refine DF 5 hG4 λhG5=> ?_;clear hG4;simp only[AQ];refine DF 6 hG5 λhG6=> ?_;clear hG5;simp only[AQ];refine DF 7 hG6 λhG7=> ?_;clear hG6;simp only[AQ];refine tH 8 28 (λ_ _ h g=>g.1 h) hG7 λhG8=> ?_;clear hG7;simp only[AQ];refine DF 9 hG8 λt=> ?_;clear hG8;simp only[AQ];refine DF 10 t λZ=> ?_;clear t;simp only[AQ];refine tH 11 28 (λ_ _ h g=>g.1 h) Z λX=> ?_;clear Z;simp only[AQ];refine DF 12 X λJ=> ?_;clear X;simp only[AQ];refine DF 13 J λQ=> ?_;clear J;simp only[AQ];refine DF 15 Q λK=> ?_;clear Q;simp only[AQ];refine DF 16 K λV=> ?_;clear K;simp only[AQ];refine DF 17 V λG=> ?_;clear V;simp only[AQ];refine tH 18 28 (λ_ _ h g=>g.1 h) G λY=> ?_;clear G;simp only[AQ];refine DF 19 Y λM=> ?_;clear Y;simp only[AQ];refine DF 20 M λC=> ?_;clear M;simp only[AQ];refine tH 21 28 (λ_ _ h g=>g.1 h) C λU=> ?_;clear C;simp only[AQ];refine DF 22 U λL=> ?_;clear U;simp only[AQ];refine DF 23 L λD=> ?_;clear L;simp only[AQ];refine DF 24 D λhG23=> ?_;clear D;simp only[AQ];refine Bb (i:=4) (by decide+kernel) rfl (λf d=> ?_);go_simp;refine d.o _ _ ⟨λ_=>HC1.o,λ_=>trivial,λ_=>trivial⟩ (λt=> ?_);clear d f t hG23;refine Bb (i:=14) (by decide+kernel) rfl (λf d=> ?_);refine Cr _ rfl (.tmp 11) (.tmp 20) rfl O w.heap.size (.slice (some ⟨w.heap.size,0,none⟩) 0 0) [] rfl HE.o (some ⟨b,n,none⟩) l1.length (l1.length+1) l1 rfl rfl (HR1.o _ HB0.o) (by simp;omega) (by simp) ?_;intro a1 c1 l m hg1 R;obtain⟨hb1,hc1⟩:=HB1.o l hg1;simp only[BY]at m R|-;have HO1:=AA m;have Hb1:=AA hb1;refine d.o _ _ ⟨λ_=>hc1,λ_=>trivial,λ_=>trivial⟩ (λt=> ?_);clear d f t hg1 R m hb1;refine Bb (i:=25) (by decide+kernel) rfl (λf d=> ?_);refine Cr _ rfl (.tmp 21) (.tmp 31) rfl O w.heap.size (.slice a1 l1.length c1) l1 rfl HO1.o (some ⟨b,n,none⟩) 0 0 l2 HL4.o rfl (HR2.o _) (by have:=HL3.o;omega) Hb1.o.size ?_;intro a2 c2 a T hg2 hat2;obtain⟨c,I,hf2,hf6,hc6⟩:=HB2.o l a Hb1.o HO1.o hg2;have HO2:=AA T;have Hb2:=AA c;refine d.o _ _ ⟨λ_=>I,λ_=>trivial,λ_=>trivial⟩ (λt=> ?_);clear d f t hg2 hat2 T c;refine Bb (i:=26) (by decide+kernel) rfl (λf d=> ?_);go_simp;refine d.o _ _ ⟨λ_=>I,λ_=>trivial,λ_=>trivial⟩ (λt=> ?_);clear d f t;refine Bb (i:=27) (by decide+kernel) rfl (λf d=> ?_);go_simp;refine d.o _ _ ⟨λ_=>I,λ_=>trivial,λ_=>trivial⟩ (λt=> ?_);clear d f t;refine Bb (i:=28) (by decide+kernel) rfl (λf d=> ?_);obtain⟨hc26,hc27⟩:=I;go_simp;refine d.o _ _ ⟨λh=>absurd h (by decide),λh=>absurd h (by decide),λh=>absurd h (by decide)⟩ (λt=> ?_);clear d f t;refine D_ (by decide+kernel) ?_ _;obtain⟨c6z,f6z⟩:=HZ.o a (.slice a2 (l1++l2).length c2) hc26 hf6;have eL:(l1++l2).length=l1.length+l2.length:=AN;rw[eL]at c6z f6z;clear eL;go_wp2_with fail
 go_end0;have:=HF.o a a2 c2 Hb2.o HO2.o;rw[AN]at this;exact⟨rfl,this.1,this.2⟩
theorem L3(o:F.Ok S u)(h:Ct F S H P B O w)(r:B<=w.heap.size)(i:Nat)(y:S i)(a:∀p,(F.kids p).length<=100000):
 AX AC 39 #[.pointer (some ⟨O i,0,none⟩)] w (N5 F S H P B O i w):=by
 cases s:F.par i with
 |none=>
  have g:=AA (Jw h i y s);have v:=AA (Fo.Y0 o s);have b:=AA h;clear h s r;go_enter func39,ntmps39;go_wp2_with fail;refine g.o.mono ?_;rintro e k ⟨rfl,rfl⟩;go_wp2_with fail
  go_end0;exact⟨rfl,by rw[v.o];exact b.o,Al.refl _ _ _⟩
 |some p=>
  obtain⟨l1,l2,m⟩:=D3 ((o.mem p i).2 s);obtain⟨-,-,-,c,l,f,d,t⟩:=h.cells (o.dom p i s).1;by_cases n:l=l1.length+1
  .exact Xw o h r i p s l1 l2 m (a p) c l f d t n
  exact Xx o h r i p s l1 l2 m (a p) c l f d t n
structure Ik(n:Nat)(l:List Int)(ms:List Nat):Prop where
 eq:l=Oq ms
 rng:∀m∈ms,1<=m/\m<n
 nodup:ms.Nodup
def VO(n:Nat)(kb:Nat->Nat)(l:List Int)(w:AB)(e:Bx)(w':AB):Prop:=
 ∃a c m b,e= .returned (.tuple #[.slice a m c,.bool b])/\(b=true->∃t,Ik n l t/\m=t.length/\w'.ownsRow w.heap.size 57 1 (.slice a m c) m (Ad kb t))/\AL w.heap.size w w'
def TL(n:Nat)(kb:Nat->Nat)(l:List Int)(w:AB)(v x:AS)(wr:AB):Prop:=
 ∃(e:List Nat) (a:Option Ai) (c:Nat),e.length<=l.length/\x= .int .i64 e.length/\v= .slice a e.length c/\Hid (Ik n (l.take e.length) e)/\wr.ownsRow w.heap.size 57 1 (.slice a e.length c) e.length (Ad kb e)/\AL w.heap.size w wr
theorem Pv{l:List Int}{e:List Nat}(h:Ik n (l.take e.length) e)(t:i<e.length)(s:e.length<=l.length):l[i]'(by omega)=(e[i]:Int):=by
 have o:=h.eq;have a:(l.take e.length)[i]'(by rw[At];omega)=(Oq e)[i]'(by rw[Jz];exact t):=by simp only[o]
 rw[XW t]at a;rw[<-a,F_]
theorem LR(n D g fc:Nat)(kb:Nat->Nat)(hn:n<=200)(w:AB)(hf:w.cell? ⟨D,0,none⟩=some (.slice (some ⟨g,0,none⟩) n fc))(P:∀j,j<n->w.cell? ⟨g,j,none⟩=some (.pointer (some ⟨kb j,0,none⟩)))(ad:Option Ai)(c:Nat)(l:List Int)(hl:l.length<=2147483647)(hi:Kj w w.heap.size ad l):
 AX AC 37 #[.pointer (some ⟨D,0,none⟩),.slice ad l.length c] w (VO n kb l w):=by
 have H:=AA P;have HI:=AA hi;have et:=Bn w _ hf;have HF:=AA hf;clear P hi hf;go_enter func37,ntmps37;go_wp2;go_loopw [6,7] (λv x wr=>TL n kb l w v x wr) (λ_ x _=>l.length-(Aa x).toNat)
 .exact⟨[],none,0,by simp,rfl,rfl,⟨by simp[Oq],by simp,List.nodup_nil⟩,Aw _ _ _ _,AW _ _⟩
 obtain⟨t,a1,c1,hml,rfl,rfl,I,S,W⟩:=hrel;obtain⟨i,L⟩:∃i,i=t.length:=⟨_,rfl⟩;have hMn:t.length<=n:=by
  refine BH I.o.nodup (λx hx=>(I.o.rng x hx).2)
 by_cases f:t.length<l.length
 .obtain⟨b,o,rfl,U,hc⟩:=HI.o.at_ (by omega);have ea:∀q (F:q<l.length),wr.cell? ⟨b,o+q,none⟩=some (.int .i64 l[q]):=λq F=>(W.cell (p:=⟨b,o+q,none⟩) U).trans (hc q F);have HCw:=AA ea;obtain⟨z,J⟩:∃z,z=l[t.length]:=⟨_,rfl⟩;have Q:=ea t.length f;rw[<-J]at Q;have HZ:Hid (l[i]? =some z):=by unfold Hid;rw[L,AK f,J]
  have hwz:=HI.o.rng z (by rw[J];exact AD _);have f0:=(W.cell (p:=⟨D,0,none⟩) et).trans HF.o;have hbw:b<wr.heap.size:=by have:=W.size;omega
  have hfw:D<wr.heap.size:=by have:=W.size;omega
  have hgw:n=0\/g<wr.heap.size:=by
   rcases BJ n with e|e
   .exact .inl e
   have:g<w.heap.size:=Bn w _ (H.o 0 e);have:=W.size;exact .inr (by omega)
  have HOwn:=AA S;have HB:=AA W;rw[<-L]at f Q hml hMn|-;have E:=AA L;clear ea hc S W L J;by_cases h1:z<1
  .have hd:decide (z<1)=true:=by simpa using h1
   go_wp2_with fail;go_quiet(fail);go_wp2_with fail;go_ret2;exact⟨_,_,_,false,rfl,by simp,BC HB.o _⟩
  have hd:decide (z<1)=false:=by simpa using h1
  by_cases G:(n:Int)<=z
  .go_wp2_with fail;go_quiet(fail);go_wp2_with fail;go_ret2;exact⟨_,_,_,false,rfl,by simp,BC HB.o _⟩
  obtain⟨y,rfl⟩:∃y:Nat,z=(y:Int):=⟨z.toNat,by omega⟩;have Z:y<n:=by omega
  have hy1:1<=y:=by omega
  have HLi:Hid (∀q (F:q<t.length),l[q]? =some ((t[q]:Nat):Int)):=λq F=>by
   have hml2:t.length<=l.length:=by rw[<-E.o];exact hml
   rw[AK (by omega),Pv I.o F hml2]
  have HC2:=AA I.o;have hin:i<=n:=hMn;clear I;go_wp2_with fail;go_quiet(fail);go_wp2_with fail;clear Q f0;have HBq:=AA (BC HB.o nq);have HOq:Hid ((wr.drewN nq).ownsRow w.heap.size 57 1 (.slice a1 t.length c1) t.length (Ad kb t)):=BB HOwn.o (λ_ _ _=>rfl);generalize wr.drewN nq=wq at HBq HOq|-;go_loopw [8] (λx wr=>∃q:Nat,q<=i/\x= .int .i64 q/\Hid (∀r,r<q->t[r]?≠some y)/\AL w.heap.size w wr/\wr.ownsRow w.heap.size 57 1 (.slice a1 t.length c1) t.length (Ad kb t)) (λx _=>i-(Aa x).toNat)
  .exact⟨0,by omega,rfl,(λr hr=>by omega),HBq.o,HOq.o⟩
  obtain⟨q,F,rfl,ee,a,s⟩:=hrel;obtain⟨wi,rfl⟩:∃wi:AB,wi=wr:=⟨_,rfl⟩;have Q:wi.cell? ⟨b,o+i,none⟩=some (.int .i64 (y:Int)):=by
   have h1:=HI.o.at_ (by omega);obtain⟨b',o',eo,_,hc⟩:=h1;cases eo
   have G:=hc i f;have T:=HZ.o;rw[AK f]at T;injection T with T;rw[T]at G;exact(a.cell (p:=⟨b,o+i,none⟩) U).trans G
  by_cases hlk:q<i
  .have hqm:q<t.length:=by rw[<-E.o];exact hlk
   obtain⟨V,X⟩:∃V,V=t[q]:=⟨_,rfl⟩;have lq:wi.cell? ⟨b,o+q,none⟩=some (.int .i64 (V:Int)):=by
    have h1:=HI.o.at_ (by omega);obtain⟨b',o',eo,_,hc⟩:=h1;cases eo
    have hql:q<l.length:=(by omega);have G:=hc q hql;have T:=HLi.o q hqm;rw[AK hql]at T;injection T with T;rw[T,<-X]at G;exact(a.cell (p:=⟨b,o+q,none⟩) U).trans G
   have HZq:Hid (t[q]? =some V):=by unfold Hid;rw[AK hqm,X]
   have HBi:=AA a;have HOi:=AA s;clear X a s;by_cases e:V=y
   .have ez:((V:Int)==(y:Int))=true:=beq_iff_eq.2 (by omega);clear e;go_wp2_with fail;go_quiet(fail);go_wp2_with fail;go_ret2;exact⟨_,_,_,false,rfl,by simp,BC HBi.o _⟩
   have ez:((V:Int)==(y:Int))=false:=CY.2 (by omega);have HNe:Hid (∀r,r<q+1->t[r]?≠some y):=λr hr=>by
    by_cases e2:r=q
    .subst e2;rw[HZq.o];intro e3;injection e3 with e3;exact e e3
    exact ee.o r (by omega)
   clear e;go_wp2_with fail;go_quiet(fail);go_wp2;go_roundw
   .exact⟨q+1,by omega,by go_num,HNe,BC HBi.o _,BB HOi.o (λ_ _ _=>rfl)⟩
   simp[Aa];omega
  have hqe:q=i:=by omega
  have f0:=(a.cell (p:=⟨D,0,none⟩) et).trans HF.o;have hg0:g<w.heap.size:=Bn w _ (H.o y Z);have e0:=(a.cell (p:=⟨g,y,none⟩) hg0).trans (H.o y Z);have A:AL wi.heap.size wi (wi.drew.alloc (.cells #[.pointer (some ⟨kb y,0,none⟩)] 57)):=((AW _ _).drew).alloc (AG _) _;have hx:∀{p:Ai} {v:AS},wi.cell? p=some v->(wi.drew.alloc (.cells #[.pointer (some ⟨kb y,0,none⟩)] 57)).cell? p=some v:=λhp=>(A.cell (Bn wi _ hp)).trans hp;have M:=AA (And.intro (hx f0) (And.intro (hx Q) (hx e0)));have hO1:(wi.drew.alloc (.cells #[.pointer (some ⟨kb y,0,none⟩)] 57)).ownsRow w.heap.size 57 1 (.slice a1 t.length c1) t.length (Ad kb t):=BB s (λb _ G=>A.block b G);have en:Hid ((wi.drew.alloc (.cells #[.pointer (some ⟨kb y,0,none⟩)] 57)).ownsRow w.heap.size 57 1 (.slice a1 i c1) t.length (Ad kb t)):=by rw[E.o];exact hO1
  have HR1:Hid (B6 (wi.drew.alloc (.cells #[.pointer (some ⟨kb y,0,none⟩)] 57)) (wi.drew.alloc (.cells #[.pointer (some ⟨kb y,0,none⟩)] 57)).heap.size (some ⟨wi.heap.size,0,none⟩) (Ad kb [y])):=by
   refine .inr ⟨wi.heap.size,0,rfl,by simp,λq F=> ?_⟩;have e:q=0:=by simp[Ad]at F;omega
   subst e;show World.cell? _ ⟨wi.drew.heap.size,0,none⟩=_;rw[BI];rfl
  have N:AL w.heap.size w (wi.drew.alloc (.cells #[.pointer (some ⟨kb y,0,none⟩)] 57)):=a.trans (A.mono a.size);have HBs:Hid (w.heap.size<=(wi.drew.alloc (.cells #[.pointer (some ⟨kb y,0,none⟩)] 57)).heap.size):=N.size;have HN:Hid (∀O,(wi.drew.alloc (.cells #[.pointer (some ⟨kb y,0,none⟩)] 57)).grownBy O (AO a1 i c1).ownBlock->(O.cell? ⟨D,0,none⟩=some (.slice (some ⟨g,0,none⟩) n fc)/\O.cell? ⟨b,o+i,none⟩=some (.int .i64 (y:Int))/\O.cell? ⟨g,y,none⟩=some (.pointer (some ⟨kb y,0,none⟩)))/\AL w.heap.size w O):=by
   intro O hg;have C:AL w.heap.size w O:=N.grown hg N.size (λk e=>(en.o.lt k e).1);have ei:AL w.heap.size (wi.drew.alloc (.cells #[.pointer (some ⟨kb y,0,none⟩)] 57)) O:=(AW _ _).grown hg N.size (λk e=>(en.o.lt k e).1);exact⟨⟨(ei.cell (p:=⟨D,0,none⟩) et).trans M.o.1,(ei.cell (p:=⟨b,o+i,none⟩) U).trans M.o.2.1,(ei.cell (p:=⟨g,y,none⟩) hg0).trans M.o.2.2⟩,C⟩
  have HC3:Hid (Ik n (l.take (i+1)) (t++[y])):=by
   have I:=HC2.o;rw[<-E.o]at I;have T:=HZ.o;rw[AK f]at T;injection T with T;refine⟨?_,λm hm=> ?_,?_⟩
   .rw[AF f,U3,<-I.eq,T]
   .rcases AV.1 hm with hm|hm
    .exact I.rng m hm
    rw[AP]at hm;subst hm;exact⟨hy1,Z⟩
   rw[BA];refine⟨I.nodup,by simp,λu hu z J e=> ?_⟩;rw[AP]at J;subst J;subst e;obtain⟨r,hr,he⟩:=An hu;exact ee.o r (by rw[hqe,E.o];exact hr) (by rw[AK hr,he])
  have hms:t.length<=200:=by rw[<-E.o];omega
  clear ee a s hx hO1 A N;go_wp2_with fail;refine D' (G3 13 13 13 (λK=>K.cell? ⟨D,0,none⟩=some (.slice (some ⟨g,0,none⟩) n fc)/\K.cell? ⟨b,o+i,none⟩=some (.int .i64 (y:Int))/\K.cell? ⟨g,y,none⟩=some (.pointer (some ⟨kb y,0,none⟩))) (λ_=>True) (λ_=>True)) (by kernel_rfl) ?_;have hG0:G3 13 13 13 (λK=>K.cell? ⟨D,0,none⟩=some (.slice (some ⟨g,0,none⟩) n fc)/\K.cell? ⟨b,o+i,none⟩=some (.int .i64 (y:Int))/\K.cell? ⟨g,y,none⟩=some (.pointer (some ⟨kb y,0,none⟩))) (λ_=>True) (λ_=>True) (Array.replicate 14 false) wi.drew:=⟨λ_=>⟨f0,Q,e0⟩,λ_=>trivial,λ_=>trivial⟩;refine DF 0 hG0 λhG1=> ?_;clear hG0;simp only[AQ,Cx];refine DF 1 hG1 λhG2=> ?_;clear hG1;simp only[AQ];refine DF 2 hG2 λhG3=> ?_;clear hG2;simp only[AQ];refine DF 3 hG3 λhG4=> ?_;clear hG3;simp only[AQ];refine tH 4 13 (λ_ _ h g=>g.1 h) hG4 λhG5=> ?_;clear hG4;simp only[AQ];refine DF 5 hG5 λhG6=> ?_;clear hG5;simp only[AQ];refine DF 6 hG6 λhG7=> ?_;clear hG6;simp only[AQ];refine DF 7 hG7 λhG8=> ?_;clear hG7;simp only[AQ];refine tH 8 13 (λ_ _ h g=>g.1 h) hG8 λd=> ?_;clear hG8;simp only[AQ];refine DF 9 d λB=> ?_;clear d;simp only[AQ];refine tH 10 13 (λ_ _ h g=>g.1 h) B λhG11=> ?_;clear B;simp only[AQ];clear hG11;refine Bb (i:=11) (by decide+kernel) rfl (λK' Y=> ?_);go_simp;refine Y.o _ _ ⟨λ_=>M.o,λ_=>trivial,λ_=>trivial⟩ (λd=> ?_);clear Y K' d;refine Bb (i:=12) (by decide+kernel) rfl (λK' Y=> ?_);refine Cr _ rfl (.tmp 46) (.tmp 57) rfl kb w.heap.size (.slice a1 i c1) t rfl en.o (some ⟨wi.heap.size,0,none⟩) 1 1 [y] rfl rfl HR1.o (by simp;omega) HBs.o ?_;intro a2 c2 O R hg2 hat2;obtain⟨hc2,C⟩:=HN.o O hg2;have HO2:=AA R;have HB2:=AA C;clear R hg2 hat2 C;refine Y.o _ _ ⟨λ_=>hc2,λ_=>trivial,λ_=>trivial⟩ (λd=> ?_);clear Y K' d;refine Bb (i:=13) (by decide+kernel) rfl (λK' Y=> ?_);go_simp;refine Y.o _ _ ⟨λh=>absurd h (by decide),λh=>absurd h (by decide),λh=>absurd h (by decide)⟩ (λd=> ?_);clear Y K' d;refine D_ (by decide+kernel) ?_ _;have HRel:Hid (TL n kb l w (.slice a2 (t++[y]).length c2) (.int .i64 ((i+1:Nat):Int)) O):=by
   have e:(t++[y]).length=i+1:=by rw[AN,<-E.o];rfl
   refine⟨t++[y],a2,c2,by omega,by rw[e],rfl,by rw[e];exact HC3,HO2.o,HB2.o⟩
  clear hc2 f0 Q e0;go_wp2;go_roundw
  .have:=HRel.o;simpa using this
  simp[Aa];omega
 go_wp2_with fail;go_ret2;have e:t.length=l.length:=by omega
 have hC2:=I.o;rw[e,AU]at hC2;exact⟨_,_,_,true,rfl,λ_=>⟨t,hC2,rfl,S⟩,W⟩
theorem Fo.Ok.Yu(o:F.Ok S h){N:Nat}(e:∀i,S i->i<N)(p:Nat):(F.kids p).length<=N:=
 BH (o.nodup p) λx hx=>e x (o.dom p x ((o.mem p x).1 hx)).2
theorem Ct.kind(h:Ct F S H P B O w)(e:S i):w.cell? ⟨O i,1,none⟩=some (.int .i64 (H i).kind):=(h.cells e).2.2.1
theorem J_(t:List Nat)(l:∀m∈t,S m)(I:t.length<=100000)(a:Option Ai)(c:Nat)(w:AB)(y:Ct F S H P B O w)(h:B6 w w.heap.size a (Ad O t)):
 AX AC 40 #[.slice a t.length c] w λe w'=>∃b,e= .returned (.bool b)/\(b=true->∀m∈t,(H m).kind=3)/\w=w':=by
 have z:=AA y;have E:=AA h;have j:=AA l;clear y h l;go_enter func40,ntmps40;go_wp2;go_loopw [3] (λx wr=>∃k:Nat,k<=t.length/\x= .int .i64 k/\Hid (∀i (d:i<t.length),i<k->(H t[i]).kind=3)/\w=wr) (λx _=>t.length-(Aa x).toNat)
 .exact⟨0,by omega,rfl,(λi _ h=>by omega),rfl⟩
 obtain⟨k,N,rfl,n,rfl⟩:=hrel;by_cases s:k<t.length
 .obtain⟨b,o,rfl,A,f⟩:=E.o.at_ (by rw[AM];omega);have g:=f k (by rw[AM];exact s);rw[A5 s]at g;have p:=z.o.kind (j.o t[k] (AD s));obtain⟨m,r⟩:∃m,m=t[k]:=⟨_,rfl⟩;rw[<-r]at g p;have u:=AA r;clear f r;by_cases e:(H m).kind=3
  .have v:((H m).kind !=3)=false:=by rw[e];rfl
   have q:Hid (∀i (d:i<t.length),i<k+1->(H t[i]).kind=3):=λi d T=>by
    by_cases e2:i=k
    .subst e2;rw[<-u.o];exact e
    exact n.o i d (by omega)
   clear e;go_wp2;go_roundw
   .exact⟨k+1,by omega,by go_num,q,by trivial⟩
   simp[Aa];omega
  have v:((H m).kind !=3)=true:=by simpa using e
  clear e;go_wp2;go_ret;exact⟨false,rfl,by simp,rfl⟩
 go_wp2;go_ret;refine⟨true,rfl,λ_ m r=> ?_,rfl⟩;obtain⟨i,d,rfl⟩:=An r;exact n.o i d (by omega)
def B_(F:Fo)(e:List Nat):Fo:=e.foldl Fo.clear F
theorem Jg(F:Fo)(e:List Nat)(m:Nat):B_ F (e++[m])=(B_ F e).clear m:=by simp[B_]
theorem Ir(o:F.Ok S h)(e:List Nat):(B_ F e).Ok S h:=by
 unfold B_;induction e generalizing F with
 |nil=>exact o
 |cons m e t=>exact t (o.clear m)
def Qg(kb:Nat->Nat)(m:Nat)(w:AB):Nat:=match w.cell? ⟨kb m,7,none⟩with|some (.slice _ n _)=>n|_=>0
theorem Ct.Zf(h:Ct F S H P B O w)(e:S i):Qg O i w=(F.kids i).length:=by
 obtain⟨_,_,_,o,a,t,_⟩:=h.cells e;unfold Qg;rw[t]
theorem Dy.own{a b:AB}(h:Dy S Z B a b){e size:Nat}{xs:List AS}(o:a.ownsRow A e size v n xs)(d:∀g,v.ownBlock=some g->g<B)(s:∀i,S i->v.ownBlock≠some (Z i)):b.ownsRow A e size v n xs:=
 Cv o λg t _=>h.block g (d g t) (λi r e=>s i r (by rw[t,e]))
theorem Br.Yw(h:Br F S H B Z V w){e size:Nat}{xs:List AS}(t:w.ownsRow A e size v n xs)(s:e≠101):∀i,S i->v.ownBlock≠some (Z i):=λi a=>by
 obtain⟨_,_,_,o,_⟩:=h.dom.node i a;exact Ax t o s
theorem Br.grown{e:Nat->Dn}(h:Br F S H B Z e w){U:AS}{t n2:Nat}{a:List AS}(i:w.ownsRow t 70 1 U n2 a)(o:w.grownBy N U.ownBlock):Br F S H B Z e N:=
 h.ZE (V:= .slice none 0 0) (DO.ZN o) (Aw w t 41 5) i
def R0(F:Fo)(S:Nat->Prop)(nd:Nat->Nd)(B:Nat)(bl:Nat->Nat)(w:AB)(e:Bx)(w':AB):Prop:=
 ∃g,e= .returned (.pointer (some ⟨g,0,none⟩))/\(∃t,Br F S nd B bl t w')/\Dy S bl w.heap.size w w'
theorem SH(o:F.Ok S u){N:Nat}(hN:N<=1000)(hS:∀i,S i->i<N)(t:List Nat)(hms:∀m∈t,S m)(hml:t.length<=1000)(w:AB)(hP:Br F S H B Z V w)
 (C g:Nat)(doc:Option Ai)(hsel:Fw Z t C g doc w):
 AX AC 90 #[.pointer (some ⟨g,0,none⟩)] w (R0 (B_ F t) S H B Z w):=by
 obtain⟨i0,hinf,hz0,hz1,hz2⟩:=D6 Tryz.ZF;have hmk:=λ(n:Nat) (hn:n<=1000000)=>G8 (P:=AC) 63 70 i0 (.pointer none) underlying63 hinf hz0 .i64 .i64 0 n (by omega) (by rw[hz2];omega) (by omega);have HMk:=AA hmk;obtain⟨a1,c1,X,A,hCg,z,-⟩:=hsel;obtain⟨z0,-,-⟩:=A.cells;have hgl:=A.lt;have HO:=AA o;have HP:=AA hP;have HSb:=AA A;have HOwn:=AA z;have HMs:=AA hms;have HKl:Hid (∀{E:Fo},E.Ok S u->∀p,(E.kids p).length<=1000):=λo' p=>by have:=o'.Yu hS p;omega
 have HRow:Hid (∀W,Dy S Z w.heap.size w W->W.ownsRow C 70 1 (.slice a1 t.length c1) t.length (Ad Z t)):=λW hW=>
  hW.own z (λq hq=>(z.lt q hq).2) (hP.Yw z (by decide))
 have ee:Hid (∀W,Dy S Z w.heap.size w W->DP W g a1 t.length c1 doc X):=λW hW=>by
  refine(hW.block g hgl λi hi e=> ?_).trans A;obtain⟨_,_,_,hh,_⟩:=hP.dom.node i hi;exact CC A hh (by decide) e
 have et:Hid (∀i (hi:i<t.length) W,Dy S Z w.heap.size w W->∃b o,a1=some ⟨b,o,none⟩/\W.cell? ⟨b,o+i,none⟩=some (.pointer (some ⟨Z t[i],0,none⟩))):=λi hi W hW=>by
  obtain⟨_,_,hv,_,hr⟩:=B6.own (HRow.o W hW);cases hv
  obtain⟨b,o,rfl,_,hc⟩:=hr.at_ (by rw[AM];omega);have g1:=hc i (by rw[AM];exact hi);rw[A5 hi]at g1;exact⟨b,o,rfl,g1⟩
 clear o hP A z hms hmk;go_enter func90,ntmps90;go_wp2;go_loopw [3,16] (λv x wr=>∃i cn:Nat,i<=t.length/\x= .int .i64 i/\v= .int .i64 cn/\cn<=i*1000/\wr=w) (λ_ x _=>t.length-(Aa x).toNat)
 .exact⟨0,0,by omega,rfl,rfl,by omega,rfl⟩
 obtain⟨i,cn,hi,rfl,rfl,hcn,rfl⟩:=hrel;by_cases O:i<t.length
 .obtain⟨b,og,rfl,g1⟩:=et.o i O wr (Dy.refl _ _ _ _);have d:=HMs.o t[i] (AD O);obtain⟨m,hm⟩:∃m,m=t[i]:=⟨_,rfl⟩;rw[<-hm]at g1 d;have f1:=(HP.o.dom.cells d).2.2.1;rw[(HP.o.fit m d).fst,List.head?_eq_getElem?]at f1;have hkl:=HKl.o HO.o m;clear hm;go_wp2;go_loopw [3,6] (λv y wi=>∃j:Nat,j<=(F.kids m).length/\y=Au Z ((F.kids m)[j]?)/\v= .int .i64 ((cn+j:Nat):Int)/\wi=wr) (λv _ _=>cn+(F.kids m).length-(Aa v).toNat)
  .exact⟨0,AY _,rfl,rfl,rfl⟩
  obtain⟨j,hj,rfl,rfl,rfl⟩:=hrel;clear f1;by_cases hlj:j<(F.kids m).length
  .obtain⟨y,hy⟩:∃y,y=(F.kids m)[j]:=⟨_,rfl⟩;have hpy:F.par y=some m:=(HO.o.mem m _).1 (by rw[hy];exact AD hlj);have hSy:=(HO.o.dom _ _ hpy).2;have M:(F.kids m)[j]? =some y:=by rw[AK hlj,hy]
   have f4:=(HP.o.dom.cells hSy).2.2.2.2.2.1;have hnx:(V y).nxt=(F.kids m)[j+1]? :=by
    rw[((HP.o.fit y hSy).sib m hpy).2,hy];exact Ju (HO.o.nodup m) hlj
   rw[hnx]at f4;rw[M];simp only[Au,As]at f4|-;obtain⟨nx,D⟩:∃nx:Option Ai,((F.kids m)[j+1]?).map (λq=>(⟨Z q,0,none⟩:Ai))=nx:=⟨_,rfl⟩;rw[D]at f4;have HNx:=AA D;clear hy M hnx D;go_wp2;go_roundw
   .exact⟨j+1,by omega,by rw[<-HNx.o],by go_num,by trivial⟩
   simp[Aa];omega
  have ej:j=(F.kids m).length:=by omega
  subst ej;have M:(F.kids m)[(F.kids m).length]? =none:=by simp
  rw[M];simp only[Au,BF];go_wp2;go_roundw
  .exact⟨i+1,cn+(F.kids m).length,by omega,by go_num,rfl,by omega,by trivial⟩
  simp[Aa];omega
 have e:i=t.length:=by omega
 subst e;obtain⟨r,rfl⟩:∃r:AB,r=wr:=⟨_,rfl⟩;have hmkn:∀w:AB,(Instr.makeSlice 63 (.int .i64 0) (.int .i64 (cn:Int))).run AC w= .ok (.slice (some ⟨w.heap.size,0,none⟩) 0 cn) (w.alloc (.cells (DG #[.pointer none] cn) 70)):=λw=>by
  have h:=HMk.o cn (by omega) w;rw[hz1,Nat.mul_one]at h;exact h
 have hb1:AL r.heap.size r (r.alloc (.cells (DG #[.pointer none] cn) 70)):=Ac;have HB1:=AA hb1;have HRow0:Hid ((r.alloc (.cells (DG #[.pointer none] cn) 70)).ownsRow r.heap.size 70 1 (.slice (some ⟨r.heap.size,0,none⟩) 0 cn) 0 []):=by
  refine⟨rfl,.inr ⟨r.heap.size,cn,_,rfl,AG _,Ah r _,AY _,by unfold maxLen;omega,?_,rfl⟩⟩;show(DG #[.pointer none] cn).size=_;rw[size_madeCells];omega
 obtain⟨z0',-,-⟩:=(ee.o _ (Dy.Yq hb1)).cells;clear hb1;go_wp2;go_loopw [7,40] (λv x wr=>∃(i:Nat) (rs:List Nat) (a:Option Ai) (c m:Nat),i<=t.length/\x= .int .i64 i/\v= .slice a m c/\m=rs.length/\m<=i*1000/\wr.ownsRow r.heap.size 70 1 (.slice a m c) m (Ad Z rs)/\(∃V,Br (B_ F (t.take i)) S H B Z V wr)/\Dy S Z r.heap.size r wr) (λ_ x _=>t.length-(Aa x).toNat)
 .exact⟨0,[],_,_,0,by omega,rfl,rfl,rfl,by omega,HRow0.o,⟨V,HP.o.kept HB1.o⟩,Dy.Yq HB1.o⟩
 clear z0';obtain⟨i,rs,a,c,k,hi,rfl,rfl,Y,hk2,s,⟨st1,T⟩,I⟩:=hrel;subst Y;obtain⟨wa,rfl⟩:∃wa:AB,wa=wr:=⟨_,rfl⟩;by_cases O:i<t.length
 .have hT0:=AA I;obtain⟨b,og,rfl,g1⟩:=et.o i O _ I;have d:=HMs.o t[i] (AD O);have U:Hid (B_ F (t.take (i+1))=(B_ F (t.take i)).clear t[i]):=by rw[Hid,AF O,Jg]
  obtain⟨m,hm⟩:∃m,m=t[i]:=⟨_,rfl⟩;rw[<-hm]at g1 d U;have f1:=(T.dom.cells d).2.2.1;rw[(T.fit m d).fst,List.head?_eq_getElem?]at f1;have hO1:=Ir HO.o (t.take i);have hkl:=HKl.o hO1 m;have HO1:=AA hO1;have HP1:=AA T;have HR1:=AA s;obtain⟨K0,hK0⟩:∃K0,K0=((B_ F (t.take i)).kids m).length:=⟨_,rfl⟩;have HK0:=AA hK0;rw[<-hK0]at hkl;clear hm I T s hO1 hK0;go_wp2_with fail;clear f1;go_loopw [7,10] (λv y wr=>∃(E:Fo) (f:List Nat) (a:Option Ai) (c m':Nat),E.Ok S u/\E.clear m=B_ F (t.take (i+1))/\y=Au Z ((E.kids m)[0]?)/\v= .slice a m' c/\m'=f.length/\m'+(E.kids m).length<=rs.length+K0/\wr.ownsRow r.heap.size 70 1 (.slice a m' c) m' (Ad Z f)/\(∃V,Br E S H B Z V wr)/\Dy S Z r.heap.size r wr) (λv _ _=>rs.length+K0-RZ v)
  .exact⟨_,rs,_,_,_,HO1.o,U.o.symm,rfl,rfl,rfl,by rw[HK0.o];exact AG _,HR1.o,⟨st1,HP1.o⟩,hT0.o⟩
  obtain⟨E,f,a',c',m',l,R,rfl,rfl,hm',hle,s,⟨st',Q⟩,I⟩:=hrel;subst hm';obtain⟨wi,rfl⟩:∃wi:AB,wi=wr:=⟨_,rfl⟩;have HO':=AA l;have HP':=AA Q;have HCl:=AA R;have HT:=AA I;have HR:=AA s;have hwi:r.heap.size<=wi.heap.size:=I.size;cases Y:E.kids m with
  |nil=>
   have HD:Hid (E=B_ F (t.take (i+1))):=by rw[Hid,<-R,Fo.ZK l Y]
   have M:([]:List Nat)[0]? =none:=rfl;rw[Y,Ar]at hle;simp only[M,Au,BF];clear l R I Q s Y M;go_wp2;go_roundw
   .exact⟨i+1,f,a',c',_,by omega,by go_num,rfl,rfl,by omega,HR.o,⟨st',by rw[<-HD.o];exact HP'.o⟩,HT.o⟩
   simp[Aa];omega
  |cons x l'=>
   have G:E.par x=some m:=(l.mem m x).1 (by rw[Y];exact Af);have hSx:S x:=(l.dom m x G).2;have hle2:f.length+l'.length+1<=rs.length+K0:=by rw[Y,Ak]at hle;omega
   have HRem:=AA (Ee l wi B Z st' Q m x G);have HFst:Hid ((E.cut x).kids m=l'):=Fo.ZQ l Y;have HCl2:Hid ((E.cut x).clear m=B_ F (t.take (i+1))):=by rw[Hid,<-R];exact Fo.ZR l G
   have M:(x::l')[0]? =some x:=rfl;simp only[M,Au,As];clear l R I Q s Y G M hle;go_wp2_with fail;refine HRem.o.mono ?_;rintro e w3 ⟨rfl,⟨st3,hP3⟩,J⟩;have hr3:=Cv HR.o (w':=w3) (λb hb _=>J.block b (λq hq e=>HP'.o.Yw HR.o (by decide) q hq (by rw[hb,e])));have HR3:=AA (hr3.alloc (.cells #[.pointer (some ⟨Z x,0,none⟩)] 70));have hs3:wi.heap.size<=w3.heap.size:=Nat.le_of_eq J.size.symm;have HP3:=AA hP3;have HO3:=AA J;clear hr3 hP3 J;go_wp2_with(at_builtin;refine Db _ rfl (.tmp 57) (.tmp 59) rfl Z r.heap.size (.slice a' f.length c') f rfl HR3.o (some ⟨w3.heap.size,0,none⟩) 1 1 [x] rfl rfl ?c1 (by simp;omega) (by simp;omega) ?_)
   case c1=>exact Iz w3 Z x
   intro a4 c4 w4 L hg4 hat4;have hbA:AL w3.heap.size w3 (w3.alloc (.cells #[.pointer (some ⟨Z x,0,none⟩)] 70)):=Ac;have K:=(HP3.o.kept hbA).grown HR3.o hg4;have hT4:Dy S Z r.heap.size r w4:=HT.o.trans ((Dy.Y3 HO3.o).trans (Dy.Yq (((AW _ _).alloc (by omega) _).grown hg4 (by simp;omega) (λq hq=>(HR3.o.lt q hq).1))));have f1:=(K.dom.cells d).2.2.1;rw[(K.fit m d).fst,List.head?_eq_getElem?]at f1;have HP4:=AA K;have HT4:=AA hT4;have HR4:=AA L;clear K hT4 L hg4 hat4 hbA;go_wp2;go_roundw
   .refine⟨E.cut x,f++[x],a4,c4,_,HO'.o.cut x,HCl2.o,rfl,rfl,by simp,?_,by simpa using HR4.o,⟨st3,HP4.o⟩,HT4.o⟩;rw[HFst.o];omega
   simp only[RZ];omega
 have e:i=t.length:=by omega
 subst e;rw[AU]at T;have HPe:=AA T;have HTe:=AA I;have HSe:=AA (ee.o _ I);have hwa:r.heap.size<=wa.heap.size:=I.size;clear T I s;go_wp2_with fail;refine(KV g a1 t.length c1 doc X a rs.length c wa HSe.o).mono ?_;rintro e w5 ⟨rfl,_,hb5⟩;have HB5:=AA hb5;clear hb5;go_wp2;go_ret;exact⟨_,rfl,⟨st1,HPe.o.kept HB5.o⟩,HTe.o.trans (Dy.Yq (HB5.o.mono hwa))⟩
theorem FB(o:F.Ok S h)(t:∀i,S i->i<n)(hx:S x):(F.all h x).length<=n:=
 BH (F.Y9 o _ x (AG _)) (λy e=>t y (o.Y5 hx e))
theorem Th{b:ByteArray}(h:b.size=0):b=⟨#[]⟩:=by
 cases b with|mk d=>have:d.size=0:=h;rw[Array.eq_empty_of_size_eq_zero this]
theorem Uc(s:CQ t)(a:i<t.length):G' (ND t i):=by
 have e:ND t i=t[i]:=Do a;have n:=s.node i a;rw[e];refine⟨?_,λh=>Th (n.text h),λh=>⟨Th (n.tag h).1,Ag (n.tag h).2⟩,?_⟩
 .rcases n.kinds with h|h|h|h
  .exact .inl h.1
  .exact .inr (.inl h.1)
  .exact .inr (.inr (.inr (.inr h.1)))
  rcases h.1 with h|h
  .exact .inr (.inr (.inl h))
  exact .inr (.inr (.inr (.inl h)))
 by_cases o:t[i].kind=3
 .rcases n.kinds with h|h|h|h
  .omega
  .omega
  .have:=h.2.len;omega
  omega
 have:=(n.tag o).2;omega
theorem Jm.prog(o:CQ t){L:Nat}(h:Jm t w B L Z V):Br (Oo t) (λi=>i<t.length) (ND t) B Z V w:=
 ⟨h.dom,λi a=>Vt o h.kin i a,λi a=>by
  have e:ND t i=t[i]:=Do a;rw[e];exact(h.kin i a).2⟩
theorem Tu{L:List Nat}{t:List Nd}(u:t.map Cj=L.map (D4 F h H))(c:∀y∈L,Kk (H y)/\(F.all h y).length<=100000)(l:∀e∈t,Ja B w e):∀e∈t,e.Ok w w.heap.size:=by
 intro e o;have i:Cj e∈t.map Cj:=List.mem_map_of_mem o;rw[u]at i;obtain⟨y,d,e1⟩:=List.mem_map.1 i;obtain⟨b,m⟩:=c y d;have r:(H y).kind=e.kind:=show(D4 F h H y).kind=(Cj e).kind by rw[e1]
 have s:(H y).tag=e.tag:=show(D4 F h H y).tag=(Cj e).tag by rw[e1]
 have n:(H y).text=e.text:=show(D4 F h H y).text=(Cj e).text by rw[e1]
 have a:(H y).attrs=e.attrs:=show(D4 F h H y).attrs=(Cj e).attrs by rw[e1]
 have k5:((F.all h y).length:Int)=e.size:=show(D4 F h H y).size=(Cj e).size by rw[e1]
 refine⟨?_,⟨by omega,by omega⟩,?_,?_,ML (l e o) ?_ ?_⟩
 .rw[<-r];exact b.kind
 .rw[<-s];exact b.tag
 .rw[<-n];exact b.text
 .rw[<-a];exact b.len
 rw[<-a];exact b.ats
def Ov(F:Fo)(h:Nat->Nat)(nd:Nat->Nd)(n:Nat)(w:AB)(e:Bx)(w':AB):Prop:=
 ∃a m c o t c2,e= .returned (.tuple #[.slice a m c,.slice o t c2])/\Xn F h nd n a m o t w'/\AL w.heap.size w w'
theorem Tt(o:F.Ok S h)(z:∀i,S i->G' (H i))(E:∀i,S i->Kk (H i))(r:0<n)(hn:n<=200)(N:∀i,i<n->S i)(t:(F.all h 0).length<=100000)
 (w:AB)(W:Br F S H B Z V w)(k L g0:Nat)(U:QH w k L n g0)(Y:∀j,j<n->w.cell? ⟨L,j,none⟩=some (.pointer (some ⟨Z j,0,none⟩))):
 AX AC 27 #[.pointer (some ⟨k,0,none⟩)] w (Ov F h H n w):=by
 have ee:=AA (Nx o z w.heap.size (h 0+1) 0 (.slice none 0 0) (.slice none 0 0) [] [] w (by omega) (N 0 r) W (AG _) (Aw _ _ _ _) (Aw _ _ _ _) (by simpa using t) (by simpa using t) ⟨_,_,rfl⟩ ⟨_,_,rfl⟩);have z0:w.cell? ⟨k,0,none⟩=some (.slice (some ⟨L,0,none⟩) n n):=AZ w k 0 _ _ _ U;have K:k<w.heap.size:=(AE.1 U).1;have g1:=Y 0 r;have X:L<w.heap.size:=Bn w _ g1;have HP:=AA W;have HO:=AA o;have HL:=AA Y;have f:Hid (∀y∈F.all h 0,S y):=λy I=>o.Y5 (N 0 r) I;have HS:=AA N;have eo:=AA E;clear W o Y U N E z;go_enter func27,ntmps27;go_wp2_with fail;refine ee.o.mono ?_;rintro e q ⟨R,a,c,a2,c2,rfl,d,g,C,M,-,-,hT⟩;simp only[BY]at d g C M|-;have s:AL w.heap.size w q:=hT.below (AG _) (by intro x hx;simp[A6]at hx) (by intro x hx;simp[A6]at hx);have v:(BV n).length=n:=D7;have et:Hid (AX AC 52 #[.slice a2 (F.all h 0).length c2,.slice (some ⟨L,0,none⟩) n n] q (J6 (F.all h 0) (BV n) q)):=by
  obtain⟨_,_,D,_,hr⟩:=B6.own M;cases D
  have h5:B6 q q.heap.size (some ⟨L,0,none⟩) (Ad Z (BV n)):=by
   refine .inr ⟨L,0,rfl,by have:=s.size;omega,λi hi=> ?_⟩;have P:i<n:=by simpa [Ad]using hi
   rw[By,s.cell (p:=⟨L,i,none⟩) X,HL.o i P];simp[Ad]
  have:=OX (HP.o.kept s).dom (F.all h 0) f.o t a2 c2 hr (BV n) (λm hm=>HS.o m (List.mem_range.1 hm)) (by rw[v];omega) (some ⟨L,0,none⟩) n h5;rw[v]at this;exact this
 replace z0:=(s.cell (p:=⟨k,0,none⟩) K).trans z0;have en:=AA s;have HV:=AA C;have A:=AA d;have ea:=AA g;have T:R.length=(F.all h 0).length:=by have:=congrArg Dw d;simpa using this
 have ei:=AA T;clear s C M d g hT g1 v T;go_wp2_with fail;refine et.o.mono ?_;rintro e w2 ⟨a5,c5,rfl,u,l⟩;have O:Hid (Ov F h H n w (.returned (.tuple #[.slice a R.length c,.slice a5 (BV n).length c5])) w2):=by
  have Q:=BB HV.o (λb _ G=>l.block b G);have J:∀e∈R,Ja w.heap.size w2 e:=λe he=>BB (ea.o e he) (λb _ G=>l.block b G);obtain⟨_,_,D,_,hr⟩:=B6.own u;cases D
  refine⟨_,_,_,_,_,_,rfl,⟨⟨R,rfl,KP Q (by have:=ei.o;unfold maxLen;omega) (Tu A.o (λy I=>⟨eo.o y (f.o y I),AH (LK HO.o _ (AG _) I) t⟩) J),A.o⟩,D7,hr⟩,BT en.o l⟩
 clear u l;go_wp2_with fail;go_ret2;have:=O.o;simpa using this
open Classical in
noncomputable def NB(S:Nat->Prop)(kb:Nat->Nat)(h:Nat->Nat)(v:AS):Nat:=if e:∃y,S y/\v= .pointer (some ⟨kb y,0,none⟩)then h (Classical.choose e)+1 else 0
theorem Jo(inj:∀i j,S i->S j->O i=O j->i=j)(h:Nat->Nat){y:Nat}(a:S y):NB S O h (.pointer (some ⟨O y,0,none⟩))=h y+1:=by
 have t:∃z,S z/\Value.pointer (some ⟨O y,0,none⟩)= .pointer (some ⟨O z,0,none⟩):=⟨y,a,rfl⟩;unfold NB;rw[dif_pos t];obtain⟨d,r⟩:=Classical.choose_spec t;have e:O (Classical.choose t)=O y:=by injection r with s;injection s with n;injection n with o;exact o.symm
 rw[inj _ _ d a e]
theorem OO(h:Nat->Nat):∀n:Nat,∃M,∀y,y<n->h y<=M:=by
 intro n;induction n with
 |zero=>exact⟨0,λy a=>by omega⟩
 |succ n t=>
  obtain⟨M,o⟩:=t;refine⟨M+h n,λy a=> ?_⟩;by_cases e:y=n
  .subst e;omega
  have:=o y (by omega);omega
theorem ON(S:Nat->Prop)(kb:Nat->Nat)(h:Nat->Nat):NB S kb h (.pointer none)=0:=by
 unfold NB;rw[dif_neg];rintro⟨y,_,e⟩;cases e
open Classical in
noncomputable def Fo.Zc(F:Fo)(k x:Nat):Bool:=decide (F.Up k x)
theorem Fo.ZV(u:F.Up k x):F.Zc k x=true:=by simp[Fo.Zc,u]
theorem Fo.Zn(u:¬F.Up k x):F.Zc k x=false:=by simp[Fo.Zc,u]
theorem Fo.ZS(h:F.Zc k x=false):¬F.Up k x:=λu=>by rw[Fo.ZV u]at h;cases h
theorem Ku{ht:Nat->Nat}(o:F.Ok S ht)(l:Ct F S H P B O w)(k x:Nat)(N:S k)(hx:S x)(g:∃M,∀y,S y->ht y<=M):
 AX AC 66 #[.pointer (some ⟨O k,0,none⟩),.pointer (some ⟨O x,0,none⟩)] w λe w'=>e= .returned (.bool (F.Zc k x))/\w'=w:=by
 have L:=AA l;have E:=AA o;have e1:=Kx k O w;have U:=AA (λz t f=>l.other (i:=k) (k:=z) N t f);have I:=AA l.inj;obtain⟨M,j⟩:=g;have b:=AA j;clear l o j;go_enter func66,ntmps66;go_wp2;go_loopw [1] (λv wr=>∃y:Option Nat,v=Au O y/\(∀z,y=some z->S z)/\Hid (F.Up k x↔∃z,y=some z/\F.Up k z)/\w=wr) (λv _=>NB S O (λy=>M-ht y) v)
 .exact⟨some x,rfl,λz t=>by cases t;exact hx,⟨λu=>⟨x,rfl,u⟩,by rintro⟨z,t,u⟩;cases t;exact u⟩,rfl⟩
 obtain⟨y,rfl,q,d,rfl⟩:=hrel;cases y with
 |none=>
  simp only[Au,BF];go_wp2;go_ret;exact⟨by rw[Fo.Zn (λu=>by obtain⟨z,t,_⟩:=d.o.1 u;cases t)];rfl,rfl⟩
 |some y=>
  have m:=q y rfl;simp only[Au,As];by_cases e:y=k
  .subst e;go_wp2;go_ret;exact⟨by rw[Fo.ZV (d.o.2 ⟨y,rfl,.self⟩)];rfl,rfl⟩
  have e2:=U.o y m e;obtain⟨-,c,-⟩:=L.o.cells m;have T:Hid (F.Up k x↔∃z,F.par y=some z/\F.Up k z):=⟨λu=>by
   obtain⟨z,t,u2⟩:=d.o.1 u;cases t
   cases u2 with
   |self=>exact absurd rfl e
   |step D R=>exact⟨_,D,R⟩,λ⟨z,t,u⟩=>d.o.2 ⟨y,rfl,.step t u⟩⟩
  have h:Hid (∀z,F.par y=some z->S z/\ht y<ht z):=λz t=>⟨(E.o.dom _ _ t).1,E.o.ht _ _ t⟩;have A:Hid (NB S O (λy=>M-ht y) (Au O (some y))=M-ht y+1):=Jo I.o (λy=>M-ht y) m;clear q e d;cases n:F.par y with
  |none=>
   rw[n]at c;have r:Hid (NB S O (λy=>M-ht y) (Au O none)=0):=ON S O (λy=>M-ht y);simp only[Au,BF]at c;have a:=T;rw[n]at a;clear h n;go_wp2;go_roundw
   .exact⟨none,rfl,λz t=>by(cases t),a,by trivial⟩
   have:=A.o;have:=r.o;simp only[Au,As,BF]at*;omega
  |some p=>
   obtain⟨s,C⟩:=h.o p n;rw[n]at c;have r:Hid (NB S O (λy=>M-ht y) (Au O (some p))=M-ht p+1):=Jo I.o (λy=>M-ht y) s;simp only[Au,As]at c;have a:=T;rw[n]at a;clear h n;go_wp2;go_roundw
   .exact⟨some p,rfl,λz t=>by(cases t;exact s),a,by trivial⟩
   have:=A.o;have:=r.o;have:=b.o p s;simp only[Au,As]at*;omega
theorem Ct.ZG(h:Ct F S H P B O w)(e:S i):w.cell? ⟨O i,6,none⟩=some (Au O (F.par i)):=(h.cells e).2.1
theorem JT(t:List Nat)(f:∀m∈t,S m)(N:t.length<=100000)(a:Option Ai)(c:Nat)(w:AB)(v:Ct F S H P B O w)(h:B6 w w.heap.size a (Ad O t)):
 AX AC 60 #[.slice a t.length c] w λe w'=>∃b,e= .returned (.bool b)/\(b=true->∀m∈t,F.par m≠none)/\w=w':=by
 have E:=AA v;have T:=AA h;have z:=AA f;clear v h f;go_enter func60,ntmps60;go_wp2;go_loopw [3] (λx wr=>∃k:Nat,k<=t.length/\x= .int .i64 k/\Hid (∀i (l:i<t.length),i<k->F.par t[i]≠none)/\w=wr) (λx _=>t.length-(Aa x).toNat)
 .exact⟨0,by omega,rfl,(λi _ h=>by omega),rfl⟩
 obtain⟨k,R,rfl,n,rfl⟩:=hrel;by_cases s:k<t.length
 .obtain⟨b,o,rfl,I,g⟩:=T.o.at_ (by rw[AM];omega);have q:=g k (by rw[AM];exact s);rw[A5 s]at q;have u:=E.o.ZG (z.o t[k] (AD s));obtain⟨m,d⟩:∃m,m=t[k]:=⟨_,rfl⟩;rw[<-d]at q u;have y:=AA d;clear g d;cases r:F.par m with
  |some p=>
   rw[r]at u;simp only[Au,As]at u;have j:Hid (∀i (l:i<t.length),i<k+1->F.par t[i]≠none):=λi l A=>by
    by_cases e2:i=k
    .subst e2;rw[<-y.o,r];simp
    exact n.o i l (by omega)
   clear r;go_wp2;go_roundw
   .exact⟨k+1,by omega,by go_num,j,by trivial⟩
   simp[Aa];omega
  |none=>
   rw[r]at u;simp only[Au,BF]at u;clear r;go_wp2;go_ret;exact⟨false,rfl,by simp,rfl⟩
 go_wp2;go_ret;refine⟨true,rfl,λ_ m d=> ?_,rfl⟩;obtain⟨i,l,rfl⟩:=An d;exact n.o i l (by omega)
def GB(F:Fo)(ws xs:List Nat):Prop:=(∀i j (t:i<ws.length) (e:j<ws.length),i≠j->¬F.Up ws[i] ws[j])/\∀i j (t:i<ws.length) (e:j<xs.length),¬F.Up ws[i] xs[j]
def L8(F:Fo)(ws:List Nat)(i n:Nat):Prop:=∀(t:i<ws.length) j (e:j<ws.length),j<n->i≠j->¬F.Up ws[i] ws[j]
def VN(F:Fo)(ws xs:List Nat)(i n:Nat):Prop:=∀(t:i<ws.length) j (e:j<xs.length),j<n->¬F.Up ws[i] xs[j]
theorem Fg(o:F.Ok S u)(X:∃M,∀y,S y->u y<=M)(ws xs:List Nat)(J:∀m∈ws,S m)(Q:∀m∈xs,S m)(hl:ws.length<=100000)(hl2:xs.length<=100000)(a:Option Ai)(c:Nat)(a2:Option Ai)(c2:Nat)(w:AB)(hK:Ct F S H P B O w)(h:B6 w w.heap.size a (Ad O ws))(h2:B6 w w.heap.size a2 (Ad O xs)):
 AX AC 59 #[.slice a ws.length c,.slice a2 xs.length c2] w λe w'=>∃b,e= .returned (.bool b)/\(b=true->GB F ws xs)/\AL w.heap.size w w':=by
 have HK:=AA hK;have HH:=AA h;have HH2:=AA h2;have HM:=AA J;have HM2:=AA Q;have HC:Hid (∀W,AL w.heap.size w W->∀k x,S k->S x->AX AC 66 #[.pointer (some ⟨O k,0,none⟩),.pointer (some ⟨O x,0,none⟩)] W λe w'=>e= .returned (.bool (F.Zc k x))/\w'=W):=λW s k x hk hx=>Ku o (hK.up s) k x hk hx X;clear hK h h2 J Q o X;go_enter func59,ntmps59;go_wp2;go_loopw [5] (λx wr=>∃k:Nat,k<=ws.length/\x= .int .i64 k/\Hid (∀i,i<k->L8 F ws i ws.length/\VN F ws xs i xs.length)/\AL w.heap.size w wr) (λx _=>ws.length-(Aa x).toNat)
 .exact⟨0,by omega,rfl,(λi h=>by omega),AW _ _⟩
 obtain⟨k,hk,rfl,p,s⟩:=hrel;obtain⟨W0,rfl⟩:∃W0:AB,W0=wr:=⟨_,rfl⟩;have et:=AA s;clear s;by_cases g:k<ws.length
 .go_wp2;go_loopw [6] (λx wr=>∃j:Nat,j<=ws.length/\x= .int .i64 j/\Hid (L8 F ws k j)/\AL w.heap.size w wr) (λx _=>ws.length-(Aa x).toNat)
  .exact⟨0,by omega,rfl,(λ_ j _ h=>by omega),et.o⟩
  obtain⟨j,D,rfl,v,s⟩:=hrel;have K:=AA s;obtain⟨V,rfl⟩:∃V:AB,V=wr:=⟨_,rfl⟩;by_cases I:j<ws.length
  .obtain⟨b,o,rfl,hbB,L⟩:=(HH.o.up s).at_ (by rw[AM];omega);have Y:=L k (by rw[AM];exact g);have C:=L j (by rw[AM];exact I);rw[A5 g]at Y;rw[A5 I]at C;have t:Hid (∀n,AX AC 66 #[.pointer (some ⟨O ws[k],0,none⟩),.pointer (some ⟨O ws[j],0,none⟩)] (V.drewN n) λe w'=>e= .returned (.bool (F.Zc ws[k] ws[j]))/\w'=V.drewN n):=λn=>HC.o (V.drewN n) (BC K.o n) _ _ (HM.o _ (AD g)) (HM.o _ (AD I));obtain⟨B1,d⟩:∃b,b=F.Zc ws[k] ws[j]:=⟨_,rfl⟩;have N:=AA d;rw[<-d]at t;obtain⟨x,hx⟩:∃x,x=ws[k]:=⟨_,rfl⟩;obtain⟨y,U⟩:∃y,y=ws[j]:=⟨_,rfl⟩;rw[<-hx]at Y t;rw[<-U]at C t;clear L s d hx U;by_cases e:j=k
   .have e1:((j:Int) !=(k:Int))=false:=by simp;omega
    have T:Hid (L8 F ws k (j+1)):=λl q R hqj r=>by
     by_cases e2:q=j
     .omega
     exact v.o l q R (by omega) r
    clear e;go_wp2_with fail;go_quiet(first|(go_at_call 66;exact(t.o _).mono (λ_ _ f=>⟨f.1,_,f.2⟩)));go_wp2;go_roundw
    .exact⟨j+1,by omega,by go_num,T,BC K.o _⟩
    simp[Aa];omega
   have e1:((j:Int) !=(k:Int))=true:=by simp;omega
   cases B1
   .have T:Hid (L8 F ws k (j+1)):=λl q R hqj r=>by
     by_cases e2:q=j
     .subst e2;exact Fo.ZS N.o.symm
     exact v.o l q R (by omega) r
    clear e;go_wp2_with fail;go_quiet(first|(go_at_call 66;exact(t.o _).mono (λ_ _ f=>⟨f.1,_,f.2⟩)));go_wp2;go_roundw
    .exact⟨j+1,by omega,by go_num,T,BC K.o _⟩
    simp[Aa];omega
   clear e;go_wp2_with fail;go_quiet(first|(go_at_call 66;exact(t.o _).mono (λ_ _ f=>⟨f.1,_,f.2⟩)));go_wp2;go_ret;exact⟨false,rfl,by simp,BC K.o _⟩
  have HA:Hid (L8 F ws k ws.length):=λl q R _ r=>v.o l q R (by omega) r;clear s v;go_wp2;go_loopw [7] (λx wr=>∃j:Nat,j<=xs.length/\x= .int .i64 j/\Hid (VN F ws xs k j)/\AL w.heap.size w wr) (λx _=>xs.length-(Aa x).toNat)
  .exact⟨0,by omega,rfl,(λ_ j _ h=>by omega),K.o⟩
  obtain⟨q,R,rfl,ee,s⟩:=hrel;have E:=AA s;obtain⟨G,rfl⟩:∃G:AB,G=wr:=⟨_,rfl⟩;by_cases A:q<xs.length
  .obtain⟨b,o,rfl,hbB,L⟩:=(HH.o.up s).at_ (by rw[AM];omega);have Y:=L k (by rw[AM];exact g);rw[A5 g]at Y;obtain⟨b2,o2,rfl,hbB2,Z⟩:=(HH2.o.up s).at_ (by rw[AM];omega);have C:=Z q (by rw[AM];exact A);rw[A5 A]at C;have t:Hid (∀n,AX AC 66 #[.pointer (some ⟨O ws[k],0,none⟩),.pointer (some ⟨O xs[q],0,none⟩)] (G.drewN n) λe w'=>e= .returned (.bool (F.Zc ws[k] xs[q]))/\w'=G.drewN n):=λn=>HC.o (G.drewN n) (BC E.o n) _ _ (HM.o _ (AD g)) (HM2.o _ (AD A));obtain⟨B1,d⟩:∃b,b=F.Zc ws[k] xs[q]:=⟨_,rfl⟩;have N:=AA d;rw[<-d]at t;obtain⟨x,hx⟩:∃x,x=ws[k]:=⟨_,rfl⟩;obtain⟨y,U⟩:∃y,y=xs[q]:=⟨_,rfl⟩;rw[<-hx]at Y t;rw[<-U]at C t;clear L Z s d hx U;cases B1
   .have T:Hid (VN F ws xs k (q+1)):=λl z hz hzj=>by
     by_cases e2:z=q
     .subst e2;exact Fo.ZS N.o.symm
     exact ee.o l z hz (by omega)
    go_wp2_with fail;go_quiet(first|(go_at_call 66;exact(t.o _).mono (λ_ _ f=>⟨f.1,_,f.2⟩)));go_wp2;go_roundw
    .exact⟨q+1,by omega,by go_num,T,BC E.o _⟩
    simp[Aa];omega
   go_wp2_with fail;go_quiet(first|(go_at_call 66;exact(t.o _).mono (λ_ _ f=>⟨f.1,_,f.2⟩)));go_wp2;go_ret;exact⟨false,rfl,by simp,BC E.o _⟩
  have T:Hid (∀i,i<k+1->L8 F ws i ws.length/\VN F ws xs i xs.length):=λi l=>by
   by_cases e2:i=k
   .subst e2;exact⟨HA.o,λl z hz _=>ee.o l z hz (by omega)⟩
   exact p.o i (by omega)
  clear s;go_wp2;go_roundw
  .exact⟨k+1,by omega,by go_num,T,E.o⟩
  simp[Aa];omega
 go_wp2;go_ret;refine⟨true,rfl,λ_=>⟨λi j l D r=>(p.o i (by omega)).1 l j D D r,λi j l D=>(p.o i (by omega)).2 l j D D⟩,et.o⟩
structure bY where
 F:Fo
 N:Nat
 nd:Nat->Nd
 op:Bool
variable{s:bY}
def Kv(z r:Nat):List Nat->List Nat
 |[]=>[r]
 |a::l=>if a=z then r::a::l else a::Kv z r l
def bY.Yz(s:bY)(p z r:Nat):bY:={s with F:=⟨λi=>if i=r then some p else s.F.par i,λq=>if q=p then Kv z r (s.F.kids q)else s.F.kids q⟩}
def bY.cut(s:bY)(x:Nat):bY:={s with F:=s.F.cut x}
def bY.fresh(s:bY)(x:Nat):bY:={s with N:=s.N+1,nd:=λi=>if i=s.N then s.nd x else s.nd i}
def bY.shut(s:bY):bY:={s with op:=true}
def E0(f:bY->Nat->bY)(c:Nat)(s:bY)(k:Nat):bY:=(f s k).Yz c c s.N
def CZ:Nat->bY->Nat->bY
 |0,s,x=>if 600<=s.N then(s.fresh x).shut else s.fresh x
 |d+1,s,x=>if 600<=s.N then(s.fresh x).shut else(s.F.kids x).foldl (E0 (CZ d) s.N) (s.fresh x)
theorem KJ{z:Nat}:∀{l:List Nat},z∉l->Kv z r l=l++[r]:=by
 intro l;induction l with
 |nil=>intro _;rfl
 |cons a l t=>
  intro h;have n:z≠a:=λe=>h (by rw[e];exact Af);have i:z∉l:=λo=>h (Ab _ o);show(if a=z then _ else _)=_;rw[AI (Ne.symm n),t i];rfl
theorem Vx{z:Nat}{l2:List Nat}:∀{l1:List Nat},z∉l1->Kv z r (l1++z::l2)=l1++r::z::l2:=by
 intro l1;induction l1 with
 |nil=>intro _;show(if z=z then _ else _)=_;rw[AJ rfl];rfl
 |cons a l t=>
  intro h;have n:z≠a:=λe=>h (by rw[e];exact Af);have i:z∉l:=λo=>h (Ab _ o);show(if a=z then _ else _)=_;rw[AI (Ne.symm n)];exact congrArg (a::·) (t i)
theorem NZ(z r:Nat):∀l:List Nat,(Kv z r l).Perm (r::l):=by
 intro l;induction l with
 |nil=>exact List.Perm.refl _
 |cons a l e=>
  show(if a=z then r::a::l else a::Kv z r l).Perm _;split
  .exact List.Perm.refl _
  exact(List.Perm.cons a e).trans (List.Perm.swap r a l)
theorem Uj(s:bY){z:Nat}{l1 l2:List Nat}(o:s.F.kids p=l1++l2)(t:z∉l1)(n:l2=[]\/l2.head? =some z):(s.Yz p z r).F=s.F.put p l1.length r:=by
 refine Fo.Yv (λi=>rfl) (λq=> ?_);show(if q=p then Kv z r (s.F.kids q)else s.F.kids q)=(if q=p then G6 (s.F.kids q) l1.length r else s.F.kids q);by_cases e:q=p
 .subst e;rw[AJ rfl,AJ rfl,o,Dd];cases l2 with
  |nil=>rw[Ey];exact KJ t
  |cons a l2=>
   rcases n with h|h
   .cases h
   have:a=z:=by simpa using h
   subst this;exact Vx t
 rw[AI e,AI e]
open Classical in
theorem FX{q y:Nat}(t:F.par c=some q)(u:F.Up c y):F.Up q y:=by
 induction u with
 |self=>exact .step t .self
 |step a _ e=>exact .step a e
theorem bY.Z4(o:s.F.Ok S h){z:Nat}(hr:s.F.par r=none)(u:S p)(l:S r){i:Nat->Nat}(m:∀q c,s.F.par c=some q->i c<i q)(d:i r<i p):(s.Yz p z r).F.Ok S i:=by
 have t:∀c q,(s.Yz p z r).F.par c=some q->(c=r/\q=p)\/(c≠r/\s.F.par c=some q):=by
  intro c q a;change (if c=r then some p else s.F.par c)=some q at a;by_cases e:c=r
  .rw[AJ e]at a;cases a;exact .inl ⟨e,rfl⟩
  rw[AI e]at a;exact .inr ⟨e,a⟩
 refine⟨λq=> ?_,λq c=> ?_,λq c a=> ?_,λq c a=> ?_⟩
 .show(if q=p then Kv z r (s.F.kids q)else s.F.kids q).Nodup;by_cases e:q=p
  .rw[AJ e];exact(NZ z r _).nodup_iff.2 (B4.2 ⟨o.ZH hr q,o.nodup q⟩)
  rw[AI e];exact o.nodup q
 .show c∈(if q=p then Kv z r (s.F.kids q)else s.F.kids q)↔(if c=r then some p else s.F.par c)=some q;by_cases e:q=p
  .rw[AJ e,(NZ z r _).mem_iff,BQ,o.mem];by_cases e2:c=r
   .simp[e2,e]
   simp[e2]
  rw[AI e,o.mem];by_cases e2:c=r
  .rw[AJ e2,e2,hr];constructor
   .intro q;cases q
   intro q;cases q;exact absurd rfl e
  rw[AI e2]
 .rcases t c q a with⟨rfl,rfl⟩|⟨_,n⟩
  .exact⟨u,l⟩
  exact o.dom q c n
 rcases t c q a with⟨rfl,rfl⟩|⟨_,n⟩
 .exact d
 exact m q c n
structure Ko(s s':bY)(h h':Nat->Nat)(x:Nat):Prop where
 ok:s'.F.Ok (λi=>i<s'.N) h'
 hold:∀y,y<s.N->h' y=h y
 hnew:h' s.N=h x
 lt:s.N<s'.N
 kids:∀y,y<s.N->s'.F.kids y=s.F.kids y
 par:∀y,y<s.N->s'.F.par y=s.F.par y
 ndo:∀y,y<s.N->s'.nd y=s.nd y
 root:s'.F.par s.N=none
 newp:∀y p,s.N<=y->s'.F.par y=some p->s.N<=p
 newn:∀y,s.N<=y->y<s'.N->∃z,z<s.N/\s'.nd y=s.nd z
 op:s.op=true->s'.op=true
theorem DM(o:s.F.Ok (λi=>i<s.N) h){y:Nat}(t:s.N<=y):s.F.par y=none/\s.F.kids y=[]:=by
 constructor
 .cases e:s.F.par y with
  |none=>rfl
  |some p=>have:=(o.dom p y e).2;omega
 cases e:s.F.kids y with
 |nil=>rfl
 |cons c l=>have:=(o.dom y c ((o.mem y c).1 (by rw[e];exact Af))).1;omega
theorem Em(o:s.F.Ok (λi=>i<s.N) h)(hx:x<s.N):Ko s (s.fresh x) h (λi=>if i=s.N then h x else h i) x:=by
 refine⟨⟨o.nodup,o.mem,λp c t=> ?_,λp c t=> ?_⟩,λy a=>AI (by omega),AJ rfl,Nat.lt_succ_self _,λ_ _=>rfl,λ_ _=>rfl,λy a=>AI (by omega),(DM o (AG _)).1,λy p a n=> ?_,λy d r=> ?_,λe=>e⟩
 .have:=o.dom p c t;exact⟨Nat.lt_succ_of_lt this.1,Nat.lt_succ_of_lt this.2⟩
 .have:=o.dom p c t;show(if c=s.N then _ else _)<(if p=s.N then _ else _);rw[AI (by omega),AI (by omega)];exact o.ht p c t
 .change s.F.par y=some p at n;rw[(DM o a).1]at n;cases n
 have:y=s.N:=by have:y<s.N+1:=r;omega
 exact⟨x,hx,by show(if y=s.N then _ else _)=_;rw[AJ this]⟩
theorem Hi{a b:bY}{f m:Nat->Nat}(o:Ko s a h f x)(E:k<s.N)(t:Ko a b f m k)(T:h k<h x):Ko s (b.Yz s.N s.N a.N) h m x/\(b.Yz s.N s.N a.N).F.kids s.N=a.F.kids s.N++[a.N]:=by
 have n:=o.lt;have N:=t.lt;have d:s.N∉b.F.kids s.N:=λj=>by
  have:=t.ok.ht _ _ ((t.ok.mem _ _).1 j);omega
 have u:b.F.kids s.N=a.F.kids s.N:=t.kids _ n;refine⟨⟨bY.Z4 t.ok t.root (by omega) (by omega) (λq c A=>t.ok.ht q c A) ?_,λy i=>(t.hold y (by omega)).trans (o.hold y i),(t.hold _ n).trans o.hnew,by show s.N<b.N;omega,λy i=> ?_,λy i=> ?_,λy i=>(t.ndo y (by omega)).trans (o.ndo y i),?_,λy p i r=> ?_,λy O w=> ?_,λe=>t.op (o.op e)⟩,?_⟩
 .rw[t.hnew,t.hold _ n,o.hnew,o.hold _ E];exact T
 .show(if y=s.N then _ else b.F.kids y)=_;rw[AI (by omega),t.kids y (by omega),o.kids y i]
 .show(if y=a.N then _ else b.F.par y)=_;rw[AI (by omega),t.par y (by omega),o.par y i]
 .show(if s.N=a.N then _ else b.F.par s.N)=_;rw[AI (by omega),t.par _ n,o.root]
 .change (if y=a.N then some s.N else b.F.par y)=some p at r;by_cases e:y=a.N
  .rw[AJ e]at r;cases r;exact AG _
  rw[AI e]at r;by_cases e2:y<a.N
  .rw[t.par y e2]at r;exact o.newp y p i r
  have:=t.newp y p (by omega) r;omega
 .change y<b.N at w;show∃z,z<s.N/\b.nd y=s.nd z;by_cases e2:y<a.N
  .obtain⟨z,d,e⟩:=o.newn y O e2;exact⟨z,d,(t.ndo y e2).trans e⟩
  obtain⟨z,d,e⟩:=t.newn y (by omega) w;by_cases g:z<s.N
  .exact⟨z,g,e.trans (o.ndo z g)⟩
  obtain⟨v,l,I⟩:=o.newn z (by omega) d;exact⟨v,l,e.trans I⟩
 show(if s.N=s.N then Kv s.N a.N (b.F.kids s.N)else _)=_;rw[AJ rfl,KJ d,u]
theorem PH{a:bY}{t:Nat->Nat}(e:Ko s a h t x):Ko s a.shut h t x:=
 ⟨e.ok,e.hold,e.hnew,e.lt,e.kids,e.par,e.ndo,e.root,e.newp,e.newn,λ_=>rfl⟩
def Wj(d:Nat):Prop:=∀(s:bY) (h:Nat->Nat) (x:Nat),s.F.Ok (λi=>i<s.N) h->x<s.N->h x<=d->∃e,Ko s (CZ d s x) h e x
theorem MS{d:Nat}(m:Wj d):∀(L:List Nat) (a:bY) (t:Nat->Nat),Ko s a h t x->(∀k∈L,k<s.N/\h k<h x/\h k<=d)->
 ∃o,Ko s (L.foldl (E0 (CZ d) s.N) a) h o x/\((L.foldl (E0 (CZ d) s.N) a).F.kids s.N).length=(a.F.kids s.N).length+L.length/\a.N<=(L.foldl (E0 (CZ d) s.N) a).N:=by
 intro L;induction L with
 |nil=>intro a t e _;exact⟨t,e,rfl,AG _⟩
 |cons k L u=>
  intro a t e n;obtain⟨r,w,f⟩:=n k Af;obtain⟨b,l⟩:=m a t k e.ok (by have:=e.lt;omega) (by rw[e.hold k r];exact f);obtain⟨e2,p⟩:=Hi e r l w;obtain⟨o,g,i,y⟩:=u _ _ e2 (λq c=>n q (Ab _ c));refine⟨o,g,?_,AH (Ca l.lt) y⟩;show((List.foldl (E0 (CZ d) s.N) (E0 (CZ d) s.N a k) L).F.kids s.N).length=_;rw[p]at i;simp only[AN,Ak,Ar]at i|-;unfold E0 at i|-;omega
theorem DK(d:Nat):Wj d:=by
 induction d with
 |zero=>
  intro s h x o hx r;show∃t,Ko s (if 600<=s.N then(s.fresh x).shut else s.fresh x) h t x;split
  .exact⟨_,PH (Em o hx)⟩
  exact⟨_,Em o hx⟩
 |succ d i=>
  intro s h x o hx r;show∃t,Ko s (if 600<=s.N then(s.fresh x).shut else(s.F.kids x).foldl (E0 (CZ d) s.N) (s.fresh x)) h t x;split
  .exact⟨_,PH (Em o hx)⟩
  obtain⟨t,e,_⟩:=MS i (s.F.kids x) (s.fresh x) _ (Em o hx) (λk n=>by
   have a:=(o.mem x k).1 n;have u:=o.dom x k a;have l:=o.ht x k a;exact⟨u.2,l,by omega⟩)
  exact⟨t,e⟩
def J7(F:Fo)(S:Nat->Prop)(nd:Nat->Nd)(t:Nat->Int)(B:Nat)(kb:Nat->Nat)(p k x:Nat)(w:AB)(e:Bx)(w':AB):Prop:=
 e= .returned (.tuple #[])/\Ct (F.put p k x) S nd t B kb w'/\Al S kb w w'
def VW(w:AB)(e:Bx)(w':AB):Prop:=e= .returned (.tuple #[])/\w'=w
theorem Gw(h:Ct F S H P B O w)(i:Nat)(a:S i)(t:F.par i=none):
 AX AC 39 #[.pointer (some ⟨O i,0,none⟩)] w (VW w):=by
 have o:=AA (Jw h i a t);clear h t;go_enter func39,ntmps39;go_wp2_with fail;refine o.o.mono ?_;rintro e n ⟨rfl,rfl⟩;go_wp2_with fail
 go_end0;exact⟨rfl,rfl⟩
theorem YH(h:Ct F S H P B O w)(hBw:B<=w.heap.size)(p x:Nat)(u:S p)(d:S x)(hpx:p≠x)(hx:F.par x=none)(l1 l2:List Nat)(hk:F.kids p=l1++l2)(hlen:(F.kids p).length<=100000)
 (c7:w.cell? ⟨O p,7,none⟩=some (.slice none 0 0))(e1:l1=[])(e2:l2=[]):
 AX AC 64 #[.pointer (some ⟨O p,0,none⟩),.int .i64 (l1.length:Nat),.pointer (some ⟨O x,0,none⟩)] w (J7 F S H P B O p l1.length x w):=by
 have HC:=AA (Gw h x d hx);have HFn:Hid (∀(s:AB) (z:Option Ai) (c2 n:Nat) (L:List Nat),L=l1++[x]++l2->n=L.length->AL w.heap.size w s->s.ownsRow w.heap.size 57 1 (.slice z n c2) n (Ad O L)->
  Ct (F.put p l1.length x) S H P B O ((s.setCell ⟨O p,7,none⟩ (.slice z n c2)).setCell ⟨O x,6,none⟩ (.pointer (some ⟨O p,0,none⟩)))/\Al S O w ((s.setCell ⟨O p,7,none⟩ (.slice z n c2)).setCell ⟨O x,6,none⟩ (.pointer (some ⟨O p,0,none⟩)))):=by
  intro s z c2 n L hL hn y Z;subst hn;have I:=((h.up y).Ys u (Bf Z hBw)).Yt d (some p);have e:(F.Ys p L).Yt x (some p)=F.put p l1.length x:=by
   refine Fo.Yv (λq=>rfl) (λq=> ?_);show(if q=p then L else F.kids q)=(if q=p then G6 (F.kids q) l1.length x else F.kids q);by_cases e:q=p
   .rw[AJ e,AJ e,e,hk,Dd,hL];simp
   rw[AI e,AI e]
  rw[e]at I;exact⟨I,((Al.Yq y).set u 7 _).set d 6 _⟩
 have hne:O p≠O x:=λe=>hpx (h.inj p x u d e);have A:=h.lt u;have T:=h.lt d;obtain⟨pf,-⟩:=h.cells u;obtain⟨xf,E,-⟩:=h.cells d;rw[hx]at E;simp only[Au,BF]at E;have a:Hid (∀W,AL w.heap.size w W->W.cell? ⟨O p,7,none⟩=some (.slice none 0 0)/\W.frozen? ⟨O p,7,none⟩=false/\W.frozen? ⟨O x,6,none⟩=false/\W.cell? ⟨O x,6,none⟩=some (.pointer none)):=λW y=>⟨(y.cell (p:=⟨O p,_,none⟩) A).trans c7,(Bj (y.block _ A)).trans (pf 7),(Bj (y.block _ T)).trans (xf 6),(y.cell (p:=⟨O x,_,none⟩) T).trans E⟩;have HZ:Hid (∀(s:AB) (v:AS),s.frozen? ⟨O x,6,none⟩=false->s.cell? ⟨O x,6,none⟩=some (.pointer none)->(s.setCell ⟨O p,7,none⟩ v).frozen? ⟨O x,6,none⟩=false/\(s.setCell ⟨O p,7,none⟩ v).cell? ⟨O x,6,none⟩=some (.pointer none)):=λs v h2 h3=>⟨by rw[EK];exact h2,by rw[BN _ _ _ _ (by exact hne)];exact h3⟩;have l:AL w.heap.size w (w.alloc (.cells #[] 57)):=Ac;have HB0:=AA l;have HE:Hid ((w.alloc (.cells #[] 57)).ownsRow w.heap.size 57 1 (.slice (some ⟨w.heap.size,0,none⟩) 0 0) 0 []):=De w 57 1;have HB1:Hid (∀o,(w.alloc (.cells #[] 57)).grownBy o (AO (some ⟨w.heap.size,0,none⟩) 0 0).ownBlock->AL w.heap.size w o):=λo hg=>l.grown hg l.size (λk e=>by cases e;exact AG _);have G:Hid (∀o s,AL w.heap.size w o->∀{v:AS} {n:Nat} {L:List AS},o.ownsRow w.heap.size 57 1 v n L->o.grownBy s v.ownBlock->AL w.heap.size w s):=λo s y v n L Z hg=>y.grown hg y.size (λk e=>(Z.lt k e).1);have hc0:=(a.o w (AW _ _)).1;have hcA:=(a.o _ l).1;subst e1 e2;have M:Hid (∀W,AL w.heap.size w W->B6 W W.heap.size none (Ad O [])):=λW _=> .inl rfl;have HR2:=M;clear h hx hk l pf xf E c7;go_enter func64,ntmps64;go_wp2_with fail;refine HC.o.mono ?_;rintro e o ⟨rfl,rfl⟩;go_wp2_with(at_builtin;refine Az _ rfl (.tmp 9) (.tmp 15) rfl O o.heap.size (.slice (some ⟨o.heap.size,0,none⟩) 0 0) [] rfl HE.o none 0 0 ([]:List Nat) rfl rfl (M.o _ HB0.o) (by first|omega|(simp only[Ar]<;>omega)) (by simp) ?_);intro a1 c1 g t D _;try simp only[BY]at t
 try simp only[BY]
 have i:=HB1.o g D;have HO1:=AA t;have Hb1:=AA i;have hs1:=i.size;have j:Hid ((g.alloc (.cells #[.pointer (some ⟨O x,0,none⟩)] 57)).ownsRow o.heap.size 57 1 (.slice a1 ([]:List Nat).length c1) ([]:List Nat).length (Ad O ([]:List Nat))):=t.alloc _;have HRx:Hid (B6 (g.alloc (.cells #[.pointer (some ⟨O x,0,none⟩)] 57)) (g.alloc (.cells #[.pointer (some ⟨O x,0,none⟩)] 57)).heap.size (some ⟨g.heap.size,0,none⟩) (Ad O [x])):=by
  refine .inr ⟨g.heap.size,0,rfl,by simp,λq hq=> ?_⟩;have e0:q=0:=by simp[Ad]at hq;omega
  subst e0;rw[BI];rfl
 have b:Hid (AL o.heap.size o (g.alloc (.cells #[.pointer (some ⟨O x,0,none⟩)] 57))):=i.alloc i.size _;have V:=b.o.size;clear D t i;go_wp2_with(at_builtin;refine Az _ rfl (.tmp 17) (.tmp 19) rfl O o.heap.size (.slice a1 ([]:List Nat).length c1) ([]:List Nat) rfl j.o (some ⟨g.heap.size,0,none⟩) 1 1 [x] rfl rfl HRx.o (by first|omega|(simp only[Ar,Ak]<;>omega)) V ?_);intro z c2 J f R _;have r:=G.o _ J b.o j.o R;obtain⟨X,K⟩:∃X,X=([]:List Nat)++[x]:=⟨_,rfl⟩;have C:Hid (X.length=([]:List Nat).length+1):=by rw[K];exact AN
 have Y:Hid (J.ownsRow o.heap.size 57 1 (.slice z 1 c2) X.length (Ad O X)):=by rw[C.o,K];exact f
 have HX:=AA K;have U:=AA r;have hs2:=r.size;obtain⟨q7,-⟩:=a.o J r;have hXn:X.length<=200000:=by have h9:=C.o;first|omega|(simp only[Ar]at h9;omega)
 clear R f r K;go_wp2_with(at_builtin;refine Az _ rfl (.tmp 22) (.tmp 28) rfl O o.heap.size (.slice z 1 c2) X rfl Y.o none 0 0 ([]:List Nat) rfl rfl (HR2.o _ U.o) (by first|omega|(simp only[Ar]<;>omega)) hs2 ?_);intro a3 c3 Q m N _;have c:=G.o J Q U.o Y.o N;obtain⟨r7,f7,f6,E⟩:=a.o Q c;obtain⟨f6b,x6b⟩:=HZ.o Q (.slice a3 X.length c3) f6 E;have HO3:=AA m;have Hb3:=AA c;clear N m c q7;go_wp2_with fail
 go_end0;exact⟨rfl,HFn.o Q a3 c3 X.length X (by rw[HX.o];rfl) (by simp) Hb3.o HO3.o⟩
theorem YG(h:Ct F S H P B O w)(hBw:B<=w.heap.size)(p x:Nat)(m:S p)(u:S x)(hpx:p≠x)(hx:F.par x=none)(l1 l2:List Nat)(R:F.kids p=l1++l2)(hlen:(F.kids p).length<=100000)
 (b t A:Nat)(c7:w.cell? ⟨O p,7,none⟩=some (.slice (some ⟨b,t,none⟩) (F.kids p).length A))(hkc:(F.kids p).length<=A)(K:b<w.heap.size)(hc:∀q (j:q<(Ad O (F.kids p)).length),w.cell? ⟨b,t+q,none⟩=some (Ad O (F.kids p))[q])(hcap:¬A=l1.length):
 AX AC 64 #[.pointer (some ⟨O p,0,none⟩),.int .i64 (l1.length:Nat),.pointer (some ⟨O x,0,none⟩)] w (J7 F S H P B O p l1.length x w):=by
 have HC:=AA (Gw h x u hx);have HFn:Hid (∀(d:AB) (I:Option Ai) (c2 n:Nat) (L:List Nat),L=l1++[x]++l2->n=L.length->AL w.heap.size w d->d.ownsRow w.heap.size 57 1 (.slice I n c2) n (Ad O L)->
  Ct (F.put p l1.length x) S H P B O ((d.setCell ⟨O p,7,none⟩ (.slice I n c2)).setCell ⟨O x,6,none⟩ (.pointer (some ⟨O p,0,none⟩)))/\Al S O w ((d.setCell ⟨O p,7,none⟩ (.slice I n c2)).setCell ⟨O x,6,none⟩ (.pointer (some ⟨O p,0,none⟩)))):=by
  intro d I c2 n L hL hn r ho;subst hn;have M:=((h.up r).Ys m (Bf ho hBw)).Yt u (some p);have e:(F.Ys p L).Yt x (some p)=F.put p l1.length x:=by
   refine Fo.Yv (λq=>rfl) (λq=> ?_);show(if q=p then L else F.kids q)=(if q=p then G6 (F.kids q) l1.length x else F.kids q);by_cases e:q=p
   .rw[AJ e,AJ e,e,R,Dd,hL];simp
   rw[AI e,AI e]
  rw[e]at M;exact⟨M,((Al.Yq r).set m 7 _).set u 6 _⟩
 have hne:O p≠O x:=λe=>hpx (h.inj p x m u e);have C:=h.lt m;have U:=h.lt u;obtain⟨pf,-⟩:=h.cells m;obtain⟨xf,N,-⟩:=h.cells u;rw[hx]at N;simp only[Au,BF]at N;have o:Hid (∀W,AL w.heap.size w W->W.cell? ⟨O p,7,none⟩=some (.slice (some ⟨b,t,none⟩) (F.kids p).length A)/\W.frozen? ⟨O p,7,none⟩=false/\W.frozen? ⟨O x,6,none⟩=false/\W.cell? ⟨O x,6,none⟩=some (.pointer none)):=λW r=>⟨(r.cell (p:=⟨O p,_,none⟩) C).trans c7,(Bj (r.block _ C)).trans (pf 7),(Bj (r.block _ U)).trans (xf 6),(r.cell (p:=⟨O x,_,none⟩) U).trans N⟩;have HZ:Hid (∀(d:AB) (v:AS),d.frozen? ⟨O x,6,none⟩=false->d.cell? ⟨O x,6,none⟩=some (.pointer none)->(d.setCell ⟨O p,7,none⟩ v).frozen? ⟨O x,6,none⟩=false/\(d.setCell ⟨O p,7,none⟩ v).cell? ⟨O x,6,none⟩=some (.pointer none)):=λd v h2 h3=>⟨by rw[EK];exact h2,by rw[BN _ _ _ _ (by exact hne)];exact h3⟩;have c:AL w.heap.size w (w.alloc (.cells #[] 57)):=Ac;have HB0:=AA c;have HE:Hid ((w.alloc (.cells #[] 57)).ownsRow w.heap.size 57 1 (.slice (some ⟨w.heap.size,0,none⟩) 0 0) 0 []):=De w 57 1;have HB1:Hid (∀i,(w.alloc (.cells #[] 57)).grownBy i (AO (some ⟨w.heap.size,0,none⟩) 0 0).ownBlock->AL w.heap.size w i):=λi hg=>c.grown hg c.size (λk e=>by cases e;exact AG _);have ee:Hid (∀i d,AL w.heap.size w i->∀{v:AS} {n:Nat} {L:List AS},i.ownsRow w.heap.size 57 1 v n L->i.grownBy d v.ownBlock->AL w.heap.size w d):=λi d r v n L ho hg=>r.grown hg r.size (λk e=>(ho.lt k e).1);have hc0:=(o.o w (AW _ _)).1;have hcA:=(o.o _ c).1;have hkl:(F.kids p).length=l1.length+l2.length:=by rw[R,AN]
 have HR1:Hid (∀W,AL w.heap.size w W->B6 W W.heap.size (some ⟨b,t,none⟩) (Ad O l1)):=by
  intro W r;rcases BJ l1.length with D|D
  .rw[Ag D];exact .inl rfl
  refine .inr ⟨b,t,rfl,by have:=r.size;omega,λq j=> ?_⟩;rw[AM]at j;rw[r.cell (p:=⟨b,_,none⟩) K,hc q (by rw[AM];omega),A5 j,A5 (by omega)];simp only[R];rw[Cs j]
 have HR2:Hid (∀W,AL w.heap.size w W->B6 W W.heap.size (some ⟨b,t+l1.length,none⟩) (Ad O l2)):=by
  intro W r;rcases BJ l2.length with D|D
  .rw[Ag D];exact .inl rfl
  refine .inr ⟨b,t+l1.length,rfl,by have:=r.size;omega,λq j=> ?_⟩;rw[AM]at j;have e:t+l1.length+q=t+(l1.length+q):=by omega
  rw[e,r.cell (p:=⟨b,_,none⟩) K,hc (l1.length+q) (by rw[AM];omega),A5 j,A5 (by omega)];simp only[R];rw[Gt (by omega)];have e2:l1.length+q-l1.length=q:=by omega
  simp only[e2]
 have HL2:Hid ((F.kids p).length-l1.length=l2.length):=by unfold Hid;omega
 have hL3:l1.length+l2.length<=100000:=by omega
 have hA1:l1.length<=A:=by omega
 have hA2:l1.length<=(F.kids p).length:=by omega
 have hA3:(0:Int)<=(l1.length:Int):=by omega
 have hA5:(l1.length:Int)<=((F.kids p).length:Int):=by omega
 clear h hx R c pf xf N c7 hc hkl;go_enter func64,ntmps64;go_wp2_with fail;refine HC.o.mono ?_;rintro e i ⟨rfl,rfl⟩;go_wp2_with(at_builtin;refine Az _ rfl (.tmp 9) (.tmp 15) rfl O i.heap.size (.slice (some ⟨i.heap.size,0,none⟩) 0 0) [] rfl HE.o (some ⟨b,t,none⟩) l1.length A l1 rfl rfl (HR1.o _ HB0.o) (by first|omega|(simp only[Ar]<;>omega)) (by simp) ?_);intro a1 c1 z a V _;try simp only[BY]at a
 try simp only[BY]
 have s:=HB1.o z V;have HO1:=AA a;have Hb1:=AA s;have hs1:=s.size;have T:Hid ((z.alloc (.cells #[.pointer (some ⟨O x,0,none⟩)] 57)).ownsRow i.heap.size 57 1 (.slice a1 l1.length c1) l1.length (Ad O l1)):=a.alloc _;have HRx:Hid (B6 (z.alloc (.cells #[.pointer (some ⟨O x,0,none⟩)] 57)) (z.alloc (.cells #[.pointer (some ⟨O x,0,none⟩)] 57)).heap.size (some ⟨z.heap.size,0,none⟩) (Ad O [x])):=by
  refine .inr ⟨z.heap.size,0,rfl,by simp,λq j=> ?_⟩;have e0:q=0:=by simp[Ad]at j;omega
  subst e0;rw[BI];rfl
 have E:Hid (AL i.heap.size i (z.alloc (.cells #[.pointer (some ⟨O x,0,none⟩)] 57))):=s.alloc s.size _;have et:=E.o.size;clear V a s;go_wp2_with(at_builtin;refine Az _ rfl (.tmp 17) (.tmp 19) rfl O i.heap.size (.slice a1 l1.length c1) l1 rfl T.o (some ⟨z.heap.size,0,none⟩) 1 1 [x] rfl rfl HRx.o (by first|omega|(simp only[Ar,Ak]<;>omega)) et ?_);intro I c2 W2 g G _;have l:=ee.o _ W2 E.o T.o G;obtain⟨X,hX⟩:∃X,X=l1++[x]:=⟨_,rfl⟩;have J:Hid (X.length=l1.length+1):=by rw[hX];exact AN
 have Z:Hid (W2.ownsRow i.heap.size 57 1 (.slice I (l1.length+1) c2) X.length (Ad O X)):=by rw[J.o,hX];exact g
 have HX:=AA hX;have Q:=AA l;have hs2:=l.size;obtain⟨q7,-⟩:=o.o W2 l;have hXn:X.length<=200000:=by have h9:=J.o;first|omega|(simp only[Ar]at h9;omega)
 clear G g l hX;go_wp2_with(at_builtin;refine Az _ rfl (.tmp 22) (.tmp 28) rfl O i.heap.size (.slice I (l1.length+1) c2) X rfl Z.o (some ⟨b,t+l1.length,none⟩) ((F.kids p).length-l1.length) (A-l1.length) l2 HL2.o rfl (HR2.o _ Q.o) (by first|omega|(simp only[Ar]<;>omega)) hs2 ?_);intro a3 c3 W3 y Y _;have f:=ee.o W2 W3 Q.o Z.o Y;obtain⟨r7,f7,f6,N⟩:=o.o W3 f;obtain⟨f6b,x6b⟩:=HZ.o W3 (.slice a3 (X.length+l2.length) c3) f6 N;have HO3:=AA y;have Hb3:=AA f;clear Y y f q7;go_wp2_with fail
 go_end0;exact⟨rfl,HFn.o W3 a3 c3 (X.length+l2.length) (X++l2) (by rw[HX.o]) (by simp) Hb3.o HO3.o⟩
theorem YF(h:Ct F S H P B O w)(hBw:B<=w.heap.size)(p x:Nat)(m:S p)(u:S x)(hpx:p≠x)(hx:F.par x=none)(l1 l2:List Nat)(hk:F.kids p=l1++l2)(hlen:(F.kids p).length<=100000)
 (b i kc:Nat)(c7:w.cell? ⟨O p,7,none⟩=some (.slice (some ⟨b,i,none⟩) (F.kids p).length kc))(hkc:(F.kids p).length<=kc)(hbB:b<w.heap.size)(hc:∀q (N:q<(Ad O (F.kids p)).length),w.cell? ⟨b,i+q,none⟩=some (Ad O (F.kids p))[q])(Z:kc=l1.length):
 AX AC 64 #[.pointer (some ⟨O p,0,none⟩),.int .i64 (l1.length:Nat),.pointer (some ⟨O x,0,none⟩)] w (J7 F S H P B O p l1.length x w):=by
 have HC:=AA (Gw h x u hx);have HFn:Hid (∀(r:AB) (A:Option Ai) (c2 n:Nat) (L:List Nat),L=l1++[x]++l2->n=L.length->AL w.heap.size w r->r.ownsRow w.heap.size 57 1 (.slice A n c2) n (Ad O L)->
  Ct (F.put p l1.length x) S H P B O ((r.setCell ⟨O p,7,none⟩ (.slice A n c2)).setCell ⟨O x,6,none⟩ (.pointer (some ⟨O p,0,none⟩)))/\Al S O w ((r.setCell ⟨O p,7,none⟩ (.slice A n c2)).setCell ⟨O x,6,none⟩ (.pointer (some ⟨O p,0,none⟩)))):=by
  intro r A c2 n L hL hn l ho;subst hn;have U:=((h.up l).Ys m (Bf ho hBw)).Yt u (some p);have e:(F.Ys p L).Yt x (some p)=F.put p l1.length x:=by
   refine Fo.Yv (λq=>rfl) (λq=> ?_);show(if q=p then L else F.kids q)=(if q=p then G6 (F.kids q) l1.length x else F.kids q);by_cases e:q=p
   .rw[AJ e,AJ e,e,hk,Dd,hL];simp
   rw[AI e,AI e]
  rw[e]at U;exact⟨U,((Al.Yq l).set m 7 _).set u 6 _⟩
 have hne:O p≠O x:=λe=>hpx (h.inj p x m u e);have D:=h.lt m;have R:=h.lt u;obtain⟨pf,-⟩:=h.cells m;obtain⟨xf,I,-⟩:=h.cells u;rw[hx]at I;simp only[Au,BF]at I;have a:Hid (∀W,AL w.heap.size w W->W.cell? ⟨O p,7,none⟩=some (.slice (some ⟨b,i,none⟩) (F.kids p).length kc)/\W.frozen? ⟨O p,7,none⟩=false/\W.frozen? ⟨O x,6,none⟩=false/\W.cell? ⟨O x,6,none⟩=some (.pointer none)):=λW l=>⟨(l.cell (p:=⟨O p,_,none⟩) D).trans c7,(Bj (l.block _ D)).trans (pf 7),(Bj (l.block _ R)).trans (xf 6),(l.cell (p:=⟨O x,_,none⟩) R).trans I⟩;have HZ:Hid (∀(r:AB) (v:AS),r.frozen? ⟨O x,6,none⟩=false->r.cell? ⟨O x,6,none⟩=some (.pointer none)->(r.setCell ⟨O p,7,none⟩ v).frozen? ⟨O x,6,none⟩=false/\(r.setCell ⟨O p,7,none⟩ v).cell? ⟨O x,6,none⟩=some (.pointer none)):=λr v h2 h3=>⟨by rw[EK];exact h2,by rw[BN _ _ _ _ (by exact hne)];exact h3⟩;have c:AL w.heap.size w (w.alloc (.cells #[] 57)):=Ac;have HB0:=AA c;have HE:Hid ((w.alloc (.cells #[] 57)).ownsRow w.heap.size 57 1 (.slice (some ⟨w.heap.size,0,none⟩) 0 0) 0 []):=De w 57 1;have HB1:Hid (∀o,(w.alloc (.cells #[] 57)).grownBy o (AO (some ⟨w.heap.size,0,none⟩) 0 0).ownBlock->AL w.heap.size w o):=λo hg=>c.grown hg c.size (λk e=>by cases e;exact AG _);have Q:Hid (∀o r,AL w.heap.size w o->∀{v:AS} {n:Nat} {L:List AS},o.ownsRow w.heap.size 57 1 v n L->o.grownBy r v.ownBlock->AL w.heap.size w r):=λo r l v n L ho hg=>l.grown hg l.size (λk e=>(ho.lt k e).1);have hc0:=(a.o w (AW _ _)).1;have hcA:=(a.o _ c).1;have hkl:(F.kids p).length=l1.length+l2.length:=by rw[hk,AN]
 have f:l2=[]:=Ag (by omega);have HR1:Hid (∀W,AL w.heap.size w W->B6 W W.heap.size (some ⟨b,i,none⟩) (Ad O l1)):=by
  intro W l;rcases BJ l1.length with h0|h0
  .rw[Ag h0];exact .inl rfl
  refine .inr ⟨b,i,rfl,by have:=l.size;omega,λq N=> ?_⟩;rw[AM]at N;rw[l.cell (p:=⟨b,_,none⟩) hbB,hc q (by rw[AM];omega),A5 N,A5 (by omega)];simp only[hk];rw[Cs N]
 have HR2:Hid (∀W,AL w.heap.size w W->B6 W W.heap.size (some ⟨b,i,none⟩) (Ad O l2)):=λW _=>by rw[f];exact .inl rfl
 have HL2:Hid (0=l2.length):=by rw[f];rfl
 have hL3:l1.length+l2.length<=100000:=by omega
 subst Z;have hA2:l1.length<=(F.kids p).length:=by omega
 have hA3:(0:Int)<=(l1.length:Int):=by omega
 have hA5:(l1.length:Int)<=((F.kids p).length:Int):=by omega
 clear h hx hk c pf xf I c7 hc hkl f;go_enter func64,ntmps64;go_wp2_with fail;refine HC.o.mono ?_;rintro e o ⟨rfl,rfl⟩;go_wp2_with(at_builtin;refine Az _ rfl (.tmp 9) (.tmp 15) rfl O o.heap.size (.slice (some ⟨o.heap.size,0,none⟩) 0 0) [] rfl HE.o (some ⟨b,i,none⟩) l1.length l1.length l1 rfl rfl (HR1.o _ HB0.o) (by first|omega|(simp only[Ar]<;>omega)) (by simp) ?_);intro a1 c1 z t Y _;try simp only[BY]at t
 try simp only[BY]
 have s:=HB1.o z Y;have HO1:=AA t;have Hb1:=AA s;have hs1:=s.size;have T:Hid ((z.alloc (.cells #[.pointer (some ⟨O x,0,none⟩)] 57)).ownsRow o.heap.size 57 1 (.slice a1 l1.length c1) l1.length (Ad O l1)):=t.alloc _;have HRx:Hid (B6 (z.alloc (.cells #[.pointer (some ⟨O x,0,none⟩)] 57)) (z.alloc (.cells #[.pointer (some ⟨O x,0,none⟩)] 57)).heap.size (some ⟨z.heap.size,0,none⟩) (Ad O [x])):=by
  refine .inr ⟨z.heap.size,0,rfl,by simp,λq N=> ?_⟩;have e0:q=0:=by simp[Ad]at N;omega
  subst e0;rw[BI];rfl
 have E:Hid (AL o.heap.size o (z.alloc (.cells #[.pointer (some ⟨O x,0,none⟩)] 57))):=s.alloc s.size _;have J:=E.o.size;clear Y t s;go_wp2_with(at_builtin;refine Az _ rfl (.tmp 17) (.tmp 19) rfl O o.heap.size (.slice a1 l1.length c1) l1 rfl T.o (some ⟨z.heap.size,0,none⟩) 1 1 [x] rfl rfl HRx.o (by first|omega|(simp only[Ar,Ak]<;>omega)) J ?_);intro A c2 W2 j M _;have d:=Q.o _ W2 E.o T.o M;obtain⟨X,hX⟩:∃X,X=l1++[x]:=⟨_,rfl⟩;have V:Hid (X.length=l1.length+1):=by rw[hX];exact AN
 have K:Hid (W2.ownsRow o.heap.size 57 1 (.slice A (l1.length+1) c2) X.length (Ad O X)):=by rw[V.o,hX];exact j
 have HX:=AA hX;have G:=AA d;have hs2:=d.size;obtain⟨q7,-⟩:=a.o W2 d;have hXn:X.length<=200000:=by have h9:=V.o;first|omega|(simp only[Ar]at h9;omega)
 clear M j d hX;go_wp2_with(at_builtin;refine Az _ rfl (.tmp 22) (.tmp 28) rfl O o.heap.size (.slice A (l1.length+1) c2) X rfl K.o (some ⟨b,i,none⟩) 0 0 l2 HL2.o rfl (HR2.o _ G.o) (by first|omega|(simp only[Ar]<;>omega)) hs2 ?_);intro a3 c3 W3 g C _;have y:=Q.o W2 W3 G.o K.o C;obtain⟨r7,f7,f6,I⟩:=a.o W3 y;obtain⟨f6b,x6b⟩:=HZ.o W3 (.slice a3 (X.length+l2.length) c3) f6 I;have HO3:=AA g;have Hb3:=AA y;clear C g y q7;go_wp2_with fail
 go_end0;exact⟨rfl,HFn.o W3 a3 c3 (X.length+l2.length) (X++l2) (by rw[HX.o]) (by simp) Hb3.o HO3.o⟩
theorem Rc(h:Ct F S H P B O w)(r:B<=w.heap.size)(p x:Nat)(a:S p)(s:S x)(n:p≠x)(hx:F.par x=none)(l1 l2:List Nat)(c:F.kids p=l1++l2)(t:(F.kids p).length<=100000):
 AX AC 64 #[.pointer (some ⟨O p,0,none⟩),.int .i64 (l1.length:Nat),.pointer (some ⟨O x,0,none⟩)] w (J7 F S H P B O p l1.length x w):=by
 obtain⟨-,-,-,j,f,m,l,o⟩:=h.cells a;rcases o.2 with⟨e,e2⟩|⟨g,cap,k,e,A,v,E,T,z,ht⟩
 .rw[e]at m;have d:F.kids p=[]:=Ag e2;rw[c,List.append_eq_nil_iff]at d;exact YH h r p x a s n hx l1 l2 c t m d.1 d.2
 injection e with e1 _ d;subst e1 d;have b:∀q (y:q<(Ad O (F.kids p)).length),w.cell? ⟨g,0+q,none⟩=some (Ad O (F.kids p))[q]:=λq y=>by
  have:=o.cells (g:=g) rfl q (Ad O (F.kids p))[q] (AK y);rw[Ba]at this;exact this
 have u:=(AE.1 v).1;by_cases i:f=l1.length
 .exact YF h r p x a s n hx l1 l2 c t g 0 f m l u b i
 exact YG h r p x a s n hx l1 l2 c t g 0 f m l u b i
def Fo.Yr(F:Fo)(p k:Nat)(L:List Nat):Fo:=⟨λi=>if i∈L then some p else F.par i,λq=>if q=p then(F.kids q).take k++L++(F.kids q).drop k else F.kids q⟩
theorem Mk(F:Fo)(p k:Nat):F.Yr p k []=F:=by
 refine Fo.Yv (λi=> ?_) (λq=> ?_)
 .show(if i∈([]:List Nat)then some p else F.par i)=_;simp
 show(if q=p then _ else _)=_;by_cases e:q=p
 .rw[AJ e];simp
 rw[AI e]
theorem LX(F:Fo)(p:Nat){l1 l2:List Nat}(t:F.kids p=l1++l2)(L:List Nat)(x:Nat):(F.Yr p l1.length L).put p (l1++L).length x=F.Yr p l1.length (L++[x]):=by
 refine Fo.Yv (λi=> ?_) (λq=> ?_)
 .show(if i=x then some p else if i∈L then some p else F.par i)=(if i∈L++[x]then some p else F.par i);by_cases e:i=x
  .simp[e]
  simp[e]
 show(if q=p then G6 (if q=p then _ else _) _ x else(if q=p then _ else _))=(if q=p then _ else _);by_cases e:q=p
 .subst e;simp only[if_true];rw[t,List.take_left,List.drop_left,Dd];simp
 simp only[AI e]
theorem DU(F:Fo)(p:Nat){l1 l2:List Nat}(e:F.kids p=l1++l2)(L:List Nat):(F.Yr p l1.length L).kids p=l1++L++l2:=by
 show(if p=p then _ else _)=_;rw[AJ rfl,e,List.take_left,List.drop_left]
def NM(op:Int)(F:Fo)(x p:Nat)(l1 l2:List Nat):Prop:=(op=1/\p=x/\l2=[])\/(op=2/\p=x/\l1=[])\/(op=4/\F.par x=some p/\l2.head? =some x)\/((op=3\/op=5)/\F.par x=some p/\l1.getLast? =some x)
def DJ(F:Fo)(S:Nat->Prop)(nd:Nat->Nd)(t:Nat->Int)(B:Nat)(kb:Nat->Nat)(p k:Nat)(L:List Nat)(w:AB)(e:Bx)(w':AB):Prop:=
 e= .returned (.tuple #[])/\Ct (F.Yr p k L) S nd t B kb w'/\Al S kb w w'
theorem Al.aF(h:Al S O w N)(e:B<=w.heap.size):B<=N.heap.size:=AH e h.size
theorem FT(o:F.Ok S u)(h:Ct F S H P B O w)(hBw:B<=w.heap.size)(op:Int)(x p:Nat)(l1 l2:List Nat)(hop:NM op F x p l1 l2)(hSx:S x)(hSp:S p)(hk:F.kids p=l1++l2)(Q:(F.kids p).length<=90000)
 (L:List Nat)(hL:∀y∈L,S y/\F.par y=none/\p≠y)(ee:L.Nodup)(hLl:L.length<=1000)(base:Nat)(a:Option Ai)(c:Nat)(j:w.ownsRow base 57 1 (.slice a L.length c) L.length (Ad O L))(fv:AS):
 AX AC 62 #[fv,.int .i64 op,.pointer (some ⟨O x,0,none⟩),.slice a L.length c] w (DJ F S H P B O p l1.length L w):=by
 have hkl:(F.kids p).length=l1.length+l2.length:=by rw[hk,AN]
 have hk1:l1.length<=90000:=by omega
 have hk2:l2.length<=90000:=by omega
 have D:∀i,(G:i<L.length)->∀W,Al S O w W->Ct (F.Yr p l1.length (L.take i)) S H P B O W->AX AC 64 #[.pointer (some ⟨O p,0,none⟩),.int .i64 ((l1.length:Int)+(i:Int)),.pointer (some ⟨O L[i],0,none⟩)] W (DJ F S H P B O p l1.length (L.take (i+1)) W):=by
  intro i G W r g;obtain⟨y1,y2,y3⟩:=hL L[i] (AD G);have hpar:(F.Yr p l1.length (L.take i)).par L[i]=none:=by
   show(if L[i]∈L.take i then _ else _)=_;rw[AI,y2];intro hm;obtain⟨q,hq,e⟩:=An hm;rw[F_]at e;have:=(List.getElem_inj ee).1 e;simp only[At]at hq;omega
  have:=Rc g (r.aF hBw) p L[i] hSp y1 y3 hpar (l1++L.take i) l2 (DU F p hk _) (by rw[DU F p hk];simp only[AN,At];omega);have e:(((l1++L.take i).length:Nat):Int)=(l1.length:Int)+(i:Int):=by simp only[AN,At];omega
  rw[e]at this;refine this.mono ?_;rintro e w' ⟨rfl,k1,k2⟩;rw[LX F p hk,<-AF G]at k1;exact⟨rfl,k1,k2⟩
 have l:=AA D;have R:∀W,Al S O w W->B6 W W.heap.size a (Ad O L):=λW r=>by
  have:=r.own j (λi G=>by obtain⟨_,aa,ac,ka,kc,h1,_⟩:=h.node i G;exact Ax j h1 (by decide));obtain⟨_,_,hv,_,hrs⟩:=B6.own this;cases hv
  exact hrs
 have U:=AA R;have N:Hid (Ct (F.Yr p l1.length (L.take 0)) S H P B O w):=by rw[Hid,BM,Mk];exact h
 have C:Hid (∀i,¬(i<L.length)->L.take i=L):=λi G=>BP (by omega);rcases hop with⟨rfl,rfl,rfl⟩|⟨rfl,rfl,rfl⟩|⟨rfl,M,X⟩|⟨hop,M,X⟩
 .obtain⟨-,-,-,ka,kc,c7,-⟩:=h.cells hSx;have e7:(F.kids p).length=l1.length:=by omega
  rw[e7]at c7;obtain⟨k,T⟩:∃k,k=l1.length:=⟨_,rfl⟩;rw[<-T]at c7 l N hk1|-;clear D R j h o hk hkl Q e7 T hL ee;go_enter func62,ntmps62;go_wp2;go_loopw [10] (λv wr=>∃i:Nat,i<=L.length/\v= .int .i64 i/\Ct (F.Yr p k (L.take i)) S H P B O wr/\Al S O w wr) (λv _=>L.length-(Aa v).toNat)
  .exact⟨0,AY _,rfl,N.o,Al.refl _ _ _⟩
  obtain⟨i,G,rfl,g,r⟩:=hrel;by_cases s:i<L.length
  .obtain⟨b,o,rfl,hbB,K⟩:=(U.o wr r).at_ (by rw[AM];omega);have z:=K i (by rw[AM];exact s);rw[A5 s]at z;have t:=AA (l.o i s wr r g);have E:=AA r;obtain⟨y,Y⟩:∃y,y=L[i]:=⟨_,rfl⟩;rw[<-Y]at z t;clear K Y g r;go_wp2_with fail;refine t.o.mono ?_;rintro e w2 ⟨rfl,f,m⟩;have A:=AA (E.o.trans m);have d:=AA f;clear f m z;go_wp2;go_roundw
   .exact⟨i+1,by omega,by go_num,d.o,A.o⟩
   simp[Aa];omega
  have E:=AA r;have d:Hid (Ct (F.Yr p k L) S H P B O wr):=by have:=g;rw[C.o i s]at this;exact this
  clear g r;go_wp2_with fail
  go_end0;exact⟨rfl,d.o,E.o⟩
 .have HP2:Hid (∀i,(G:i<L.length)->∀W,Al S O w W->Ct (F.Yr p 0 (L.take i)) S H P B O W->AX AC 64 #[.pointer (some ⟨O p,0,none⟩),.int .i64 (i:Int),.pointer (some ⟨O L[i],0,none⟩)] W (DJ F S H P B O p 0 (L.take (i+1)) W)):=λi G W r g=>by
   have:=l.o i G W r g;have e:((([]:List Nat).length:Nat):Int)+(i:Int)=i:=by simp
   rw[e]at this;exact this
  clear l D;have l:=HP2;clear HP2;simp only[Ar]at N|-;clear R j h o hk hkl Q hL ee;go_enter func62,ntmps62;go_wp2;go_loopw [10] (λv wr=>∃i:Nat,i<=L.length/\v= .int .i64 i/\Ct (F.Yr p 0 (L.take i)) S H P B O wr/\Al S O w wr) (λv _=>L.length-(Aa v).toNat)
  .exact⟨0,AY _,rfl,N.o,Al.refl _ _ _⟩
  obtain⟨i,G,rfl,g,r⟩:=hrel;by_cases s:i<L.length
  .obtain⟨b,o,rfl,hbB,K⟩:=(U.o wr r).at_ (by rw[AM];omega);have z:=K i (by rw[AM];exact s);rw[A5 s]at z;have t:=AA (l.o i s wr r g);have E:=AA r;obtain⟨y,Y⟩:∃y,y=L[i]:=⟨_,rfl⟩;rw[<-Y]at z t;clear K Y g r;go_wp2_with fail;refine t.o.mono ?_;rintro e w2 ⟨rfl,f,m⟩;have A:=AA (E.o.trans m);have d:=AA f;clear f m z;go_wp2;go_roundw
   .exact⟨i+1,by omega,by go_num,d.o,A.o⟩
   simp[Aa];omega
  have E:=AA r;have d:Hid (Ct (F.Yr p 0 L) S H P B O wr):=by have:=g;rw[C.o i s]at this;exact this
  clear g r;go_wp2_with fail
  go_end0;exact⟨rfl,d.o,E.o⟩
 .obtain⟨-,c6,-⟩:=h.cells hSx;rw[M]at c6;simp only[Au,As]at c6;obtain⟨J,rfl⟩:∃J,l2=x::J:=by
   cases l2 with
   |nil=>simp at X
   |cons a J=>exact⟨J,by have:a=x:=by simpa using X
                         rw[this]⟩
  have Z:Hid (∀n,AX AC 63 #[.pointer (some ⟨O x,0,none⟩)] (w.drewN n) λe w'=>e= .returned (.int .i64 l1.length)/\w'=w.drewN n):=λn=>(Ed o (h.up (BC (AW _ _) n)) x p M l1 J hk (by omega)).mono (λe w' V=>⟨V.1,V.2.symm⟩);have I:Hid (∀n,Ct (F.Yr p l1.length (L.take 0)) S H P B O (w.drewN n)/\Al S O w (w.drewN n)):=λn=>⟨N.o.up (BC (AW _ _) n),Al.Yq (BC (AW _ _) n)⟩;obtain⟨k,T⟩:∃k,k=l1.length:=⟨_,rfl⟩;rw[<-T]at l N Z I hk1|-;clear D R j h o hk hkl Q T hL ee M X;go_enter func62,ntmps62;go_wp2_with fail;go_quiet(first|(go_at_call 63;exact(Z.o _).mono (λ_ _ V=>⟨V.1,_,V.2⟩)));go_wp2;go_loopw [10] (λv wr=>∃i:Nat,i<=L.length/\v= .int .i64 i/\Ct (F.Yr p k (L.take i)) S H P B O wr/\Al S O w wr) (λv _=>L.length-(Aa v).toNat)
  .exact⟨0,AY _,rfl,(I.o _).1,(I.o _).2⟩
  obtain⟨i,G,rfl,g,r⟩:=hrel;by_cases s:i<L.length
  .obtain⟨b,o,rfl,hbB,K⟩:=(U.o wr r).at_ (by rw[AM];omega);have z:=K i (by rw[AM];exact s);rw[A5 s]at z;have t:=AA (l.o i s wr r g);have E:=AA r;obtain⟨y,Y⟩:∃y,y=L[i]:=⟨_,rfl⟩;rw[<-Y]at z t;clear K Y g r;go_wp2_with fail;refine t.o.mono ?_;rintro e w2 ⟨rfl,f,m⟩;have A:=AA (E.o.trans m);have d:=AA f;clear f m z;go_wp2;go_roundw
   .exact⟨i+1,by omega,by go_num,d.o,A.o⟩
   simp[Aa];omega
  have E:=AA r;have d:Hid (Ct (F.Yr p k L) S H P B O wr):=by have:=g;rw[C.o i s]at this;exact this
  clear g r;go_wp2_with fail
  go_end0;exact⟨rfl,d.o,E.o⟩
 obtain⟨-,c6,-⟩:=h.cells hSx;rw[M]at c6;simp only[Au,As]at c6;obtain⟨J,rfl⟩:∃J,l1=J++[x]:=List.getLast?_eq_some_iff.1 X;have Z:Hid (∀n,AX AC 63 #[.pointer (some ⟨O x,0,none⟩)] (w.drewN n) λe w'=>e= .returned (.int .i64 J.length)/\w'=w.drewN n):=λn=>(Ed o (h.up (BC (AW _ _) n)) x p M J l2 (by rw[hk,Bw];rfl) (by simp at hk1;omega)).mono (λe w' V=>⟨V.1,V.2.symm⟩);have I:Hid (∀n,Ct (F.Yr p (J++[x]).length (L.take 0)) S H P B O (w.drewN n)/\Al S O w (w.drewN n)):=λn=>⟨N.o.up (BC (AW _ _) n),Al.Yq (BC (AW _ _) n)⟩;obtain⟨k,T⟩:∃k,k=J.length:=⟨_,rfl⟩;have hl1:(J++[x]).length=k+1:=by rw[T];simp
 rw[<-T]at Z;rw[hl1]at l N I hk1|-;clear hl1;clear D R j h o hk hkl Q T hL ee M X;rcases hop with rfl|rfl
 .go_enter func62,ntmps62;go_wp2_with fail;go_quiet(first|(go_at_call 63;exact(Z.o _).mono (λ_ _ V=>⟨V.1,_,V.2⟩)));go_wp2;go_loopw [10] (λv wr=>∃i:Nat,i<=L.length/\v= .int .i64 i/\Ct (F.Yr p (k+1) (L.take i)) S H P B O wr/\Al S O w wr) (λv _=>L.length-(Aa v).toNat)
  .exact⟨0,AY _,rfl,(I.o _).1,(I.o _).2⟩
  obtain⟨i,G,rfl,g,r⟩:=hrel;by_cases s:i<L.length
  .obtain⟨b,o,rfl,hbB,K⟩:=(U.o wr r).at_ (by rw[AM];omega);have z:=K i (by rw[AM];exact s);rw[A5 s]at z;have t:=AA (l.o i s wr r g);have E:=AA r;obtain⟨y,Y⟩:∃y,y=L[i]:=⟨_,rfl⟩;rw[<-Y]at z t;clear K Y g r;go_wp2_with fail;refine t.o.mono ?_;rintro e w2 ⟨rfl,f,m⟩;have A:=AA (E.o.trans m);have d:=AA f;clear f m z;go_wp2;go_roundw
   .exact⟨i+1,by omega,by go_num,d.o,A.o⟩
   simp[Aa];omega
  have E:=AA r;have d:Hid (Ct (F.Yr p (k+1) L) S H P B O wr):=by have:=g;rw[C.o i s]at this;exact this
  clear g r;go_wp2_with fail
  go_end0;exact⟨rfl,d.o,E.o⟩
 go_enter func62,ntmps62;go_wp2_with fail;go_quiet(first|(go_at_call 63;exact(Z.o _).mono (λ_ _ V=>⟨V.1,_,V.2⟩)));go_wp2;go_loopw [10] (λv wr=>∃i:Nat,i<=L.length/\v= .int .i64 i/\Ct (F.Yr p (k+1) (L.take i)) S H P B O wr/\Al S O w wr) (λv _=>L.length-(Aa v).toNat)
 .exact⟨0,AY _,rfl,(I.o _).1,(I.o _).2⟩
 obtain⟨i,G,rfl,g,r⟩:=hrel;by_cases s:i<L.length
 .obtain⟨b,o,rfl,hbB,K⟩:=(U.o wr r).at_ (by rw[AM];omega);have z:=K i (by rw[AM];exact s);rw[A5 s]at z;have t:=AA (l.o i s wr r g);have E:=AA r;obtain⟨y,Y⟩:∃y,y=L[i]:=⟨_,rfl⟩;rw[<-Y]at z t;clear K Y g r;go_wp2_with fail;refine t.o.mono ?_;rintro e w2 ⟨rfl,f,m⟩;have A:=AA (E.o.trans m);have d:=AA f;clear f m z;go_wp2;go_roundw
  .exact⟨i+1,by omega,by go_num,d.o,A.o⟩
  simp[Aa];omega
 have E:=AA r;have d:Hid (Ct (F.Yr p (k+1) L) S H P B O wr):=by have:=g;rw[C.o i s]at this;exact this
 clear g r;go_wp2_with fail
 go_end0;exact⟨rfl,d.o,E.o⟩
def bY.row(s:bY)(p k:Nat)(L:List Nat):bY:={s with F:=s.F.Yr p k L}
theorem Rw{G:Fo}(h:∀z,F.Up z p->G.par z=F.par z)(y:Nat):F.Up y p↔G.Up y p:=by
 have key:∀{y q:Nat},F.Up y q->(∀z,F.Up z q->G.par z=F.par z)->G.Up y q:=by
  intro y q u;induction u with
  |self=>intro _;exact .self
  | @step o r i d n=>intro t;exact .step (by rw[t o .self];exact i) (n λz s=>t z (.step i s))
 have a:∀{y q:Nat},G.Up y q->(∀z,F.Up z q->G.par z=F.par z)->F.Up y q:=by
  intro y q u;induction u with
  |self=>intro _;exact .self
  | @step o r i d n=>
    intro t;have e:F.par o=some r:=(by rw[<-t o .self];exact i);exact .step e (n λz s=>t z (.step e s))
 exact⟨λu=>key u h,λu=>a u h⟩
theorem UO(h:Nat->Nat):∀L:List Nat,∃M,∀y∈L,h y<=M:=by
 intro L;induction L with
 |nil=>exact⟨0,by simp⟩
 |cons a L t=>
  obtain⟨M,o⟩:=t;refine⟨M+h a,λy e=> ?_⟩;rcases BQ.1 e with rfl|e
  .omega
  have:=o y e;omega
theorem F8(o:F.Ok S h){l1 l2 L:List Nat}(l:F.kids p=l1++l2)(k:S p)(d:∀r∈L,S r/\F.par r=none/\¬F.Up r p)(j:L.Nodup):
 ∃g,(F.Yr p l1.length L).Ok S g/\∀y,¬F.Up y p->g y=h y:=by
 obtain⟨M,z⟩:=UO h L;have i:∀a∈F.kids p,a∉L:=λa m f=>by
  have:=(o.mem p a).1 m;rw[(d a f).2.1]at this;cases this
 have s:=DU F p l L
 classical
 refine⟨λy=>if F.Up y p then h y+M+1 else h y,⟨λq=> ?_,λq c=> ?_,λq c t=> ?_,λq c t=> ?_⟩,λy v=>AI v⟩
 .by_cases e:q=p
  .subst e;rw[s];have w:=o.nodup q;rw[l]at w i;have n:(l1++L++l2).Perm (L++(l1++l2)):=by
    rw[Bw];exact(List.perm_append_comm_assoc l1 L l2)
   refine n.nodup_iff.2 (BA.2 ⟨j,w,λa m b x e=> ?_⟩);subst e;exact i a x m
  have:(F.Yr p l1.length L).kids q=F.kids q:=AI e;rw[this];exact o.nodup q
 .show c∈(F.Yr p l1.length L).kids q↔(if c∈L then some p else F.par c)=some q;by_cases e:q=p
  .subst e;rw[s];by_cases t:c∈L
   .simp[t]
   rw[AI t,<-o.mem,l];simp[t]
  have:(F.Yr p l1.length L).kids q=F.kids q:=AI e;rw[this,o.mem];by_cases t:c∈L
  .rw[AJ t,(d c t).2.1];constructor
   .intro h;cases h
   intro h;cases h;exact absurd rfl e
  rw[AI t]
 .change (if c∈L then some p else F.par c)=some q at t;by_cases e:c∈L
  .rw[AJ e]at t;cases t;exact⟨k,(d c e).1⟩
  rw[AI e]at t;exact o.dom q c t
 change (if c∈L then some p else F.par c)=some q at t;show(if F.Up c p then h c+M+1 else h c)<(if F.Up q p then h q+M+1 else h q);by_cases e:c∈L
 .rw[AJ e]at t;cases t;have:=z c e;rw[AI (d c e).2.2,AJ .self];omega
 rw[AI e]at t;have:=o.ht q c t;by_cases u:F.Up c p
 .rw[AJ u,AJ (FX t u)];omega
 rw[AI u];split<;>omega
theorem Uq{L:List Nat}(hx:∀r∈L,¬F.Up r x)(y:Nat):F.Up y x↔(F.Yr p k L).Up y x:=by
 refine Rw (λz e=> ?_) y;show(if z∈L then some p else F.par z)=F.par z;rw[AI λt=>hx z t e]
theorem Dt{a:bY}(o:s.F.Ok (λi=>i<s.N) h)(e:∀y,y<s.N->a.F.par y=s.F.par y){y:Nat}(r:p<s.N):s.F.Up y p↔a.F.Up y p:=by
 refine Rw (λz n=>e z ?_) y;have key:∀{z q:Nat},s.F.Up z q->q<s.N->z<s.N:=by
  intro z q u;induction u with
  |self=>exact λh=>h
  |step d _ t=>exact λ_=>t (o.dom _ _ d).1
 exact key n r
theorem RP(d:Nat):∀(s:bY) (h:Nat->Nat) (x p k:Nat) (L:List Nat),s.F.Ok (λi=>i<s.N) h->x<s.N->h x<=d->¬s.F.Up x p->p<s.N->(∀r∈L,r<s.N)->CZ d (s.row p k L) x=(CZ d s x).row p k L:=by
 induction d with
 |zero=>
  intro s h x p k L o hx I m z f;show(if 600<=s.N then((s.row p k L).fresh x).shut else(s.row p k L).fresh x)=(if 600<=s.N then(s.fresh x).shut else s.fresh x).row p k L;split<;>rfl
 |succ d A=>
  intro s h x p k L o hx I m z f;have g:x≠p:=λe=>m (by rw[e];exact .self);have v:(s.row p k L).F.kids x=s.F.kids x:=AI g;show(if 600<=s.N then((s.row p k L).fresh x).shut else((s.row p k L).F.kids x).foldl (E0 (CZ d) s.N) ((s.row p k L).fresh x))=(if 600<=s.N then(s.fresh x).shut else(s.F.kids x).foldl (E0 (CZ d) s.N) (s.fresh x)).row p k L;split
  .rfl
  rw[v];have key:∀(M:List Nat) (a:bY) (t:Nat->Nat),Ko s a h t x->(∀c∈M,s.F.par c=some x)->M.foldl (E0 (CZ d) s.N) (a.row p k L)=(M.foldl (E0 (CZ d) s.N) a).row p k L:=by
   intro M;induction M with
   |nil=>intro a t e _;rfl
   |cons c M y=>
    intro a t e E;have w:=E c Af;have T:=(o.dom x c w).2;have S:=o.ht x c w;have U:=e.lt;have n:t c<=d:=(by rw[e.hold c T];omega);have b:¬a.F.Up c p:=λu=>m (FX w ((Dt o e.par z).2 u));have e1:=A a t c p k L e.ok (by omega) n b (by omega) (λr hr=>by have:=f r hr;omega);obtain⟨C,H⟩:=DK d a t c e.ok (by omega) n;obtain⟨e2,_⟩:=Hi e T H S;show M.foldl (E0 (CZ d) s.N) ((CZ d (a.row p k L) c).Yz s.N s.N a.N)=_;have R:(CZ d (a.row p k L) c).Yz s.N s.N a.N=((CZ d a c).Yz s.N s.N a.N).row p k L:=by
     rw[e1];unfold bY.Yz bY.row Fo.Yr;congr 1;refine Fo.Yv (λi=> ?_) (λq=> ?_)
     .show(if i=a.N then some s.N else if i∈L then some p else(CZ d a c).F.par i)=(if i∈L then some p else if i=a.N then some s.N else(CZ d a c).F.par i);by_cases l:i=a.N
      .have:i∉L:=λO=>by have:=f i O;omega
       rw[AJ l,AI this,AJ l]
      rw[AI l,AI l]
     show(if q=s.N then Kv s.N a.N (if q=p then _ else _)else(if q=p then _ else _))=(if q=p then List.take k (if q=s.N then _ else _)++L++List.drop k (if q=s.N then _ else _)else(if q=s.N then _ else _));by_cases eq:q=p
     .have:q≠s.N:=by omega
      simp only[AJ eq,AI this]
     simp only[AI eq]
    rw[R];exact y _ _ e2 (λD j=>E D (Ab _ j))
  exact key (s.F.kids x) (s.fresh x) _ (Em o hx) (λc N=>(o.mem x c).1 N)
def CB(F:Fo)(e:List Nat):Fo:=e.foldl Fo.cut F
theorem Is(F:Fo)(e:List Nat)(c:Nat):CB F (e++[c])=(CB F e).cut c:=by simp[CB]
theorem Hh(o:F.Ok S h)(e:List Nat):(CB F e).Ok S h:=by
 induction e generalizing F with
 |nil=>exact o
 |cons c e t=>exact t (o.cut c)
theorem DL(e:List Nat):∀(F:Fo) (i:Nat),(CB F e).par i=if i∈e then none else F.par i:=by
 induction e with
 |nil=>intro F i;simp[CB]
 |cons c e o=>
  intro F i;show(CB (F.cut c) e).par i=_;rw[o];show(if i∈e then none else if i=c then none else F.par i)=_;by_cases a:i∈e
  .rw[AJ a,AJ (Ab _ a)]
  rw[AI a];by_cases t:i=c
  .rw[AJ t,AJ (by rw[t];exact Af)]
  rw[AI t,AI (by simp[a,t])]
theorem Dm(e:List Nat):∀(F:Fo) (p:Nat),(CB F e).kids p=(F.kids p).filter λc=> !decide (c∈e):=by
 induction e with
 |nil=>intro F p;show F.kids p=_;rw[List.filter_eq_self.2];intro a _;simp
 |cons c e o=>
  intro F p;show(CB (F.cut c) e).kids p=_;rw[o];show((F.kids p).filter λx=> !decide (x=c)).filter _=_;rw[List.filter_filter];refine List.filter_congr λx _=> ?_;by_cases t:x=c
  .simp[t]
  by_cases i:x∈e<;>simp[t,i]
theorem Iq(t:List Nat):∀{F:Fo} {S:Nat->Prop} {h:Nat->Nat} (o:F.Ok S h) (i:Nat),((B_ F t).par i=match F.par i with|some m=>if m∈t then none else some m|none=>none)/\(B_ F t).kids i=if i∈t then[]else F.kids i:=by
 induction t with
 |nil=>intro F S h o i;exact⟨by cases e:F.par i<;>simp[B_,e],by simp[B_]⟩
 |cons m t s=>
  intro F S h o i;obtain⟨a,r⟩:=s (o.clear m) i;refine⟨?_,?_⟩
  .show(B_ (F.clear m) t).par i=_;rw[a];show(match (if F.par i=some m then none else F.par i)with|some q=>if q∈t then none else some q|none=>none)=_;cases e:F.par i with
   |none=>simp
   |some q=>
    by_cases e2:q=m
    .subst e2;simp
    rw[AI (by intro d;cases d;exact e2 rfl)];simp[e2]
  show(B_ (F.clear m) t).kids i=_;rw[r];show(if i∈t then[]else if i=m then[]else F.kids i)=_;by_cases a:i∈t
  .rw[AJ a,AJ (Ab _ a)]
  rw[AI a];by_cases n:i=m
  .rw[AJ n,AJ (by rw[n];exact Af)]
  rw[AI n,AI (by simp[a,n])]
theorem NS(o:F.Ok S h)(t:List Nat):CB F (t.flatMap F.kids)=B_ F t:=by
 have key:∀i,i∈t.flatMap F.kids↔∃m∈t,F.par i=some m:=λi=>by
  rw[C1];constructor
  .rintro⟨m,a,n⟩;exact⟨m,a,(o.mem m i).1 n⟩
  rintro⟨m,a,n⟩;exact⟨m,a,(o.mem m i).2 n⟩
 refine Fo.Yv (λi=> ?_) (λp=> ?_)
 .rw[DL,(Iq t o i).1];cases e:F.par i with
  |none=>simp
  |some q=>
   by_cases s:q∈t
   .rw[AJ ((key i).2 ⟨q,s,e⟩)];simp[s]
   rw[AI (λn=>by obtain⟨m,a,e2⟩:=(key i).1 n;rw[e]at e2;cases e2;exact s a)];simp[s]
 rw[Dm,(Iq t o p).2];by_cases r:p∈t
 .rw[AJ r,List.filter_eq_nil_iff];intro c d;have:c∈t.flatMap F.kids:=(key c).2 ⟨p,r,(o.mem p c).1 d⟩;simp[this]
 rw[AI r,List.filter_eq_self];intro c d;have:c∉t.flatMap F.kids:=λl=>by
  obtain⟨m,a,e2⟩:=(key c).1 l;rw[(o.mem p c).1 d]at e2;cases e2;exact r a
 simp[this]
def Ap(last:Bool)(s:bY)(ws:List Nat):bY:=ws.foldl (λs w=>if last then s.cut w else CZ 600 s w) s
def La:bY->List Nat->List Nat
 |_,[]=>[]
 |s,w::ws=>s.N::La (CZ 600 s w) ws
def CI(last:Bool)(s:bY)(ws:List Nat):List Nat:=if last then ws else La s ws
abbrev Jn(op:Int):Prop:=op=3\/op=4
def CK(op:Int)(F:Fo)(x:Nat):Nat:=if Jn op then(F.par x).getD 0 else x
def DE(op:Int)(F:Fo)(x p:Nat):Nat:=if op=2 then 0 else((F.kids p).takeWhile λc=> !decide (c=x)).length+if op=3 then 1 else 0
def Bm(op:Int)(last:Bool)(s:bY)(x:Nat)(ws:List Nat):bY:=
 (Ap last s ws).row (CK op (Ap last s ws).F x) (DE op (Ap last s ws).F x (CK op (Ap last s ws).F x)) (CI last s ws)
def Bl(op:Int)(s:bY)(xs ws:List Nat):Nat->bY
 |0=>s
 |i+1=>Bm op (decide (i+1=xs.length)) (Bl op s xs ws i) (xs.getD i 0) ws
theorem DW(last:Bool)(s:bY)(ws:List Nat)(w:Nat):Ap last s (ws++[w])=if last then(Ap last s ws).cut w else CZ 600 (Ap last s ws) w:=by simp[Ap]
theorem Qz(w:Nat):∀(ws:List Nat) (s:bY),La s (ws++[w])=La s ws++[(Ap false s ws).N]:=by
 intro ws;induction ws with
 |nil=>intro s;rfl
 |cons a ws e=>intro s;show s.N::La (CZ 600 s a) (ws++[w])=_;rw[e];rfl
theorem En(last:Bool)(s:bY)(ws:List Nat)(w:Nat):CI last s (ws++[w])=CI last s ws++[if last then w else(Ap last s ws).N]:=by
 cases last
 .exact Qz w ws s
 rfl
theorem DT(last:Bool)(s:bY):∀ws:List Nat,(CI last s ws).length=ws.length:=by
 cases last
 .intro ws;induction ws generalizing s with
  |nil=>rfl
  |cons a ws e=>show(s.N::La (CZ 600 s a) ws).length=_;have:=e (CZ 600 s a);simp only[CI,Bv,if_false]at this;simp[this]
 intro ws;rfl
theorem Fo.Up.tr{a b:Nat}(u:F.Up a b)(v:F.Up b c):F.Up a c:=by
 induction v with
 |self=>exact u
 |step t _ e=>exact .step t e
theorem Fo.Up.Y4{N:Nat}(o:F.Ok (λi=>i<N) h){z q:Nat}(u:F.Up z q)(t:q<N):z<N:=by
 induction u with
 |self=>exact t
 |step a _ e=>exact e (o.dom _ _ a).1
structure Inv(n:Nat)(F0:Fo)(h0:Nat->Nat)(nd0:Nat->Nd)(op:Int)(xs ws:List Nat)(s:bY)(h:Nat->Nat):Prop where
 ok:s.F.Ok (λi=>i<s.N) h
 le:n<=s.N
 sub:∀w∈ws,∀y,F0.Up w y->s.F.kids y=F0.kids y/\h y=h0 y
 up:∀w∈ws,∀x∈xs,¬s.F.Up w x
 par:Jn op->∀x∈xs,s.F.par x≠none
 nds:∀y,y<s.N->∃z,z<n/\s.nd y=nd0 z
structure YP(n:Nat)(nd0:Nat->Nd)(s a:bY)(h ha:Nat->Nat)(l:List Nat):Prop where
 ok:a.F.Ok (λi=>i<a.N) ha
 le:s.N<=a.N
 hold:∀y,y<s.N->ha y=h y
 kids:∀y,y<s.N->a.F.kids y=s.F.kids y
 par:∀y,y<s.N->a.F.par y=s.F.par y
 ndo:∀y,y<s.N->a.nd y=s.nd y
 nds:∀y,y<a.N->∃z,z<n/\a.nd y=nd0 z
 root:∀r∈l,s.N<=r/\r<a.N/\a.F.par r=none
 nodup:l.Nodup
theorem Lr{F0:Fo}{ws:List Nat}(I:Inv n F0 D f U Y ws s h)(g:∀w∈ws,w<n/\D w<=600):∀(j:Nat),∃o,YP n f s (Ap false s (ws.take j)) h o (CI false s (ws.take j)):=by
 have x:∀w∈ws,w<s.N/\h w<=600:=λw d=>⟨by have:=(g w d).1;have:=I.le;omega,by rw[(I.sub w d w .self).2];exact(g w d).2⟩;intro j;induction j with
 |zero=>exact⟨h,I.ok,AG _,λ_ _=>rfl,λ_ _=>rfl,λ_ _=>rfl,λ_ _=>rfl,I.nds,λr hr=>by simp[CI,La]at hr,by simp[CI,La]⟩
 |succ j k=>
  obtain⟨o,A⟩:=k;by_cases m:j<ws.length
  .obtain⟨v,p⟩:=x ws[j] (AD m);have c:=A.le;obtain⟨l,E⟩:=DK 600 (Ap false s (ws.take j)) o ws[j] A.ok (by omega) (by rw[A.hold _ v];exact p);have u:=E.lt;rw[AF m,DW,En];simp only[Bv,if_false];refine⟨l,E.ok,by omega,λy t=>(E.hold y (by omega)).trans (A.hold y t),λy t=>(E.kids y (by omega)).trans (A.kids y t),λy t=>(E.par y (by omega)).trans (A.par y t),λy t=>(E.ndo y (by omega)).trans (A.ndo y t),λy t=> ?_,λr hr=> ?_,?_⟩
   .by_cases e:y<(Ap false s (ws.take j)).N
    .rw[E.ndo y e];exact A.nds y e
    obtain⟨z,q,e2⟩:=E.newn y (by omega) t;rw[e2];exact A.nds z q
   .rcases AV.1 hr with i|i
    .obtain⟨r1,r2,r3⟩:=A.root r i;exact⟨r1,by omega,(E.par r r2).trans r3⟩
    rw[AP]at i;subst i;exact⟨c,u,E.root⟩
   refine BA.2 ⟨A.nodup,by simp,λa o b l e=> ?_⟩;rw[AP]at l;have:=(A.root a o).2.1;omega
  have e:ws.take (j+1)=ws.take j:=by rw[BP (by omega),BP (by omega)]
  rw[e];exact⟨o,A⟩
structure YQ(s a:bY)(h:Nat->Nat)(l:List Nat):Prop where
 ok:a.F.Ok (λi=>i<a.N) h
 N:a.N=s.N
 nd:a.nd=s.nd
 op:a.op=s.op
 par:∀y,a.F.par y=if y∈l then none else s.F.par y
 kids:∀y,a.F.kids y=(s.F.kids y).filter λc=> !decide (c∈l)
theorem GL(o:s.F.Ok (λi=>i<s.N) h)(ws:List Nat):YQ s (Ap true s ws) h ws:=by
 have key:∀(ws:List Nat) (s:bY),(Ap true s ws).F=CB s.F ws/\(Ap true s ws).N=s.N/\(Ap true s ws).nd=s.nd/\(Ap true s ws).op=s.op:=by
  intro ws;induction ws with
  |nil=>intro s;exact⟨rfl,rfl,rfl,rfl⟩
  |cons w ws r=>intro s;exact r (s.cut w)
 obtain⟨e,t,n,a⟩:=key ws s;refine⟨by rw[e,t];exact Hh o ws,t,n,a,λy=>by rw[e,DL],λy=>by rw[e,Dm]⟩
theorem U9{F0 G:Fo}{w:Nat}(e:∀p c,c∈F0.kids p↔F0.par c=some p)(a:∀p c,c∈G.kids p↔G.par c=some p)(o:∀y,F0.Up w y->G.kids y=F0.kids y){y:Nat}(u:F0.Up w y):G.Up w y:=by
 induction u with
 |self=>exact .self
 | @step y p n i t=>
   refine .step ((a p y).1 ?_) t;rw[o p i];exact(e p y).2 n
theorem I8(x:Nat)(K:List Nat):K=(K.takeWhile λc=> !decide (c=x))++K.dropWhile (λc=> !decide (c=x)):=(List.takeWhile_append_dropWhile).symm
theorem U5:∀{K:List Nat},x∉K->(K.takeWhile λc=> !decide (c=x))=K:=by
 intro K;induction K with
 |nil=>intro _;rfl
 |cons a K t=>
  intro h;have i:a≠x:=λe=>h (by rw[e];exact Af);rw[List.takeWhile_cons];simp only[decide_eq_false i,Bool.not_false,if_true];rw[t λo=>h (Ab _ o)]
theorem Ob:∀{K:List Nat},x∈K->(K.dropWhile λc=> !decide (c=x)).head? =some x:=by
 intro K;induction K with
 |nil=>intro h;cases h
 |cons a K t=>
  intro h;rw[List.dropWhile_cons];by_cases e:a=x
  .subst e;simp
  simp only[decide_eq_false e,Bool.not_false,if_true];refine t ?_;rcases BQ.1 h with h|h
  .exact absurd h.symm e
  exact h
theorem Fm(op:Int)(n:op=1\/op=2\/op=4\/op=3)(o:F.Ok S h)(hx:Jn op->F.par x≠none):
 ∃l1 l2,F.kids (CK op F x)=l1++l2/\l1.length=DE op F x (CK op F x)/\NM op F x (CK op F x) l1 l2/\True:=by
 rcases n with rfl|rfl|rfl|rfl
 .have e:CK 1 F x=x:=rfl;rw[e];have l:x∉F.kids x:=λi=>by have:=o.ht _ _ ((o.mem _ _).1 i);omega
  have e2:((F.kids x).takeWhile λc=> !decide (c=x))=F.kids x:=by
   exact U5 l
  refine⟨F.kids x,[],by simp,?_,.inl ⟨rfl,rfl,rfl⟩,trivial⟩;unfold DE;rw[AI (by decide),e2,AI (by decide)];rfl
 .exact⟨[],F.kids x,rfl,rfl,.inr (.inl ⟨rfl,rfl,rfl⟩),trivial⟩
 .cases t:F.par x with
  |none=>exact absurd t (hx (.inr rfl))
  |some p=>
   have e:CK 4 F x=p:=by unfold CK;rw[AJ (.inr rfl),t];rfl
   rw[e];have i:=(o.mem p x).2 t;refine⟨_,_,I8 x (F.kids p),?_,.inr (.inr (.inl ⟨rfl,t,Ob i⟩)),trivial⟩;unfold DE;rw[AI (by decide),AI (by decide)];rfl
 cases t:F.par x with
 |none=>exact absurd t (hx (.inl rfl))
 |some p=>
  have e:CK 3 F x=p:=by unfold CK;rw[AJ (.inl rfl),t];rfl
  rw[e];have i:=(o.mem p x).2 t;obtain⟨r,hr⟩:∃r,(F.kids p).dropWhile (λc=> !decide (c=x))=x::r:=by
   have:=Ob i;cases d:(F.kids p).dropWhile (λc=> !decide (c=x))with
   |nil=>rw[d]at this;simp at this
   |cons a r=>rw[d]at this;have e2:a=x:=by simpa using this
              exact⟨r,by rw[e2]⟩
  have s:=I8 x (F.kids p);rw[hr]at s;refine⟨((F.kids p).takeWhile λc=> !decide (c=x))++[x],r,?_,?_,.inr (.inr (.inr ⟨.inl rfl,t,by simp⟩)),trivial⟩
  .rw[Bw];exact s
  unfold DE;rw[AI (by decide),AJ rfl,AN];rfl
theorem IM{N:Nat}(o:F.Ok (λi=>i<N) h)(a:x<N)(hx:Jn U->F.par x≠none):CK U F x<N/\F.Up (CK U F x) x:=by
 unfold CK;by_cases e:Jn U
 .rw[AJ e];cases t:F.par x with
  |none=>exact absurd t (hx e)
  |some p=>exact⟨(o.dom p x t).1,.step t .self⟩
 rw[AI e];exact⟨a,.self⟩
theorem PR{F0:Fo}(F:U=1\/U=2\/U=4\/U=3)(P:F0.Ok (λi=>i<n) D)(I:Inv n F0 D f U Y J s h)(V:∀w∈J,w<n/\D w<=600)(H:∀x∈Y,x<n)(hx:x∈Y):
 ∃O,Inv n F0 D f U Y J (Bm U false s x J) O:=by
 obtain⟨ha,t⟩:=Lr I V J.length;rw[AU]at t;obtain⟨a,K⟩:∃a,a=Ap false s J:=⟨_,rfl⟩;have b:Bm U false s x J=a.row (CK U a.F x) (DE U a.F x (CK U a.F x)) (CI false s J):=by rw[K];rfl
 rw[<-K]at t;have l:∀z∈Y,z<s.N:=λz k=>by have:=H z k;have:=I.le;omega
 have m:=l x hx;have E:Jn U->a.F.par x≠none:=λe=>by rw[t.par x m];exact I.par e x hx
 obtain⟨T,M⟩:=IM t.ok (AR m t.le) E;obtain⟨l1,l2,B,A,hIn,-⟩:=Fm U F t.ok E;have c:s.F.Up (CK U a.F x) x:=(Dt I.ok t.par m).2 M;have g:CK U a.F x<s.N:=c.Y4 I.ok m;obtain⟨p,hp⟩:∃p,p=CK U a.F x:=⟨_,rfl⟩;rw[<-hp]at b B A T c g;have R:∀w∈J,¬s.F.Up w p:=λw o u=>I.up w o x hx (u.tr c);have hL:∀r∈CI false s J,r<a.N/\a.F.par r=none/\¬a.F.Up r p:=λr hr=>by
  obtain⟨r1,r2,r3⟩:=t.root r hr;refine⟨r2,r3,λu=> ?_⟩;have:=((Dt I.ok t.par g).2 u).Y4 I.ok g;omega
 obtain⟨O,q,W⟩:=F8 t.ok B T hL t.nodup;rw[A]at q;have C:∀w∈J,∀y,F0.Up w y->s.F.Up w y:=λw o y u=>U9 P.mem I.ok.mem (λy Z=>(I.sub w o y Z).1) u;have L:∀w∈J,∀y,F0.Up w y->y<s.N:=λw o y u=>by
  have Q:=P.Y7 (S:=λi=>i<n) (V w o).1 u;have:=I.le;exact AR Q this
 refine⟨O,?_⟩;rw[b];refine⟨q,AH I.le t.le,λw o y u=> ?_,λw o z k=> ?_,λe z k=> ?_,t.nds⟩
 .have G:=L w o y u;have X:=C w o y u;have j:¬s.F.Up y p:=λv=>R w o (X.tr v);have N:¬a.F.Up y p:=λv=>j ((Dt I.ok t.par g).2 v);have e1:(a.row p (DE U a.F x p) (CI false s J)).F.kids y=a.F.kids y:=AI λe=>j (by rw[e];exact .self);rw[e1,t.kids y G,W y N,t.hold y G];exact I.sub w o y u
 .intro u;have d:=l z k;have hr:∀r∈CI false s J,¬a.F.Up r z:=λr hr v=>by
   have Q:=(t.root r hr).1;have:=((Dt I.ok t.par d).2 v).Y4 I.ok d;omega
  exact I.up w o z k ((Dt I.ok t.par d).2 ((Uq hr w).2 u))
 have d:=l z k;show(if z∈CI false s J then some p else a.F.par z)≠none;split
 .simp
 rw[t.par z d];exact I.par e z k
theorem KL{F0:Fo}{op:Int}(j:op=1\/op=2\/op=4\/op=3)(I:Inv n F0 D f op Y J s h)(O:J.Nodup)(H:∀w∈J,w<n)(p:∀x∈Y,x<n)(hx:x∈Y):
 ∃m,(Bm op true s x J).F.Ok (λi=>i<(Bm op true s x J).N) m/\(Bm op true s x J).N=s.N/\(Bm op true s x J).nd=s.nd/\(Bm op true s x J).op=s.op:=by
 have T:=GL I.ok J;obtain⟨a,E⟩:∃a,a=Ap true s J:=⟨_,rfl⟩;have l:Bm op true s x J=a.row (CK op a.F x) (DE op a.F x (CK op a.F x)) J:=by rw[E];rfl
 rw[<-E]at T;have b:x<s.N:=by have:=p x hx;have:=I.le;omega
 have g:x∉J:=λN=>I.up x N x hx .self;have o:Jn op->a.F.par x≠none:=λe=>by rw[T.par x,AI g];exact I.par e x hx
 obtain⟨k,v⟩:=IM T.ok (by rw[T.N];exact b) o;obtain⟨l1,l2,S,z,-⟩:=Fm op j T.ok o;have d:∀{y q:Nat},a.F.Up y q->s.F.Up y q:=by
  intro y q u;induction u with
  |self=>exact .self
  |step c _ A=>
   rw[T.par]at c;split at c
   .cases c
   exact .step c A
 obtain⟨m,t,-⟩:=F8 T.ok S k (L:=J) (λr hr=>⟨by rw[T.N];have:=H r hr;have:=I.le;omega,by rw[T.par,AJ hr],λu=>I.up r hr x hx (d (u.tr v))⟩) O;rw[z]at t;rw[l];exact⟨m,t,T.N,T.nd,T.op⟩
theorem EM{F0:Fo}(v:U=1\/U=2\/U=4\/U=3)(I:Inv n F0 D f U Y J s h)(N:J.Nodup)(E:∀w∈J,w<n/\D w<=600)(z:∀x∈Y,x<n)(hx:x∈Y)(last:Bool):
 ∃R l1 l2,(Ap last s J).F.Ok (λi=>i<(Ap last s J).N) R/\(Ap last s J).F.kids (CK U (Ap last s J).F x)=l1++l2/\l1.length=DE U (Ap last s J).F x (CK U (Ap last s J).F x)/\NM U (Ap last s J).F x (CK U (Ap last s J).F x) l1 l2/\x<(Ap last s J).N/\CK U (Ap last s J).F x<(Ap last s J).N/\
  (∀y∈CI last s J,y<(Ap last s J).N/\(Ap last s J).F.par y=none/\CK U (Ap last s J).F x≠y/\¬(Ap last s J).F.Up y (CK U (Ap last s J).F x))/\(CI last s J).Nodup:=by
 have t:x<s.N:=by have:=z x hx;have:=I.le;omega
 cases last
 .obtain⟨H,A⟩:=Lr I E J.length;rw[AU]at A;have a:Jn U->(Ap false s J).F.par x≠none:=λe=>by rw[A.par x t];exact I.par e x hx
  obtain⟨l,r⟩:=IM A.ok (AR t A.le) a;obtain⟨l1,l2,k,c,m,-⟩:=Fm U v A.ok a;have b:=((Dt I.ok A.par t).2 r).Y4 I.ok t;exact⟨H,l1,l2,A.ok,k,c,m,AR t A.le,l,λy g=>⟨(A.root y g).2.1,(A.root y g).2.2,by have:=(A.root y g).1;omega,λu=>by
   have p:=(A.root y g).1;have:=((Dt I.ok A.par b).2 u).Y4 I.ok b;omega⟩,A.nodup⟩
 have T:=GL I.ok J;have j:x∉J:=λS=>I.up x S x hx .self;have a:Jn U->(Ap true s J).F.par x≠none:=λe=>by rw[T.par x,AI j];exact I.par e x hx
 obtain⟨l,r⟩:=IM T.ok (by rw[T.N];exact t) a;obtain⟨l1,l2,k,c,m,-⟩:=Fm U v T.ok a;have d:∀{y q:Nat},(Ap true s J).F.Up y q->s.F.Up y q:=by
  intro y q u;induction u with
  |self=>exact .self
  |step p _ O=>
   rw[T.par]at p;split at p
   .cases p
   exact .step p O
 refine⟨h,l1,l2,T.ok,k,c,m,by rw[T.N];exact t,l,λy g=> ?_,N⟩;have o:y∈J:=g;exact⟨by rw[T.N];have:=(E y o).1;have:=I.le;omega,by rw[T.par,AJ o],λe=>I.up y o x hx (by rw[<-e];exact d r),λu=>I.up y o x hx (d (u.tr r))⟩
theorem UP{G:Fo}{N:Nat}(n:∀y,y<N->G.kids y=F.kids y)(s:∀y,y<N->∀c∈F.kids y,c<N):∀(d y:Nat),y<N->G.lst d y=F.lst d y:=by
 intro d;induction d with
 |zero=>intro y _;rfl
 |succ d i=>
  intro y a;show y::(G.kids y).flatMap (G.lst d)=y::(F.kids y).flatMap (F.lst d);rw[n y a];congr 1;have:∀l:List Nat,(∀c∈l,c<N)->l.flatMap (G.lst d)=l.flatMap (F.lst d):=by
   intro l;induction l with
   |nil=>intro _;rfl
   |cons c l e=>intro o;rw[A_,A_,i c (o c Af),e λh t=>o h (Ab _ t)]
  exact this _ (s y a)
theorem Qj{G:Fo}(n:∀p c,c∈F.kids p->F.par c=some p):∀(d w:Nat),(∀y,F.Up w y->G.kids y=F.kids y)->G.lst d w=F.lst d w:=by
 intro d;induction d with
 |zero=>intro y _;rfl
 |succ d i=>
  intro w a;show w::(G.kids w).flatMap (G.lst d)=w::(F.kids w).flatMap (F.lst d);rw[a w .self];congr 1;have:∀l:List Nat,(∀c∈l,c∈F.kids w)->l.flatMap (G.lst d)=l.flatMap (F.lst d):=by
   intro l;induction l with
   |nil=>intro _;rfl
   |cons c l e=>
    intro o;rw[A_,A_,i c (λy u=>a y (FX (n w c (o c Af)) u)),e λs t=>o s (Ab _ t)]
  exact this _ (λ_ h=>h)
theorem OE(d:Nat):∀(s:bY) (h:Nat->Nat) (x:Nat),s.F.Ok (λi=>i<s.N) h->x<s.N->h x<=d->(CZ d s x).N<=s.N+(s.F.lst d x).length:=by
 induction d with
 |zero=>
  intro s h x o hx p;show(if 600<=s.N then(s.fresh x).shut else s.fresh x).N<=s.N+1;split<;>exact AG _
 |succ d g=>
  intro s h x o hx p;have T:(s.F.lst (d+1) x).length=1+((s.F.kids x).flatMap (s.F.lst d)).length:=by show(x::(s.F.kids x).flatMap (s.F.lst d)).length=_;rw[Ak];omega
  show(if 600<=s.N then(s.fresh x).shut else(s.F.kids x).foldl (E0 (CZ d) s.N) (s.fresh x)).N<=_;split
  .show s.N+1<=_;omega
  have key:∀(M:List Nat) (a:bY) (t:Nat->Nat),Ko s a h t x->(∀c∈M,s.F.par c=some x)->(M.foldl (E0 (CZ d) s.N) a).N<=a.N+(M.flatMap (s.F.lst d)).length:=by
   intro M;induction M with
   |nil=>intro a t e _;exact Nat.le_add_right _ _
   |cons c M u=>
    intro a t e f;have w:=f c Af;have l:=(o.dom x c w).2;have b:=o.ht x c w;have z:=e.lt;have n:t c<=d:=(by rw[e.hold c l];omega);have e1:=g a t c e.ok (by omega) n;rw[UP e.kids (λy E c r=>(o.dom y c ((o.mem y c).1 r)).2) d c l]at e1;obtain⟨A,v⟩:=DK d a t c e.ok (by omega) n;obtain⟨e2,_⟩:=Hi e l v b;have q:=u _ _ e2 (λj m=>f j (Ab _ m));have k:((CZ d a c).Yz s.N s.N a.N).N=(CZ d a c).N:=rfl;rw[k]at q;rw[A_,AN];show(M.foldl (E0 (CZ d) s.N) ((CZ d a c).Yz s.N s.N a.N)).N<=_;omega
  have I:=key (s.F.kids x) (s.fresh x) _ (Em o hx) (λc r=>(o.mem x c).1 r);have O:(s.fresh x).N=s.N+1:=rfl;omega
theorem Vk(d:Nat)(s:bY)(x:Nat)(h:600<=s.N):(CZ d s x).N=s.N+1:=by
 cases d with
 |zero=>show(if 600<=s.N then _ else _:bY).N=_;rw[AJ h];rfl
 |succ d=>show(if 600<=s.N then _ else _:bY).N=_;rw[AJ h];rfl
theorem Di{F0:Fo}(t:F0.Ok (λi=>i<n) D)(O:n<=600){ws:List Nat}(I:Inv n F0 D f U Y ws s h)(m:∀w∈ws,w<n/\D w<=600)(N:1200<=c)(v:s.N<=c)(j:Nat):(Ap false s (ws.take j)).N<=c+j:=by
 induction j with
 |zero=>exact v
 |succ j T=>
  by_cases l:j<ws.length
  .obtain⟨z,A⟩:=Lr I m j;have a:=AD l;obtain⟨d,r⟩:=m ws[j] a;have o:=I.le;have b:ws[j]<s.N:=by omega
   rw[AF l,DW];simp only[Bv,if_false];by_cases E:600<=(Ap false s (ws.take j)).N
   .rw[Vk _ _ _ E];omega
   have k:=OE 600 (Ap false s (ws.take j)) z ws[j] A.ok (by have:=A.le;omega) (by rw[A.hold _ b,(I.sub _ a _ .self).2];exact r);have e1:(Ap false s (ws.take j)).F.lst 600 ws[j]=F0.lst 600 ws[j]:=Qj (λp c=>(t.mem p c).1) 600 ws[j] λy u=>by
    have g:y<s.N:=AR (t.Y7 (S:=λi=>i<n) d u) o;rw[A.kids y g];exact(I.sub _ a y u).1
   have e2:F0.lst 600 ws[j]=F0.all D ws[j]:=F0.Yy t _ _ _ r (AG _);have H:=FB t (n:=n) (x:=ws[j]) (λi q=>q) d;rw[e1,e2]at k;omega
  have e:ws.take (j+1)=ws.take j:=by rw[BP (by omega),BP (by omega)]
  rw[e];omega
theorem Hl{F0:Fo}(t:U=1\/U=2\/U=4\/U=3)(a:F0.Ok (λi=>i<n) D)(m:n<=600)(I:Inv n F0 D f U Y J s h)(o:∀w∈J,w<n/\D w<=600)(e:∀x∈Y,x<n)(c:s.N<=1200):∀i,i<Y.length->∃r,Inv n F0 D f U Y J (Bl U s Y J i) r/\(Bl U s Y J i).N<=1200+i*J.length:=by
 intro i;induction i with
 |zero=>intro _;exact⟨h,I,by rw[Nat.zero_mul];exact c⟩
 |succ i u=>
  intro b;obtain⟨r,l,y⟩:=u (by omega);have e1:decide (i+1=Y.length)=false:=decide_eq_false (by omega);have e2:Y.getD i 0=Y[i]'(by omega):=by rw[Ae,AK (by omega),BE]
  have d:Bl U s Y J (i+1)=Bm U false (Bl U s Y J i) (Y[i]'(by omega)) J:=by
   show Bm U (decide (i+1=Y.length)) _ (Y.getD i 0) J=_;rw[e1,e2]
  obtain⟨g,p⟩:=PR t a l o e (AD (show i<Y.length by omega));refine⟨g,by rw[d];exact p,?_⟩;have:=Di a m l o (by omega) y J.length;rw[AU]at this;rw[d,Nat.succ_mul];show(Ap false (Bl U s Y J i) J).N<=_;omega
theorem MX{N:Nat}(o:F.Ok (λi=>i<N) h):F.Ok (λi=>i<N) (λi=>(F.all h i).length)/\∀i,i<N->(F.all h i).length<=N:=by
 refine⟨⟨o.nodup,o.mem,o.dom,λp c n=> ?_⟩,λi t=>FB o (λi t=>t) t⟩;have a:=(o.mem p c).2 n;show(F.all h c).length<(F.all h p).length;rw[F.all_eq o p,Ak];have:(F.all h c).length<=((F.kids p).flatMap (F.all h)).length:=by
  obtain⟨l1,l2,e⟩:=List.append_of_mem a;rw[e,C9,A_,AN,AN];omega
 omega
theorem IG{α:Type}(f:bY->α->bY)(e:∀s k,s.op=true->(f s k).op=true):∀(l:List α) (s:bY),s.op=true->(l.foldl f s).op=true
 |[],s,h=>h
 |k::l,s,h=>IG f e l (f s k) (e s k h)
theorem Gd:∀(d:Nat) (s:bY) (x:Nat),s.op=true->(CZ d s x).op=true
 |0,s,x,h=>by unfold CZ;split;rfl;exact h
 |d+1,s,x,h=>by
  unfold CZ;split
  .rfl
  exact IG _ (λs k e=>by show(CZ d s k).op=true;exact Gd d s k e) _ _ h
theorem RU(f:bY->Nat->bY)(o:∀s k,s.N<=600->(f s k).op=false->s.op=false/\(f s k).N<=600)(t:∀s k,s.op=true->(f s k).op=true):∀(l:List Nat) (s:bY),s.N<=600->(l.foldl f s).op=false->(l.foldl f s).N<=600
 |[],s,h,_=>h
 |k::l,s,h,a=>by
  have i:(f s k).op=false:=by
   cases e:(f s k).op with
   |false=>rfl
   |true=>have:=IG f t l _ e;rw[show(l.foldl f (f s k)).op=false from a]at this;cases this
  exact RU f o t l _ (o s k h i).2 a
theorem RO:∀(d:Nat) (s:bY) (x:Nat),s.N<=600->(CZ d s x).op=false->s.op=false/\(CZ d s x).N<=600
 |0,s,x,h,t=>by
  unfold CZ at t|-;by_cases c:600<=s.N
  .rw[AJ c]at t;cases t
  rw[AI c]at t|-;exact⟨t,by show s.N+1<=600;omega⟩
 |d+1,s,x,h,t=>by
  have i:s.op=false:=by
   cases e:s.op with
   |false=>rfl
   |true=>have:=Gd (d+1) s x e;rw[t]at this;cases this
  unfold CZ at t|-;by_cases c:600<=s.N
  .rw[AJ c]at t;cases t
  rw[AI c]at t|-;exact⟨i,RU (E0 (CZ d) s.N) (λs2 k a o=>RO d s2 k a o) (λs2 k a=>Gd d s2 k a) (s.F.kids x) (s.fresh x) (by show s.N+1<=600;omega) t⟩
theorem Hk:∀(ws:List Nat) (last:Bool) (s:bY),s.N<=600->(Ap last s ws).op=false->s.op=false/\(Ap last s ws).N<=600
 |[],last,s,h,t=>⟨t,h⟩
 |w::ws,last,s,h,t=>by
  cases last
  .obtain⟨n,r⟩:(CZ 600 s w).op=false/\True:=by
    refine⟨?_,trivial⟩;cases e:(CZ 600 s w).op with
    |false=>rfl
    |true=>
     have:=IG (λs w=>if false=true then s.cut w else CZ 600 s w) (λs k i=>Gd 600 s k i) ws _ e;exact absurd (t.symm.trans this) (by decide)
   obtain⟨o,a⟩:=RO 600 s w h n;exact⟨o,(Hk ws false (CZ 600 s w) a t).2⟩
  have:=Hk ws true (s.cut w) h t;exact⟨this.1,this.2⟩
theorem Ma(op:Int)(s:bY)(xs ws:List Nat):∀i,s.N<=600->(Bl op s xs ws i).op=false->s.op=false/\(Bl op s xs ws i).N<=600
 |0,h,t=>⟨t,h⟩
 |i+1,h,t=>by
  have key:∀last (s2:bY) x,(Bm op last s2 x ws).op=(Ap last s2 ws).op/\(Bm op last s2 x ws).N=(Ap last s2 ws).N:=λlast s2 x=>⟨rfl,rfl⟩;have e:Bl op s xs ws (i+1)=Bm op (decide (i+1=xs.length)) (Bl op s xs ws i) (xs.getD i 0) ws:=rfl;rw[e]at t|-;obtain⟨d,r⟩:=key (decide (i+1=xs.length)) (Bl op s xs ws i) (xs.getD i 0);rw[d]at t;rw[r];have l:(Bl op s xs ws i).op=false:=by
   cases c:(Bl op s xs ws i).op with
   |false=>rfl
   |true=>
    have:(Ap (decide (i+1=xs.length)) (Bl op s xs ws i) ws).op=true:=by
     refine IG _ (λs k a=> ?_) ws _ c;split
     .exact a
     exact Gd 600 s k a
    rw[t]at this;cases this
  obtain⟨n,o⟩:=Ma op s xs ws i h l;exact⟨n,(Hk ws _ _ o t).2⟩
structure Df(r:Nat)(s:bY):Prop where
 ok:∃h,s.F.Ok (λi=>i<s.N) h
 le:r<=s.N
 few:s.N<=600
 r2:r<=200
 op:s.op=false
theorem Df.ZP(h:Df r s):∃d,s.F.Ok (λi=>i<s.N) d/\∀i,i<s.N->d i<=600:=by
 obtain⟨d,o⟩:=h.ok;obtain⟨o2,e⟩:=MX o;exact⟨_,o2,λi t=>AH (e i t) h.few⟩
def Dl(op:Int)(s:bY)(xs ws:List Nat):Prop:=ws≠[]/\GB s.F ws xs/\(¬Jn op->∀x∈xs,(s.nd x).kind=3)/\(Jn op->∀x∈xs,s.F.par x≠none)
theorem bY.Za(h:s.op=false):(⟨s.F,s.N,s.nd,false⟩:bY)=s:=by
 obtain⟨F,N,nd,op⟩:=s;have h:op=false:=h;rw[h]
theorem KK(t:Df r s)(a:U=1\/U=2\/U=4\/U=3)(hx:∀x∈Y,x<r)(n:∀x∈J,x<r)(d:Dl U s Y J)(o:s.F.Ok (λi=>i<s.N) D)(l:∀i,i<s.N->D i<=600):
 ∀i,i<Y.length->∃h,Inv s.N s.F D s.nd U Y J (Bl U s Y J i) h/\(Bl U s Y J i).N<=1200+i*J.length:=by
 have m:=t.le;exact Hl (h:=D) a o t.few ⟨o,AG _,λ_ _ _ _=>⟨rfl,rfl⟩,λx hx y e=>by
  obtain⟨i,c,rfl⟩:=An hx;obtain⟨j,u,rfl⟩:=An e;exact d.2.1.2 i j c u,d.2.2.2,λy e=>⟨y,e,rfl⟩⟩ (λx hx=>⟨by have:=n x hx;omega,l x (by have:=n x hx;omega)⟩) (λx h=>by have:=hx x h;omega) (by have:=t.few;omega)
theorem Df.ins(t:Df r s)(a:U=1\/U=2\/U=4\/U=3)(hx:∀x∈Y,x<r)(c:∀x∈J,x<r)(d:J.Nodup)(n:Y≠[])(p:Dl U s Y J)(m:(Bl U s Y J Y.length).op=false):
 Df r (Bl U s Y J Y.length)/\(∀y,y<(Bl U s Y J Y.length).N->∃z,z<s.N/\(Bl U s Y J Y.length).nd y=s.nd z)/\s.N<=(Bl U s Y J Y.length).N:=by
 obtain⟨E,o,g⟩:=t.ZP;have q:=t.le;have k:0<Y.length:=List.length_pos_iff.2 n;obtain⟨T,I,-⟩:=KK t a hx c p o g (Y.length-1) (by omega);have e:Bl U s Y J Y.length=Bm U true (Bl U s Y J (Y.length-1)) (Y[Y.length-1]'(by omega)) J:=by
  have e1:Y.length=(Y.length-1)+1:=by omega
  conv=>lhs;rw[e1]
  show Bm U (decide (Y.length-1+1=Y.length)) _ (Y.getD (Y.length-1) 0) J=_;rw[decide_eq_true (by omega:Y.length-1+1=Y.length),Ae,AK (by omega),BE]
 obtain⟨v,u,i,l,j⟩:=KL a I d (λw h=>by have:=c w h;omega) (λx h=>by have:=hx x h;omega) (AD (show Y.length-1<Y.length by omega));obtain⟨-,b⟩:=Ma U s Y J Y.length t.few m;rw[<-e]at u i l;have:=I.le;exact⟨⟨⟨v,u⟩,by rw[i];omega,b,t.r2,m⟩,λy f=>by rw[l];exact I.nds y (by rw[<-i];exact f),by rw[i];exact I.le⟩
def ID(F:Fo)(l:List Nat)(x:Nat):List Nat:=match F.par x with
 |some p=>if p∈l then l else l++[p]
 |none=>l
def Cm(F:Fo)(xs:List Nat):List Nat:=xs.foldl (ID F) []
theorem Nn(F:Fo)(xs:List Nat)(x:Nat):Cm F (xs++[x])=ID F (Cm F xs) x:=by unfold Cm;rw[List.foldl_append];rfl
theorem Ec(F:Fo):∀xs:List Nat,(Cm F xs).Nodup/\(Cm F xs).length<=xs.length/\∀p∈Cm F xs,∃x∈xs,F.par x=some p:=by
 intro xs;have key:∀(t l:List Nat),l.Nodup->(t.foldl (ID F) l).Nodup/\(t.foldl (ID F) l).length<=l.length+t.length/\∀p∈t.foldl (ID F) l,p∈l\/∃x∈t,F.par x=some p:=by
  intro t;induction t with
  |nil=>intro l i;exact⟨i,AG _,λp hp=> .inl hp⟩
  |cons y t c=>
   intro l i;rw[List.foldl_cons];have r:(ID F l y).Nodup/\(ID F l y).length<=l.length+1/\∀p∈ID F l y,p∈l\/F.par y=some p:=by
    unfold ID;cases e:F.par y with
    |none=>exact⟨i,Nat.le_succ _,λp hp=> .inl hp⟩
    |some q=>
     dsimp only;split
     .exact⟨i,Nat.le_succ _,λp hp=> .inl hp⟩
     rename_i m;refine⟨BA.2 ⟨i,by simp,λa w b f=> ?_⟩,by simp,λp hp=> ?_⟩
     .have:b=q:=by simpa using f
      subst this;exact λe=>m (e▸w)
     rcases AV.1 hp with h|h
     .exact .inl h
     have:p=q:=(by simpa using h);exact .inr (by rw[this])
   obtain⟨s,d,n⟩:=c (ID F l y) r.1;refine⟨s,by have:=r.2.1;simp only[Ak];omega,λp hp=> ?_⟩;rcases n p hp with h|⟨x,hx,e⟩
   .rcases r.2.2 p h with h|h
    .exact .inl h
    exact .inr ⟨y,Af,h⟩
   exact .inr ⟨x,Ab _ hx,e⟩
 obtain⟨s,d,n⟩:=key xs [] List.nodup_nil;exact⟨s,by simpa [Cm]using d,λp hp=>(n p hp).resolve_left (by simp)⟩
def I9(s:bY)(p:Nat):bY:={Bm 3 true s p (s.F.kids p)with F:=(Bm 3 true s p (s.F.kids p)).F.cut p}
def E5(s:bY)(e:List Nat):bY:=e.foldl I9 s
theorem LC(s:bY)(e:List Nat)(p:Nat):E5 s (e++[p])=I9 (E5 s e) p:=by unfold E5;rw[List.foldl_append];rfl
def Fo.Y'(F:Fo)(u p:Nat)(l1 l2 K:List Nat)(k:Nat):Fo:=⟨λi=>if i∈K.take k then some u else F.par i,λq=>if q=u then l1++K.take k++p::l2 else if q=p then K.drop k else F.kids q⟩
section
variable {F:Fo} {S:Nat->Prop} {h:Nat->Nat} (o:F.Ok S h) {u p:Nat} (hp:F.par p=some u) {l1 l2:List Nat} (hk:F.kids u=l1++p::l2) include o hp hk
theorem Oc:u≠p:=λe=>by have:=o.ht u p hp;rw[e]at this;omega
theorem JX(r:c∈F.kids p):F.par c=some p/\c∉l1/\c∉l2/\c≠p/\c≠u:=by
 have n:=(o.mem p c).1 r;have i:c∉F.kids u:=λt=>by
  have s:=(o.mem u c).1 t;rw[n]at s;exact Oc o hp hk (Cw s).symm
 rw[hk]at i;have a:=o.ht p c n;have d:=o.ht u p hp;refine⟨n,λt=>i (GU _ t),λt=>i (List.mem_append_right _ (Ab _ t)),λe=> ?_,λe=> ?_⟩
 .rw[e]at a;omega
 rw[e]at a;omega
theorem S':F.Y' u p l1 l2 (F.kids p) 0=F:=by
 refine Fo.Yv (λi=> ?_) (λq=> ?_)
 .show(if i∈(F.kids p).take 0 then some u else F.par i)=F.par i;rw[AI (by simp)]
 show(if q=u then l1++(F.kids p).take 0++p::l2 else if q=p then(F.kids p).drop 0 else F.kids q)=F.kids q;by_cases e:q=u
 .rw[AJ e,e,hk];simp
 rw[AI e];by_cases e2:q=p
 .rw[AJ e2,e2];rfl
 rw[AI e2]
theorem Rv(k:Nat):(F.Y' u p l1 l2 (F.kids p) k).Ok S h:=by
 have v:=Oc o hp hk;have r:=o.nodup p;have n:∀{c},c∈(F.kids p).take k->c∈F.kids p:=λt=>Ci t;have d:F.kids p=(F.kids p).take k++(F.kids p).drop k:=(Av k _).symm;refine⟨λq=> ?_,λq c=> ?_,λq c t=> ?_,λq c t=> ?_⟩
 .show(if q=u then l1++(F.kids p).take k++p::l2 else if q=p then(F.kids p).drop k else F.kids q).Nodup;by_cases e:q=u
  .rw[AJ e];have w:=o.nodup u;rw[hk]at w;have m:=BA.1 w;rw[Bw];refine BA.2 ⟨m.1,BA.2 ⟨r.sublist (List.take_sublist _ _),m.2.1,λa l b s e=> ?_⟩,λa l b s e=> ?_⟩
   .subst e;obtain⟨-,-,g,y,-⟩:=JX o hp hk (n l);rcases BQ.1 s with rfl|s
    .exact y rfl
    exact g s
   subst e;rcases AV.1 s with s|s
   .exact(JX o hp hk (n s)).2.1 l
   exact m.2.2 a l a s rfl
  rw[AI e];by_cases e2:q=p
  .rw[AJ e2];exact r.sublist (List.drop_sublist _ _)
  rw[AI e2];exact o.nodup q
 .show c∈(if q=u then l1++(F.kids p).take k++p::l2 else if q=p then(F.kids p).drop k else F.kids q)↔(if c∈(F.kids p).take k then some u else F.par c)=some q;by_cases t:c∈(F.kids p).take k
  .rw[AJ t];constructor
   .intro i;by_cases e:q=u
    .rw[e]
    rw[AI e]at i;exfalso;by_cases e2:q=p
    .rw[AJ e2]at i;rw[d]at r;exact(BA.1 r).2.2 c t c i rfl
    rw[AI e2]at i;have f:=(o.mem q c).1 i;rw[(JX o hp hk (n t)).1]at f;exact e2 (Cw f).symm
   intro e;have e:u=q:=Cw e;rw[AJ e.symm];simp[t]
  rw[AI t,<-o.mem q c];by_cases e:q=u
  .rw[AJ e,e,hk];simp[t]
  rw[AI e];by_cases e2:q=p
  .rw[AJ e2,e2];refine⟨λi=>List.mem_of_mem_drop i,λi=> ?_⟩;rw[d]at i;exact(AV.1 i).resolve_left t
  rw[AI e2]
 .change (if c∈(F.kids p).take k then some u else F.par c)=some q at t;split at t
  .rename_i i;have e:u=q:=Cw t;exact⟨e▸(o.dom u p hp).1,(o.dom p c ((o.mem p c).1 (n i))).2⟩
  exact o.dom q c t
 change (if c∈(F.kids p).take k then some u else F.par c)=some q at t;split at t
 .rename_i i;have e:u=q:=Cw t;have f:=o.ht p c ((o.mem p c).1 (n i));have j:=o.ht u p hp;rw[<-e];omega
 exact o.ht q c t
theorem S_(t:k<(F.kids p).length):((F.Y' u p l1 l2 (F.kids p) k).cut (F.kids p)[k]).kids u=(l1++(F.kids p).take k)++p::l2/\
 ((F.Y' u p l1 l2 (F.kids p) k).cut (F.kids p)[k]).put u (l1.length+k) (F.kids p)[k]=F.Y' u p l1 l2 (F.kids p) (k+1):=by
 obtain⟨c,r⟩:∃c,c=(F.kids p)[k]:=⟨_,rfl⟩;have l:c∈F.kids p:=by rw[r];exact AD t
 obtain⟨b,g,y,w,k5⟩:=JX o hp hk l;have v:=Oc o hp hk;have n:(F.kids p).take (k+1)=(F.kids p).take k++[c]:=by rw[r];exact AF t
 have a:(F.kids p).drop k=c::(F.kids p).drop (k+1):=by rw[r];exact Ck t
 have d:c∉(F.kids p).take k:=λhm=>by
  have:=o.nodup p;rw[<-Av k (F.kids p),a]at this;exact(BA.1 this).2.2 c hm c Af rfl
 have m:c∉(F.kids p).drop (k+1):=λhm=>by
  have:=o.nodup p;rw[<-Av k (F.kids p),a]at this;exact(B4.1 (BA.1 this).2.1).1 hm
 have s:((F.Y' u p l1 l2 (F.kids p) k).cut c).kids u=(l1++(F.kids p).take k)++p::l2:=by
  show((if u=u then l1++(F.kids p).take k++p::l2 else _).filter _)=_;rw[AJ rfl];refine CD λhm=> ?_;rcases AV.1 hm with hm|hm
  .rcases AV.1 hm with hm|hm
   .exact g hm
   exact d hm
  rcases BQ.1 hm with e|hm
  .exact w e
  exact y hm
 rw[<-r];refine⟨s,Fo.Yv (λi=> ?_) (λq=> ?_)⟩
 .show(if i=c then some u else if i=c then none else if i∈(F.kids p).take k then some u else F.par i)=(if i∈(F.kids p).take (k+1)then some u else F.par i);rw[n];by_cases e:i=c
  .rw[AJ e,AJ (by simp[e])]
  rw[AI e,AI e];by_cases e2:i∈(F.kids p).take k
  .rw[AJ e2,AJ (by simp[e2])]
  rw[AI e2,AI (by simp[e,e2])]
 show(if q=u then G6 (((F.Y' u p l1 l2 (F.kids p) k).cut c).kids q) (l1.length+k) c else((F.Y' u p l1 l2 (F.kids p) k).cut c).kids q)=(if q=u then l1++(F.kids p).take (k+1)++p::l2 else if q=p then(F.kids p).drop (k+1)else F.kids q);by_cases e:q=u
 .rw[AJ e,AJ e,e,s,show l1.length+k=(l1++(F.kids p).take k).length by rw[AN,At];omega,Dd,n];simp
 rw[AI e,AI e];show((if q=u then _ else if q=p then(F.kids p).drop k else F.kids q).filter _)=_;rw[AI e];by_cases e2:q=p
 .rw[AJ e2,AJ e2,a,CW];simp only[decide_true,Bool.not_true,Bv,if_false];exact CD m
 rw[AI e2,AI e2];refine CD λhm=> ?_;have f:=(o.mem q c).1 hm;rw[b]at f;exact e2 (Cw f).symm
end
theorem Ru{S:Nat->Prop}{h:Nat->Nat}(o:s.F.Ok S h){u p:Nat}(hp:s.F.par p=some u){l1 l2:List Nat}(hk:s.F.kids u=l1++p::l2):
 I9 s p={s with F:=(s.F.Y' u p l1 l2 (s.F.kids p) (s.F.kids p).length).cut p}:=by
 have D:=Oc o hp hk;obtain⟨K,v⟩:∃K,K=s.F.kids p:=⟨_,rfl⟩;have n:∀c∈K,s.F.par c=some p/\c∉l1/\c∉l2/\c≠p/\c≠u:=λc t=>JX o hp hk (by rw[<-v];exact t);obtain⟨b,H,N,I⟩:(Ap true s K).F=CB s.F K/\(Ap true s K).N=s.N/\(Ap true s K).nd=s.nd/\(Ap true s K).op=s.op:=by
  have key:∀(ws:List Nat) (s:bY),(Ap true s ws).F=CB s.F ws/\(Ap true s ws).N=s.N/\(Ap true s ws).nd=s.nd/\(Ap true s ws).op=s.op:=by
   intro ws;induction ws with
   |nil=>intro s;exact⟨rfl,rfl,rfl,rfl⟩
   |cons w ws O=>intro s;exact O (s.cut w)
  exact key K s
 have y:CK 3 (Ap true s K).F p=u:=by
  unfold CK;rw[AJ (.inl rfl),b,DL,AI (λl=>(n p l).2.2.2.1 rfl),hp];rfl
 have r:(Ap true s K).F.kids u=l1++p::l2:=by
  rw[b,Dm,hk];refine List.filter_eq_self.2 λc t=> ?_;have:c∉K:=λl=>by
   obtain⟨-,A,T,E,-⟩:=n c l;rcases AV.1 t with t|t
   .exact A t
   rcases BQ.1 t with t|t
   .exact E t
   exact T t
  simp[this]
 have m:=o.nodup u;rw[hk]at m;have d:p∉l1:=λl=>(BA.1 m).2.2 p l p Af rfl;have z:p∉l2:=(B4.1 (BA.1 m).2.1).1;have f:DE 3 (Ap true s K).F p u=(l1++[p]).length:=by
  unfold DE;rw[AI (by decide),AJ rfl,r,AN];congr 1;have e:=U5 d;rw[List.takeWhile_append_of_pos (λa R=>by
   have:a≠p:=λe2=>d (by rw[<-e2];exact R);simp[this])]
  rw[List.takeWhile_cons];simp
 have g:Bm 3 true s p K={s with F:=(CB s.F K).Yr u (l1++[p]).length K}:=by
  show(Ap true s K).row (CK 3 (Ap true s K).F p) (DE 3 (Ap true s K).F p (CK 3 (Ap true s K).F p)) K=_;have j:Ap true s K=⟨CB s.F K,s.N,s.nd,s.op⟩:=by rw[<-b,<-H,<-N,<-I]
  rw[y,f,j];rfl
 unfold I9;rw[<-v,g];show({s with F:=((CB s.F K).Yr u (l1++[p]).length K).cut p}:bY)=_;congr 1;have k:(CB s.F K).kids u=(l1++[p])++l2:=by rw[<-b,r];simp
 refine Fo.Yv (λi=> ?_) (λq=> ?_)
 .show(if i=p then none else if i∈K then some u else(CB s.F K).par i)=(if i=p then none else if i∈K.take K.length then some u else s.F.par i);rw[AU,DL];by_cases e:i=p
  .rw[AJ e,AJ e]
  rw[AI e,AI e];by_cases e2:i∈K
  .rw[AJ e2,AJ e2]
  rw[AI e2,AI e2,AI e2]
 show(((CB s.F K).Yr u (l1++[p]).length K).kids q).filter _=((if q=u then l1++K.take K.length++p::l2 else if q=p then K.drop K.length else s.F.kids q).filter _);rw[AU,List.drop_length];by_cases e:q=u
 .rw[AJ e,e,DU _ _ k];simp only[List.filter_append,CW,List.filter_nil,decide_true,Bool.not_true,Bv,if_false];simp
 have e1:((CB s.F K).Yr u (l1++[p]).length K).kids q=(CB s.F K).kids q:=AI e;rw[e1,AI e,Dm];by_cases e2:q=p
 .rw[AJ e2,e2,<-v];congr 1;rw[List.filter_eq_nil_iff];intro c t;simp[t]
 rw[AI e2];congr 1;refine List.filter_eq_self.2 λc t=> ?_;have:c∉K:=λl=>by
  have x:=(o.mem q c).1 t;rw[(n c l).1]at x;exact e2 (Cw x).symm
 simp[this]
theorem N0{S:Nat->Prop}{h:Nat->Nat}(o:s.F.Ok S h){p:Nat}(hp:s.F.par p≠none):(I9 s p).F.Ok S h/\(I9 s p).N=s.N/\(I9 s p).nd=s.nd/\(I9 s p).op=s.op/\∀q,q≠p->s.F.par q≠none->(I9 s p).F.par q≠none:=by
 cases e:s.F.par p with
 |none=>exact absurd e hp
 |some u=>
  obtain⟨l1,l2,hk⟩:=D3 ((o.mem u p).2 e);rw[Ru o e hk];refine⟨(Rv o e hk _).cut p,rfl,rfl,rfl,λq t a=> ?_⟩;show(if q=p then none else if q∈(s.F.kids p).take (s.F.kids p).length then some u else s.F.par q)≠none;rw[AI t];split
  .simp
  exact a
theorem Hu{S:Nat->Prop}{h:Nat->Nat}(o:s.F.Ok S h):∀(t:List Nat),t.Nodup->(∀p∈t,s.F.par p≠none)->∀i,i<=t.length->(E5 s (t.take i)).F.Ok S h/\(E5 s (t.take i)).N=s.N/\(E5 s (t.take i)).nd=s.nd/\(E5 s (t.take i)).op=s.op/\∀q,q∉t.take i->s.F.par q≠none->(E5 s (t.take i)).F.par q≠none
 |t,a,hp,0,_=>by rw[BM];exact⟨o,rfl,rfl,rfl,λq _ h=>h⟩
 |t,a,hp,i+1,j=>by
  obtain⟨k,v,b,g,k5⟩:=Hu o t a hp i (by omega);have ht:t.take (i+1)=t.take i++[t[i]]:=AF (by omega);have d:t[i]∉t.take i:=λn=>by
   rw[<-Av i t,Ck (by omega:i<t.length)]at a;exact(BA.1 a).2.2 _ n _ Af rfl
  obtain⟨y,w,f,m,c⟩:=N0 k (k5 t[i] d (hp _ (AD _)));rw[ht,LC];refine⟨y,w.trans v,f.trans b,m.trans g,λq l r=>c q (λe=>l (List.mem_append_right _ (by rw[e];exact AP.2 rfl))) (k5 q (λn=>l (GU _ n)) r)⟩
theorem FG{kb kb2:Nat->Nat}{l:List Nat}(h:∀y∈l,kb2 y=kb y):Ad kb2 l=Ad kb l:=by
 unfold Ad;exact List.map_congr_left λy e=>by rw[h y e]
theorem Ct.rename{nd2:Nat->Nd}{kb2:Nat->Nat}(h:Ct F S H P B O w)(s:∀p c,F.par c=some p->S p/\S c)(m:∀p c,c∈F.kids p->F.par c=some p)(a:∀y,S y->kb2 y=O y)(o:∀y,S y->nd2 y=H y):Ct F S nd2 P B kb2 w:=by
 refine⟨λi t=> ?_,λi j t n e=>h.inj i j t n (by rw[<-a i t,<-a j n];exact e)⟩;obtain⟨g,aa,ac,d,r,f,v,b⟩:=h.node i t;have e1:Au kb2 (F.par i)=Au O (F.par i):=by
  cases u:F.par i with
  |none=>rfl
  |some p=>simp only[Au,As,a p (s p i u).1]
 have e2:Ad kb2 (F.kids i)=Ad O (F.kids i):=FG λy l=>a y (s i y (m i y l)).2;refine⟨by rw[a i t];exact g,aa,ac,d,r,?_,by rw[o i t];exact v,by rw[e2];exact b⟩;rw[a i t,o i t,f];unfold Eo;rw[e1]
theorem Ct.fresh(o:s.F.Ok (λi=>i<s.N) h)(r:Ct s.F (λi=>i<s.N) s.nd P B O w)(n:∀y,y<s.N->O y≠g)(b:B<=g)(hx:x<s.N)(l:P s.N= -1){aa:Option Ai}{ac:Nat}
 (f:w.heap[g]? =some (.cells #[.int .i64 (-1),.int .i64 (s.nd x).kind,.string (s.nd x).tag,.string (s.nd x).text,.slice aa (s.nd x).attrs.length ac,.int .i64 (s.nd x).size,.pointer none,.slice none 0 0] 81 (0,0)))
 (u:w.ownsRow B 49 2 (.slice aa (s.nd x).attrs.length ac) (s.nd x).attrs.length (CJ (s.nd x).attrs)):
 Ct (s.fresh x).F (λi=>i<(s.fresh x).N) (s.fresh x).nd P B (λy=>if y=s.N then g else O y) w:=by
 have v:=r.rename (nd2:=(s.fresh x).nd) (kb2:=λy=>if y=s.N then g else O y) o.dom (λp c=>(o.mem p c).1) (λy d=>AI (by omega)) (λy d=>by show(if y=s.N then _ else _)=_;rw[AI (by omega)]);have a:=DM o (AG s.N);refine⟨λi t=> ?_,λi j t m e=> ?_⟩
 .by_cases e:i<s.N
  .exact v.node i e
  have e2:i=s.N:=by have:i<s.N+1:=t;omega
  subst e2;refine⟨by rw[AJ rfl];exact b,aa,ac,none,0,?_,?_,?_⟩
  .show w.heap[if s.N=s.N then g else O s.N]? =some (.cells (Eo _ (s.F.par s.N) (if s.N=s.N then s.nd x else s.nd s.N) (P s.N) aa ac (s.F.kids s.N).length none 0) _ _);rw[AJ rfl,AJ rfl,a.1,a.2,l];exact f
  .show w.ownsRow B _ 2 (.slice aa (if s.N=s.N then s.nd x else s.nd s.N).attrs.length ac) (if s.N=s.N then s.nd x else s.nd s.N).attrs.length (CJ (if s.N=s.N then s.nd x else s.nd s.N).attrs);rw[AJ rfl];exact u
  show w.ownsRow B _ 1 (.slice none (s.F.kids s.N).length 0) (s.F.kids s.N).length (Ad _ (s.F.kids s.N));rw[a.2];exact Aw _ _ _ _
 have z:i<s.N+1:=t;have q:j<s.N+1:=m;change (if i=s.N then g else O i)=(if j=s.N then g else O j)at e;by_cases e1:i=s.N
 .by_cases e2:j=s.N
  .omega
  rw[AJ e1,AI e2]at e;exact absurd e.symm (n j (by omega))
 by_cases e2:j=s.N
 .rw[AI e1,AJ e2]at e;exact absurd e (n i (by omega))
 rw[AI e1,AI e2]at e;exact r.inj i j (show i<s.N by omega) (show j<s.N by omega) e
theorem Ct.Zs{r:AB}(h:Ct F S H P B O w)(j:S c){xs:List AS}(C:w.ownsRow A 57 1 v n xs)(V:∀i,S i->i≠c->∀u,w.cell? ⟨O i,7,none⟩=some u->FO v u)(E:w.grownBy r v.ownBlock)
 {L:List Nat}{a2:Option Ai}{n2 c2:Nat}(R:n2=L.length)(k:r.ownsRow B 57 1 (.slice a2 n2 c2) n2 (Ad O L)):
 Ct (F.Ys c L) S H P B O (r.setCell ⟨O c,7,none⟩ (.slice a2 n2 c2))/\(r.setCell ⟨O c,7,none⟩ (.slice a2 n2 c2)).cell? ⟨O c,7,none⟩=some (.slice a2 n2 c2)/\∀i,S i->i≠c->(r.setCell ⟨O c,7,none⟩ (.slice a2 n2 c2)).cell? ⟨O i,7,none⟩=w.cell? ⟨O i,7,none⟩:=by
 subst R;have o:∀i,S i->r.heap[O i]? =w.heap[O i]? :=λi t=>by
  obtain⟨_,_,_,_,_,m,_,_⟩:=h.node i t;exact E.block _ (AE.1 m).1 (λe2=>Ax C m (by decide) e2.symm)
 obtain⟨ea,ei,eo,Z,X,D,et,ee⟩:=h.node c j;have a:=(o c j).trans D;have s:∀i,S i->∀{aa:Option Ai} {ac:Nat},w.ownsRow B 49 2 (.slice aa (H i).attrs.length ac) (H i).attrs.length (CJ (H i).attrs)->r.ownsRow B 49 2 (.slice aa (H i).attrs.length ac) (H i).attrs.length (CJ (H i).attrs):=by
  intro i t aa ac y;refine y.kept E ?_;cases f:(AO aa (H i).attrs.length ac).ownBlock with
  |none=>exact .inl rfl
  |some b=>
   refine .inr λe2=> ?_;obtain⟨g,cap,d,Y,_,U,_⟩:∃g cap d,(AO aa (H i).attrs.length ac)= .slice (some ⟨g,0,none⟩) (H i).attrs.length cap/\B<=g/\w.heap[g]? =some (.cells d 49 (0,0))/\True:=by
    rcases y.2 with⟨I,_⟩|⟨g,cap,d,I,J,Q,_⟩
    .rw[I]at f;simp[A6]at f
    exact⟨g,cap,d,I,J,Q,trivial⟩
   rw[Y]at f;simp[A6]at f;subst f;exact Ax C U (by decide) e2.symm
 refine⟨⟨λi t=> ?_,h.inj⟩,?_,λi t N=> ?_⟩
 .obtain⟨M,aa,ac,z,x,m,y,K⟩:=h.node i t;have l:=(o i t).trans m;have W:=BS (s i t y) (p:=⟨O c,7,none⟩) (Ax (s i t y) a (by decide)) (.slice a2 L.length c2);by_cases e:i=c
  .subst e;have T:(F.Ys i L).kids i=L:=by show(if i=i then L else _)=L;rw[AJ rfl]
   rw[T];exact⟨M,aa,ac,a2,c2,Ao r (O i) 7 _ _ _ l,W,BS k (p:=⟨O i,7,none⟩) (Ax k l (by decide)) _⟩
  have T:(F.Ys c L).kids i=F.kids i:=by show(if i=c then L else _)=_;rw[AI e]
  rw[T];have G:w.cell? ⟨O i,7,none⟩=some (.slice z (F.kids i).length x):=by rw[AZ w _ 7 _ _ _ m];rfl
  have q:=K.kept E (V i t e _ G).ne;refine⟨M,aa,ac,z,x,?_,W,BS q (p:=⟨O c,7,none⟩) (Ax q a (by decide)) _⟩;rw[A8 _ _ _ _ (λe2=>e (h.inj i c t j e2))];exact l
 .rw[AZ _ _ 7 _ _ _ (Ao r (O c) 7 _ _ _ a)];rfl
 obtain⟨_,aa,ac,z,x,m,_,_⟩:=h.node i t;have e1:(r.setCell ⟨O c,7,none⟩ (.slice a2 L.length c2)).heap[O i]? =w.heap[O i]? :=by
  rw[A8 _ _ _ _ (λe2=>N (h.inj i c t j e2))];exact o i t
 exact Am e1
def FN(s a:bY)(o:Nat)(row:AS)(n:Nat->Int)(B:Nat)(kb:Nat->Nat)(w:AB)(e:Bx)(w':AB):Prop:=
 ∃t:Nat->Nat,e= .returned (.pointer (some ⟨t s.N,0,none⟩))/\(∀y,y<s.N->t y=kb y)/\Ct a.F (λi=>i<a.N) a.nd n B t w'/\w'.heap[o]? =some (.cells #[row,.int .i64 (a.N:Int),.bool a.op] 56 (0,0))/\
  Al (λ_=>True) (λ_=>o) w w'/\∀y,s.N<=y->y<a.N->w.heap.size<=t y/\∀u b,w'.cell? ⟨t y,7,none⟩=some u->u.ownBlock=some b->w.heap.size<=b
theorem Ct.Zi(h:Ct F S H P B O w){e:Nat}{u:Array AS}(t:w.heap[e]? =some (.cells u 56 (0,0)))(j:Nat)(v:AS):Ct F S H P B O (w.setCell ⟨e,j,none⟩ v):=by
 refine⟨λi d=> ?_,h.inj⟩;obtain⟨l,aa,ac,r,s,a,n,o⟩:=h.node i d;refine⟨l,aa,ac,r,s,?_,BS n (p:=⟨e,j,none⟩) (Ax n t (by decide)) v,BS o (p:=⟨e,j,none⟩) (Ax o t (by decide)) v⟩;rw[A8 _ _ _ _ (CC a t (by decide))];exact a
theorem Ct.Z5(h:Ct F S H P B O w)(t:S i):
 ∃aa ac,w.cell? ⟨O i,1,none⟩=some (.int .i64 (H i).kind)/\w.cell? ⟨O i,2,none⟩=some (.string (H i).tag)/\w.cell? ⟨O i,3,none⟩=some (.string (H i).text)/\w.cell? ⟨O i,4,none⟩=some (.slice aa (H i).attrs.length ac)/\w.cell? ⟨O i,5,none⟩=some (.int .i64 (H i).size)/\w.ownsRow B 49 2 (.slice aa (H i).attrs.length ac) (H i).attrs.length (CJ (H i).attrs):=by
 obtain⟨s,aa,ac,n,o,e,a,r⟩:=h.node i t;exact⟨aa,ac,by rw[AZ w _ 1 _ _ _ e];rfl,by rw[AZ w _ 2 _ _ _ e];rfl,by rw[AZ w _ 3 _ _ _ e];rfl,by rw[AZ w _ 4 _ _ _ e];rfl,by rw[AZ w _ 5 _ _ _ e];rfl,a⟩
theorem Al.Zg{e:Nat}(h:Al (λ_=>True) (λ_=>e) w N)(j:Nat)(v:AS):Al (λ_=>True) (λ_=>e) w (N.setCell ⟨e,j,none⟩ v):=Al.set (S:=λ_=>True) (kb:=λ_=>e) h (i:=0) trivial j v
theorem Al.ZA{t b:Nat}(h:Al (λ_=>True) (λ_=>t) w N)(a:b<w.heap.size)(e:b≠t):N.heap[b]? =w.heap[b]? :=h.block b a (λ_ _=>e)
theorem LM(o:s.F.Ok (λi=>i<s.N) h)(T:Ct s.F (λi=>i<s.N) s.nd P B O w)(S:B<=w.heap.size)(hx:x<s.N)(j:P s.N= -1){t:Nat}{row:AS}
 (l:w.heap[t]? =some (.cells #[row,.int .i64 (s.N:Int),.bool s.op] 56 (0,0)))(R:s.N+1<=100000)(D:600<=s.N):
 AX AC 61 #[.pointer (some ⟨t,0,none⟩),.pointer (some ⟨O x,0,none⟩)] w (FN s (s.fresh x).shut t row P B O w):=by
 have f1:w.cell? ⟨t,1,none⟩=some (.int .i64 (s.N:Int)):=by rw[AZ w _ 1 _ _ _ l];rfl
 have U:=A7 w t 1 _ _ l;obtain⟨f,r⟩:∃f,f=w.setCell ⟨t,1,none⟩ (.int .i64 ((s.N:Int)+1)):=⟨_,rfl⟩;have m:f.heap[t]? =some (.cells #[row,.int .i64 ((s.N:Int)+1),.bool s.op] 56 (0,0)):=by rw[r];exact Ao w t 1 _ _ _ l
 have C:w.cell? ⟨t,2,none⟩=some (.bool s.op):=by rw[AZ w _ 2 _ _ _ l];rfl
 have H:=A7 w t 2 _ _ l;obtain⟨a,n⟩:∃a,a=f.setCell ⟨t,2,none⟩ (.bool true):=⟨_,rfl⟩;have c:a.heap[t]? =some (.cells #[row,.int .i64 ((s.N:Int)+1),.bool true] 56 (0,0)):=by rw[n];exact Ao f t 2 _ _ _ m
 have d:Ct s.F (λi=>i<s.N) s.nd P B O a:=by rw[n];refine Ct.Zi ?_ m 2 _;rw[r];exact T.Zi l 1 _
 have p:Al (λ_=>True) (λ_=>t) w a:=by rw[n,r];exact((Al.refl _ _ w).Zg 1 _).Zg 2 _
 obtain⟨aa,ac,c1,c2,c3,c4,c5,z⟩:=d.Z5 hx;have g:a.heap.size=w.heap.size:=by rw[n,r];simp[Cb]
 have A:Hid (FN s (s.fresh x).shut t row P B O w (.returned (.pointer (some ⟨a.heap.size,0,none⟩))) (a.alloc (.cells #[.int .i64 (-1),.int .i64 (s.nd x).kind,.string (s.nd x).tag,.string (s.nd x).text,.slice aa (s.nd x).attrs.length ac,.int .i64 (s.nd x).size,.pointer none,.slice none 0 0] 81))):=by
  have k:=d.up ((AW a.heap.size a).alloc (AG _) (.cells #[.int .i64 (-1),.int .i64 (s.nd x).kind,.string (s.nd x).tag,.string (s.nd x).text,.slice aa (s.nd x).attrs.length ac,.int .i64 (s.nd x).size,.pointer none,.slice none 0 0] 81));have hnew:=Ah a (.cells #[.int .i64 (-1),.int .i64 (s.nd x).kind,.string (s.nd x).tag,.string (s.nd x).text,.slice aa (s.nd x).attrs.length ac,.int .i64 (s.nd x).size,.pointer none,.slice none 0 0] 81);refine⟨λy=>if y=s.N then a.heap.size else O y,by simp,λy q=>AI (by omega),Ct.fresh o k (λy q=>Nat.ne_of_lt (d.lt q)) (by omega) hx j hnew (z.alloc _),?_,?_,λy L I=> ?_⟩
  .rw[((AW a.heap.size a).alloc (AG _) _).block _ (AE.1 c).1,c];rfl
  .exact p.trans (Al.Yq ((AW _ _).alloc (AG _) _))
  have e:y=s.N:=by have:y<s.N+1:=I;omega
  subst e;simp only[if_true];refine⟨by omega,λu b v E=> ?_⟩;rw[AZ _ _ 7 _ _ _ hnew]at v;injection v with v;rw[<-v]at E;simp[A6]at E
 rw[g]at A;have N:600<(s.N:Int)+1:=by omega
 clear l T d m c p g o z j hx;subst n;subst r;go_enter func61,ntmps61;go_wp2;go_ret;exact A.o
def DH(d:Nat)(s:bY)(x i:Nat):bY:=((s.F.kids x).take i).foldl (E0 (CZ d) s.N) (s.fresh x)
theorem EI(d:Nat)(s:bY)(x:Nat):DH d s x 0=s.fresh x:=by simp[DH]
theorem Fy(d:Nat)(s:bY)(x:Nat)(e:i<(s.F.kids x).length):DH d s x (i+1)=(CZ d (DH d s x i) (s.F.kids x)[i]).Yz s.N s.N (DH d s x i).N:=by
 unfold DH;rw[AF e,List.foldl_append];rfl
theorem JB(d:Nat)(s:bY)(x:Nat)(e:¬600<=s.N):DH d s x (s.F.kids x).length=CZ (d+1) s x:=by
 show _=(if 600<=s.N then _ else _);rw[AI e];unfold DH;rw[AU]
theorem Fk(o:s.F.Ok (λi=>i<s.N) h){d:Nat}(hx:x<s.N)(f:h x<=d+1)(i:Nat)(m:i<=(s.F.kids x).length):(∃l,Ko s (DH d s x i) h l x)/\((DH d s x i).F.kids s.N).length=i/\(DH d s x i).N<=(DH d s x (s.F.kids x).length).N:=by
 have t:∀k∈s.F.kids x,k<s.N/\h k<h x/\h k<=d:=λk t=>by
  have e:=(o.mem x k).1 t;have n:=o.dom x k e;have r:=o.ht x k e;exact⟨n.2,r,by omega⟩
 obtain⟨e,e1,e2,g⟩:=MS (DK d) (h:=h) ((s.F.kids x).take i) (s.fresh x) _ (Em o hx) (λk a=>t k (Ci a));obtain⟨n,y,w,c⟩:=MS (DK d) (h:=h) ((s.F.kids x).drop i) (DH d s x i) e e1 (λk a=>t k (List.mem_of_mem_drop a));refine⟨⟨e,e1⟩,?_,?_⟩
 .have:(s.fresh x).F.kids s.N=[]:=(DM o (AG _)).2;rw[this]at e2;simp only[Ar,At]at e2;unfold DH;omega
 have:(s.F.kids x).foldl (E0 (CZ d) s.N) (s.fresh x)=((s.F.kids x).drop i).foldl (E0 (CZ d) s.N) (DH d s x i):=by
  unfold DH;rw[<-List.foldl_append,Av]
 have u:DH d s x (s.F.kids x).length=(s.F.kids x).foldl (E0 (CZ d) s.N) (s.fresh x):=by unfold DH;rw[AU]
 rw[u,this];exact c
structure Wv(d:Nat)(s:bY)(x fb:Nat)(row:AS)(pl:Nat->Int)(B:Nat)(kb:Nat->Nat)(w:AB)(i:Nat)(kb2:Nat->Nat)(ka:Option Ai)(kc:Nat)(wr:AB):Prop where
 kno:Ct (DH d s x i).F (λy=>y<(DH d s x i).N) (DH d s x i).nd pl B kb2 wr
 old:∀y,y<s.N->kb2 y=kb y
 me:kb2 s.N=w.heap.size
 cell:wr.cell? ⟨w.heap.size,7,none⟩=some (.slice ka i kc)
 own:wr.ownsRow w.heap.size 57 1 (.slice ka i kc) i (Ad kb2 ((DH d s x i).F.kids s.N))
 apt:∀y,y<(DH d s x i).N->y≠s.N->∀u,wr.cell? ⟨kb2 y,7,none⟩=some u->FO (.slice ka i kc) u
 fst:wr.heap[fb]? =some (.cells #[row,.int .i64 ((DH d s x i).N:Int),.bool (DH d s x i).op] 56 (0,0))
 turn:Al (λ_=>True) (λ_=>fb) w wr
 new:∀y,s.N<=y->y<(DH d s x i).N->w.heap.size<=kb2 y/\∀u b,wr.cell? ⟨kb2 y,7,none⟩=some u->u.ownBlock=some b->w.heap.size<=b
theorem Ct.aU(h:Ct F S H P B O w)(t:S i):∃u,w.cell? ⟨O i,7,none⟩=some u/\∀b,u.ownBlock=some b->b<w.heap.size:=by
 obtain⟨-,-,-,s,n,o,-,e⟩:=h.cells t;exact⟨_,o,λb a=>(e.lt b a).2⟩
theorem To{d:Nat}(o:s.F.Ok (λi=>i<s.N) h)(hx:x<s.N)(hd:h x<=d+1){X:Nat}{row:AS}{pl:Nat->Int}{kb2:Nat->Nat}{S:Option Ai}{N:Nat}(hBw:B<=w.heap.size)(hfw:X<w.heap.size)
 (H:Wv d s x X row pl B O w i kb2 S N wr)(hi:i<(s.F.kids x).length){e:Bx}(P:FN (DH d s x i) (CZ d (DH d s x i) (s.F.kids x)[i]) X row pl B kb2 wr e M):
 ∃(T:Nat) (t:Nat->Nat) (L:List Nat),e= .returned (.pointer (some ⟨T,0,none⟩))/\L.length=i/\M.cell? ⟨T,6,none⟩=some (.pointer none)/\M.frozen? ⟨T,6,none⟩=false/\
  (M.setCell ⟨T,6,none⟩ (.pointer (some ⟨w.heap.size,0,none⟩))).cell? ⟨w.heap.size,7,none⟩=some (.slice S i N)/\
  ((M.setCell ⟨T,6,none⟩ (.pointer (some ⟨w.heap.size,0,none⟩))).alloc (.cells #[.pointer (some ⟨T,0,none⟩)] 57)).ownsRow w.heap.size 57 1 (.slice S i N) L.length (Ad t L)/\
  B6 ((M.setCell ⟨T,6,none⟩ (.pointer (some ⟨w.heap.size,0,none⟩))).alloc (.cells #[.pointer (some ⟨T,0,none⟩)] 57)) ((M.setCell ⟨T,6,none⟩ (.pointer (some ⟨w.heap.size,0,none⟩))).alloc (.cells #[.pointer (some ⟨T,0,none⟩)] 57)).heap.size (some ⟨M.heap.size,0,none⟩) (Ad t [(DH d s x i).N])/\
  w.heap.size<=((M.setCell ⟨T,6,none⟩ (.pointer (some ⟨w.heap.size,0,none⟩))).alloc (.cells #[.pointer (some ⟨T,0,none⟩)] 57)).heap.size/\
  ∀a2 c2 n2 A,n2=i+1->((M.setCell ⟨T,6,none⟩ (.pointer (some ⟨w.heap.size,0,none⟩))).alloc (.cells #[.pointer (some ⟨T,0,none⟩)] 57)).grownBy A (AO S i N).ownBlock->A.ownsRow w.heap.size 57 1 (.slice a2 n2 c2) n2 (Ad t (L++[(DH d s x i).N]))->
   ((AO a2 n2 c2).ownBlock=(AO S i N).ownBlock\/(AO a2 n2 c2).ownBlock=some ((M.setCell ⟨T,6,none⟩ (.pointer (some ⟨w.heap.size,0,none⟩))).alloc (.cells #[.pointer (some ⟨T,0,none⟩)] 57)).heap.size)->
   A.cell? ⟨w.heap.size,7,none⟩=some (.slice S i N)/\A.frozen? ⟨w.heap.size,7,none⟩=false/\Wv d s x X row pl B O w (i+1) t a2 c2 (A.setCell ⟨w.heap.size,7,none⟩ (.slice a2 n2 c2)):=by
 obtain⟨t,rfl,hold,hK,hf,hT,hnew⟩:=P;obtain⟨⟨hi',eA⟩,R,-⟩:=Fk o hx hd i (Ca hi);have hkA:(s.F.kids x)[i]<(DH d s x i).N:=by
  have:=(o.dom _ _ ((o.mem x _).1 (AD hi))).2;have:=eA.lt;omega
 have hkh:hi' (s.F.kids x)[i]<=d:=by
  have h1:=(o.mem x _).1 (AD hi);rw[eA.hold _ (o.dom _ _ h1).2];have:=o.ht _ _ h1;omega
 obtain⟨hb',eB⟩:=DK d (DH d s x i) hi' _ eA.ok hkA hkh;have r:=Fy d s x hi;obtain⟨b,hb⟩:∃b,b=CZ d (DH d s x i) (s.F.kids x)[i]:=⟨_,rfl⟩;rw[<-hb]at hK hf eB r hnew;obtain⟨a,ha⟩:∃a,a=DH d s x i:=⟨_,rfl⟩;have k:=H.kno;have Hme:=H.me;have Hcell:=H.cell;have D:=H.own;have Hapt:=H.apt;have m:=H.turn;have Hn:=H.new;have Hold:=H.old;rw[<-ha]at hold hnew eB r k D Hapt Hn eA R hkA|-;have hsa:=eA.lt;have hab:=eB.lt;have sS:s.N<b.N:=by omega
 have v:t s.N=w.heap.size:=(hold _ hsa).trans Hme;have hkr:wr.heap.size<=t a.N:=(hnew a.N (AG _) hab).1;have hww:=m.size;have hgr:w.heap.size<wr.heap.size:=by rw[<-Hme];exact k.lt hsa
 have hne:t a.N≠w.heap.size:=by omega
 have hwr2:=hT.size;obtain⟨fz,c6,-⟩:=hK.cells (i:=a.N) hab;rw[eB.root]at c6;have hbk:b.F.kids s.N=a.F.kids s.N:=eB.kids _ hsa;have hfbg:w.heap.size≠X:=by omega
 have hK3:=hK.Yt (p:=a.N) hab (some s.N);simp only[Au,As,v]at hK3;obtain⟨I,n⟩:∃I,I=M.setCell ⟨t a.N,6,none⟩ (.pointer (some ⟨w.heap.size,0,none⟩)):=⟨_,rfl⟩;rw[<-n]at hK3;have hs3:I.heap.size=M.heap.size:=by rw[n];simp[Cb]
 have hcell2:M.cell? ⟨w.heap.size,7,none⟩=some (.slice S i N):=(Am (a:=⟨w.heap.size,7,none⟩) (hT.ZA hgr hfbg)).trans Hcell;have U:I.cell? ⟨w.heap.size,7,none⟩=some (.slice S i N):=by rw[n,BN _ _ _ _ (by exact hne)];exact hcell2
 have K:M.ownsRow w.heap.size 57 1 (.slice S i N) i (Ad t (a.F.kids s.N)):=by
  have e1:Ad t (a.F.kids s.N)=Ad kb2 (a.F.kids s.N):=FG λy z=>hold y ((eA.ok.dom _ _ ((eA.ok.mem _ y).1 z)).2);rw[e1];exact Al.own hT D (λq _=>Ax D H.fst (by decide))
 have hrow2:∃cs,M.heap[t a.N]? =some (.cells cs 81 (0,0)):=by
  obtain⟨_,_,_,_,_,Z,_,_⟩:=hK.node a.N hab;exact⟨_,Z⟩
 obtain⟨crs,hcrs⟩:=hrow2;have V:I.ownsRow w.heap.size 57 1 (.slice S i N) i (Ad t (a.F.kids s.N)):=by rw[n];exact BS K (p:=⟨t a.N,6,none⟩) (Ax K hcrs (by decide)) _
 have f:∀y,y<b.N->∀u,I.cell? ⟨t y,7,none⟩=some u->M.cell? ⟨t y,7,none⟩=some u:=by
  intro y z u g;obtain⟨_,_,_,_,_,Z,_,_⟩:=hK.node y z;by_cases e:t y=t a.N
  .rw[n,e]at g;rw[e]at Z|-;rw[AZ _ _ 7 _ _ _ (Ao M _ 6 _ _ _ Z)]at g;rw[AZ M _ 7 _ _ _ Z];simpa using g
  rw[n,BN _ _ _ _ (by exact λe2=>e e2.symm)]at g;exact g
 have hapt3:∀y,y<b.N->y≠s.N->∀u,I.cell? ⟨t y,7,none⟩=some u->FO (.slice S i N) u:=by
  intro y z F u g;have E:=f y z u g;by_cases e:y<a.N
  .rw[hold y e]at E;rw[Am (a:=⟨kb2 y,7,none⟩) (hT.ZA (k.lt e) (by
    obtain⟨_,_,_,_,_,Z,_,_⟩:=k.node y e;exact CC Z H.fst (by decide)))]at E
   exact Hapt y e F u E
  intro q h1 h2;have h3:=(hnew y (by omega) z).2 u q E h2;have h4:=(D.lt q h1).2;omega
 obtain⟨J,W⟩:∃J,J=I.alloc (.cells #[.pointer (some ⟨t a.N,0,none⟩)] 57):=⟨_,rfl⟩;have l:AL I.heap.size I J:=by rw[W];exact Ac
 have hK4:=hK3.up l;have hs4:J.heap.size=I.heap.size+1:=by rw[W];simp
 have hc34:∀y,y<b.N->J.cell? ⟨t y,7,none⟩=I.cell? ⟨t y,7,none⟩:=λy z=>l.cell (p:=⟨t y,7,none⟩) (hK3.lt z);refine⟨t a.N,t,a.F.kids s.N,rfl,R,c6,fz 6,by rw[<-n];exact U,by rw[<-n,R];exact V.alloc _,?_,by rw[<-n,<-W];omega,?_⟩
 .rw[<-n];refine .inr ⟨M.heap.size,0,rfl,by simp[hs3],λq C=> ?_⟩;have e0:q=0:=by simp[Ad]at C;omega
  subst e0;rw[<-hs3,BI];rfl
 intro a2 c2 n2 A hn2 hg ho5 hat;subst hn2;rw[<-n,<-W]at hg hat;have j:J.ownsRow w.heap.size 57 1 (.slice S i N) i (Ad t (a.F.kids s.N)):=by rw[W];exact V.alloc _
 have Q:∀y,y<b.N->y≠s.N->∀u,J.cell? ⟨t y,7,none⟩=some u->FO (.slice S i N) u:=λy z F u g=>hapt3 y z F u (by rw[<-hc34 y z];exact g);have hL1:(a.F.kids s.N++[a.N]).length=i+1:=by simp[R]
 have hKE:=Ct.Zs hK4 (c:=s.N) sS j Q hg (L:=a.F.kids s.N++[a.N]) (a2:=a2) (c2:=c2) (n2:=i+1) hL1.symm (Bf ho5 hBw);rw[v]at hKE;obtain⟨k1,k2,k3⟩:=hKE;have hF:(b.F.Yt a.N (some s.N)).Ys s.N (a.F.kids s.N++[a.N])=(DH d s x (i+1)).F:=by
  rw[r];refine Fo.Yv (λq=>rfl) (λq=> ?_);show(if q=s.N then a.F.kids s.N++[a.N]else b.F.kids q)=(if q=s.N then Kv s.N a.N (b.F.kids q)else b.F.kids q);by_cases e:q=s.N
  .subst e;rw[AJ rfl,AJ rfl,hbk,KJ];intro hm;have:=eA.ok.ht _ _ ((eA.ok.mem _ _).1 hm);omega
  rw[AI e,AI e]
 have hN1:(DH d s x (i+1)).N=b.N:=by rw[r];rfl
 have hnd1:(DH d s x (i+1)).nd=b.nd:=by rw[r];rfl
 have hop1:(DH d s x (i+1)).op=b.op:=by rw[r];rfl
 have G:∀q,q<J.heap.size->(AO S i N).ownBlock≠some q->A.heap[q]? =J.heap[q]? :=λq C hn=>hg.block q C (λe=>hn e.symm);obtain⟨_,_,_,_,_,Y,_,_⟩:=hK4.node s.N sS;rw[v]at Y;have h5me:A.heap[w.heap.size]? =J.heap[w.heap.size]? :=G _ (by omega) (Ax j Y (by decide));have hg5:=h5me.trans Y;refine⟨?_,A7 A _ 7 _ _ hg5,⟨by rw[hN1,hnd1,<-hF];exact k1,λy z=>(hold y (by omega)).trans (Hold y z),v,k2,?_,?_,?_,?_,?_⟩⟩
 .rw[Am (a:=⟨w.heap.size,7,none⟩) h5me,l.cell (p:=⟨w.heap.size,7,none⟩) (show w.heap.size<I.heap.size by omega)];exact U
 .have hk5:(DH d s x (i+1)).F.kids s.N=a.F.kids s.N++[a.N]:=by rw[<-hF];show(if s.N=s.N then _ else _)=_;rw[AJ rfl]
  rw[hk5];exact BS ho5 (p:=⟨w.heap.size,7,none⟩) (Ax ho5 hg5 (by decide)) _
 .intro y z F u g;rw[hN1]at z;rw[k3 y z F]at g;obtain⟨u',hu',hlt⟩:=hK4.aU (i:=y) z;rw[g]at hu';cases hu';exact(Q y z F u g).step hat (λq C=>hlt q C)
 .rw[hN1,hop1,A8 _ _ _ _ (by exact λe=>hfbg e.symm)];have hf3:I.heap[X]? =some (.cells #[row,.int .i64 (b.N:Int),.bool b.op] 56 (0,0)):=by
   rw[n,A8 _ _ _ _ (by show X≠t a.N;omega)];exact hf
  have hf4:=(l.block X (by omega)).trans hf3;rw[G X (by omega) (Ax j hf4 (by decide))];exact hf4
 .refine⟨?_,?_,?_,?_,λq C hn=> ?_⟩
  .show A.os=_;rw[hg.os,l.os,n];show M.os=_;rw[hT.os];exact m.os
  .show A.tape=_;rw[hg.tape,l.tape,n];show M.tape=_;rw[hT.tape];exact m.tape
  .show A.output=_;rw[hg.output,l.output,n];show M.output=_;rw[hT.output];exact m.output
  .have:=hg.size;have:(A.setCell ⟨w.heap.size,7,none⟩ (.slice a2 (i+1) c2)).heap.size=A.heap.size:=by simp[Cb]
   omega
  have hqf:q≠X:=hn 0 trivial;rw[A8 _ _ _ _ (by show q≠w.heap.size;omega),G q (by omega) (λe=>by have:=(j.lt q e).1;omega),l.block q (by omega),n,A8 _ _ _ _ (by show q≠t a.N;omega),hT.ZA (by omega) hqf];exact m.ZA C hqf
 intro y h1 h2;rw[hN1]at h2;by_cases e:y=s.N
 .subst e;refine⟨by rw[v];exact AG _,λu q g C=> ?_⟩;rw[v,k2]at g;cases g
  exact(ho5.lt q C).1
 rw[k3 y h2 e,hc34 y h2];by_cases e2:y<a.N
 .refine⟨by rw[hold y e2];exact(Hn y h1 e2).1,λu q g C=> ?_⟩;have E:=f y h2 u g;rw[hold y e2]at E;rw[Am (a:=⟨kb2 y,7,none⟩) (hT.ZA (k.lt e2) (by
   obtain⟨_,_,_,_,_,Z,_,_⟩:=k.node y e2;exact CC Z H.fst (by decide)))]at E
  exact(Hn y h1 e2).2 u q E C
 have h3:=hnew y (by omega) h2;exact⟨by omega,λu q g C=>by have:=h3.2 u q (f y h2 u g) C;omega⟩
theorem NH(P:Program)(w:AB)(b q k elem:Dk)(z g h u:Nat)(a:Ai)(s r n:Nat)(e:Array AS)(t:Dk)(o:List AS)
 (x:P.underlying b=some (.slice elem))(y:(P.info? elem).map (·.size)=some z)
 (A:w.heap[g]? =some (.cells e t (0,0)))(E:n=Nat.min s h)(f:o.length=n*z)
 (d:∀j v,o[j]? =some v->w.cell? (a.add j)=some v)(l:o.length<=e.size)(O:∀v∈o,v.oneCell'=true):
 (Builtin.copy_ #[b,q] k #[.slice (some ⟨g,0,none⟩) h u,.slice (some a) s r]).run P w=
  .ok (goInt n) (w.setRow g (o++e.toList.drop o.length).toArray):=by
 have p:=run_loadCells_list (P:=P) w a o d;have m:=run_storeCells_at P g 0 t o 0 e w A (by simpa using l) O;cases c:P.info? elem with
 |none=>simp[c]at y
 |some i=>
  have T:i.size=z:=by simpa [c]using y
  rw[f]at p;simp[Builtin.copy_,Ez x,Builtin.lenOf,Builtin.firstCells,sizeOf,typeInfo,c,T,<-E,p,m]
theorem Mq(P:Program)(w:AB)(s d r elem:Dk)(z:Nat)(n:Option Ai)(t:Nat)(sp:Option Ai)(e:Nat)
 (l:P.underlying s=some (.slice elem))(u:(P.info? elem).map (·.size)=some z):
 (Builtin.copy_ #[s,d] r #[.slice n 0 t,.slice sp 0 e]).run P w= .ok (goInt 0) w:=by
 cases o:P.info? elem with
 |none=>simp[o]at u
 |some i=>
  have c:=λa:Ai=>run_loadCells_list (P:=P) w a [] (λj v h=>by simp at h);cases n<;>cases sp<;>simp[Builtin.copy_,Ez l,Builtin.lenOf,Builtin.firstCells,sizeOf,typeInfo,o,storeCells]
  all_goals first|rfl|(have:=c ‹Ai›;simp only[Ar]at this;simp[this,storeCells])
theorem Q1{P:Program}{o:Oper}{a:Act}{E:Prop}(t:o.guard=none)(d s:Operand)(l n:Dk)
 (m:o.op= .call {callee:= .builtin .copy,args:= #[d,s],argTypes:= #[l,n]})(r i v:AS)(f:a.eval d=r)(c:a.eval s=i)(e:(Builtin.copy_ #[l,n] o.type #[r,i]).run P w= .ok v N)(h:K (a.put o.dst v) N):
 if Region.wanted o (yielded T a.tmps)=true then Oper.wp P o a w K Q else E:=by
 have u:Region.wanted o (yielded T a.tmps)=true:=by simp[Region.wanted,t]
 rw[AJ u];unfold Oper.wp;simp[execOp,m,resolve,invoke,builtin,f,c,e,Result.andThen];exact h
theorem Yi(l:List At2):∀u∈CG l,u.oneCell'=true:=by
 intro u e;obtain⟨x,_,hx⟩:=C1.1 e;simp only[BQ,List.not_mem_nil,or_false]at hx;rcases hx with rfl|rfl|rfl<;>rfl
theorem OK(l:List At2):(CG l).length=l.length*3:=by
 induction l with
 |nil=>rfl
 |cons a l e=>simp only[CG,A_,AN,Ak,Ar]at e|-;omega
theorem Xt{base ac:Nat}{aa:Option Ai}(n:Dk)(u:w.ownsRow B 133 3 (.slice aa l.length ac) l.length (CG l))(s:w.heap[g]? =some (.cells E 133 (0,0)))(k:E.size=l.length*3)(O:(AO aa l.length ac).ownBlock≠some g)(a:base<=g)(p:l.length<=maxLen):
 ∃w3,(Builtin.copy_ #[99,99] n #[.slice (some ⟨g,0,none⟩) l.length l.length,.slice aa l.length ac]).run AC w= .ok (goInt l.length) w3/\w3.ownsRow base 133 3 (.slice (some ⟨g,0,none⟩) l.length l.length) l.length (CG l)/\
  w3.os=w.os/\w3.tape=w.tape/\w3.output=w.output/\w3.heap.size=w.heap.size/\∀b,b≠g->w3.heap[b]? =w.heap[b]? :=by
 obtain⟨I,i,z,h,x⟩:=D6 Tryz.Zk;have d:(Tryz.prog.info? 133).map (·.size)=some 3:=by rw[i];simp[h]
 have t:=OK l;rcases u.2 with⟨e,e2⟩|⟨c,cap,f,e,_,N,m,_,A,T⟩
 .have r:l=[]:=Ag e2;subst r;refine⟨w,Mq AC w _ _ n _ 3 _ _ _ _ underlying99 d,⟨by simp[CG],.inr ⟨g,0,E,rfl,a,s,AG _,by simp[maxLen],by rw[k];rfl,by simp[CG]⟩⟩,rfl,rfl,rfl,rfl,λ_ _=>rfl⟩
 injection e with e1 _ S;subst e1;have o:=NH AC w 99 99 n 133 3 g l.length l.length ⟨c,0,none⟩ l.length ac l.length E 133 (CG l) underlying99 d s (by simp) t (λj v y=>u.cells (g:=c) rfl j v y) (by omega) (Yi l);refine⟨_,o,⟨t,.inr ⟨g,l.length,_,rfl,a,setRow_heap w g E _ _ _ s,AG _,p,?_,?_⟩⟩,rfl,rfl,rfl,by simp[World.setRow],λb q=>setRow_other w g b _ q⟩
 .simp only[List.size_toArray,AN,List.length_drop,Array.length_toList];omega
 show List.take (l.length*3) (CG l++E.toList.drop (CG l).length)=_;rw[<-t,List.take_left]
theorem IN{j:Nat}:∀{l:List Nat},EC l c=some j->j∈l:=by
 intro l;induction l with
 |nil=>intro h;cases h
 |cons a l e=>
  intro h;change (if a=c then l.head? else EC l c)=some j at h;split at h
  .exact Ab _ (List.mem_of_head? h)
  exact Ab _ (e h)
theorem Il.kin(o:F.Ok S u){d:Dn}(h:Il F i d):(∀j,d.par=some j->S j)/\(∀j,d.fst=some j->S j)/\(∀j,d.lst=some j->S j)/\(∀j,d.prv=some j->S j)/\(∀j,d.nxt=some j->S j):=by
 have a:∀p j,j∈F.kids p->S j:=λp j e=>(o.dom p j ((o.mem p j).1 e)).2;refine⟨λj e=> ?_,λj e=> ?_,λj e=> ?_,λj e=> ?_,λj e=> ?_⟩
 .rw[h.par]at e;exact(o.dom j i e).1
 .rw[h.fst]at e;exact a i j (List.mem_of_head? e)
 .rw[h.lst]at e;exact a i j (List.mem_of_getLast? e)
 .cases t:F.par i with
  |none=>rw[(h.root t).1]at e;cases e
  |some p=>rw[(h.sib p t).1]at e;exact a p j (List.mem_reverse.1 (IN e))
 cases t:F.par i with
 |none=>rw[(h.root t).2]at e;cases e
 |some p=>rw[(h.sib p t).2]at e;exact a p j (IN e)
def T0(d:Dn):Dn:=⟨none,none,none,none,none,d.typ,d.dat,d.ats⟩
theorem KU{o:Option Nat}(h:∀j,o=some j->C j=Z j):Au C o=Au Z o:=by
 cases o with
 |none=>rfl
 |some j=>simp[Au,h j rfl]
theorem Br.fresh(o:s.F.Ok (λi=>i<s.N) h)(d:Br s.F (λi=>i<s.N) s.nd B Z V w)(k:∀y,y<s.N->Z y≠g)(c:∀y,y<s.N->∀r,rowAt w (Z y)=some r->rowAt w g≠some r)(H:B<=g)(hx:x<s.N){aa:Option Ai}{ac:Nat}
 (N:w.heap[g]? =some (.cells #[.pointer none,.pointer none,.pointer none,.pointer none,.pointer none,.int .u32 (V x).typ,.int .u32 0,.string (V x).dat,.string ⟨#[]⟩,.slice aa (V x).ats.length ac] 101 (0,0)))
 (I:w.ownsRow B 133 3 (.slice aa (V x).ats.length ac) (V x).ats.length (CG (V x).ats)):
 Br (s.fresh x).F (λi=>i<(s.fresh x).N) (s.fresh x).nd B (λy=>if y=s.N then g else Z y) (λy=>if y=s.N then T0 (V x)else V y) w:=by
 have m:=DM o (AG s.N);refine⟨⟨λi n=> ?_,λi j n l e=> ?_,λi j n l b r hr a=> ?_⟩,λi n=> ?_,λi n=> ?_⟩
 rotate_left 2
 .have t:i<s.N+1:=n;have v:j<s.N+1:=l;change rowAt w (if i=s.N then g else Z i)=some r at hr;change rowAt w (if j=s.N then g else Z j)=some r at a;by_cases e1:i=s.N
  .rw[AJ e1]at hr;rw[AI (by omega)]at a;exact c j (by omega) r a hr
  rw[AI e1]at hr;by_cases e2:j=s.N
  .rw[AJ e2]at a;exact c i (by omega) r hr a
  rw[AI e2]at a;exact d.dom.sep i j (show i<s.N by omega) (show j<s.N by omega) b r hr a
 rotate_left 2
 .by_cases e:i=s.N
  .subst e;simp only[if_true];exact⟨H,aa,ac,N,I⟩
  have t:i<s.N:=by have:i<s.N+1:=n;omega
  simp only[AI e];obtain⟨S,ba,L,D,R⟩:=d.dom.node i t;obtain⟨A,T,E,z,k5⟩:=(d.fit i t).kin o;have u:∀{q:Option Nat},(∀j,q=some j->j<s.N)->Au (λy=>if y=s.N then g else Z y) q=Au Z q:=λO=>KU λj l=>by have:=O j l;show(if j=s.N then g else Z j)=Z j;rw[AI (by omega)]
  refine⟨S,ba,L,?_,R⟩;rw[D];unfold El;rw[u A,u T,u E,u z,u k5]
 .have t:i<s.N+1:=n;have v:j<s.N+1:=l;change (if i=s.N then g else Z i)=(if j=s.N then g else Z j)at e;by_cases e1:i=s.N
  .by_cases e2:j=s.N
   .omega
   rw[AJ e1,AI e2]at e;exact absurd e.symm (k j (by omega))
  by_cases e2:j=s.N
  .rw[AI e1,AJ e2]at e;exact absurd e (k i (by omega))
  rw[AI e1,AI e2]at e;exact d.dom.inj i j (show i<s.N by omega) (show j<s.N by omega) e
 .by_cases e:i=s.N
  .subst e;simp only[if_true];exact⟨m.1.symm,by show none=(s.F.kids s.N).head?;rw[m.2];rfl,by show none=(s.F.kids s.N).getLast?;rw[m.2];rfl,λ_=>⟨rfl,rfl⟩,λp f=>by change s.F.par s.N=some p at f;rw[m.1]at f;cases f⟩
  have t:i<s.N:=by have:i<s.N+1:=n;omega
  simp only[AI e];exact d.fit i t
 by_cases e:i=s.N
 .subst e;simp only[if_true];have:=d.self x hx;show Ex (if s.N=s.N then s.nd x else s.nd s.N) _;rw[AJ rfl];exact⟨this.typ,this.dat,this.ats⟩
 have t:i<s.N:=by have:i<s.N+1:=n;omega
 simp only[AI e];show Ex (if i=s.N then s.nd x else s.nd i) _;rw[AI e];exact d.self i t
def Lm(n m:Nat)(bl e:Nat->Nat)(w w':AB):Prop:=∀y,y<m->∀b,rowAt w' (e y)=some b->(y<n/\rowAt w (bl y)=some b)\/w.heap.size<=b
theorem Lm.refl(n:Nat)(bl:Nat->Nat)(w:AB):Lm n n bl bl w w:=λy e b h=> .inl ⟨e,h⟩
theorem Lm.trans{m:Nat}{t:Nat->Nat}(h:Lm n m Z C w N)(r:Lm m k C t N M)(i:w.heap.size<=N.heap.size):Lm n k Z t w M:=λy o b e=>by
 rcases r y o b e with⟨a,s⟩|a
 .exact h y a b s
 exact .inr (AH i a)
theorem Lm.Y3(h:GI (λi=>i<n) Z w N):Lm n n Z Z w N:=λy t b e=> .inl ⟨t,by rw[<-h.row y t];exact e⟩
theorem Lm.Yq(h:Br F (λi=>i<n) H B Z V w)(o:AL w.heap.size w N):Lm n n Z Z w N:=λy t b e=>by
 obtain⟨_,aa,ac,a,_⟩:=h.dom.node y t;exact .inl ⟨t,by rw[<-Ce (o.block _ (AE.1 a).1)];exact e⟩
def Dx(s a:bY)(B:Nat)(bl:Nat->Nat)(w:AB)(e:Bx)(w':AB):Prop:=
 ∃(t:Nat->Nat) (o:Nat->Dn),e= .returned (.pointer (some ⟨t s.N,0,none⟩))/\(∀y,y<s.N->t y=bl y)/\Br a.F (λi=>i<a.N) a.nd B t o w'/\(∀y,s.N<=y->y<a.N->w.heap.size<=t y)/\Al (λi=>i<s.N) bl w w'/\Lm s.N a.N bl t w w'
structure TG(d:Nat)(s:bY)(x:Nat)(B:Nat)(bl:Nat->Nat)(w:AB)(i:Nat)(bl2:Nat->Nat)(st2:Nat->Dn)(wr:AB):Prop where
 prog:Br (DH d s x i).F (λy=>y<(DH d s x i).N) (DH d s x i).nd B bl2 st2 wr
 old:∀y,y<s.N->bl2 y=bl y
 me:bl2 s.N=w.heap.size+1
 new:∀y,s.N<=y->y<(DH d s x i).N->w.heap.size<=bl2 y
 turn:Al (λi=>i<s.N) bl w wr
 rw:Lm s.N (DH d s x i).N bl bl2 w wr
theorem GR{N s:Nat}{t:Nat->Nat}(T:Al (λi=>i<N) Z w wr)(h:Al (λi=>i<s) t wr M)(old:∀y,y<N->t y=Z y)(new:∀y,N<=y->y<s->w.heap.size<=t y):Al (λi=>i<N) Z w M:=by
 refine⟨h.os.trans T.os,h.tape.trans T.tape,h.output.trans T.output,AH T.size h.size,λb n o=> ?_⟩;rw[h.block b (AR n T.size) (λi r e=> ?_)]
 .exact T.block b n o
 by_cases a:i<N
 .exact o i a (e.trans (old i a))
 have:=new i (by omega) r;omega
theorem Al.Y3{a b:AB}(h:GI S Z a b):Al S Z a b:=⟨h.os,h.tape,h.output,Nat.le_of_eq h.size.symm,λq _ e=>h.block q e⟩
theorem MR{d:Nat}(o:s.F.Ok (λi=>i<s.N) h)(hx:x<s.N)(u:h x<=d+1)(a:i<(s.F.kids x).length)(t:(DH d s x (i+1)).op=false):(DH d s x i).op=false/\(CZ d (DH d s x i) (s.F.kids x)[i]).op=false:=by
 rw[Fy d s x a]at t;have n:(CZ d (DH d s x i) (s.F.kids x)[i]).op=false:=t;refine⟨?_,n⟩;obtain⟨⟨m,r⟩,-,-⟩:=Fk o hx u i (Ca a);have l:=(o.mem x _).1 (AD a);have y:=o.ht _ _ l;have c:=(o.dom _ _ l).2;obtain⟨w,f⟩:=DK d (DH d s x i) m (s.F.kids x)[i] r.ok (by have:=r.lt;omega) (by rw[r.hold _ c];omega);cases e:(DH d s x i).op with
 |false=>rfl
 |true=>rw[f.op e]at n;cases n
theorem RL{d:Nat}(o:s.F.Ok (λi=>i<s.N) h)(hx:x<s.N)(n:h x<=d+1)(e:(DH d s x (s.F.kids x).length).op=false):∀k i,i+k=(s.F.kids x).length->(DH d s x i).op=false:=by
 intro k;induction k with
 |zero=>intro i a;have:i=(s.F.kids x).length:=by omega
        rw[this];exact e
 |succ k t=>
  intro i a;exact(MR o hx n (by omega) (t (i+1) (by omega))).1
theorem Vi{d:Nat}(o:s.F.Ok (λi=>i<s.N) h)(hx:x<s.N)(V:h x<=d+1){v:Nat->Nat}{T:Nat->Dn}
 (H:TG d s x B Z w i v T wr)(j:i<(s.F.kids x).length){e:Bx}(P:Dx (DH d s x i) (CZ d (DH d s x i) (s.F.kids x)[i]) B v wr e M):
 ∃C,e= .returned (.pointer (some ⟨C,0,none⟩))/\AX AC 99 #[.pointer (some ⟨w.heap.size+1,0,none⟩),.pointer (some ⟨C,0,none⟩)] M (λe w3=>e= .returned (.tuple #[])/\∃a u,TG d s x B Z w (i+1) a u w3):=by
 obtain⟨a,u,rfl,hold,L,hnew,D,p⟩:=P;obtain⟨⟨I,q⟩,F,-⟩:=Fk o hx V i (Ca j);have m:=(o.mem x _).1 (AD j);have X:=o.ht _ _ m;have K:=(o.dom _ _ m).2;have O:(s.F.kids x)[i]<(DH d s x i).N:=by have:=q.lt;omega
 obtain⟨Q,f⟩:=DK d (DH d s x i) I _ q.ok O (by rw[q.hold _ K];omega);have t:=Fy d s x j;obtain⟨b,R⟩:∃b,b=CZ d (DH d s x i) (s.F.kids x)[i]:=⟨_,rfl⟩;rw[<-R]at L f t hnew;have A:=q.lt;have J:=f.lt;have l:a s.N=w.heap.size+1:=(hold _ A).trans H.me;refine⟨a (DH d s x i).N,rfl,?_⟩;rw[<-l];refine(LL f.ok M B a u L s.N (DH d s x i).N (show s.N<b.N by omega) (show(DH d s x i).N<b.N by omega) f.root (by omega)).mono ?_;rintro e w3 ⟨rfl,⟨E,N⟩,U⟩;refine⟨rfl,a,E,?_⟩;have W:s.N∉b.F.kids s.N:=λG=>by have:=f.ok.ht _ _ ((f.ok.mem _ _).1 G);omega
 have hF:(b.Yz s.N s.N (DH d s x i).N).F=b.F.put s.N (b.F.kids s.N).length (DH d s x i).N:=Uj b (l1:=b.F.kids s.N) (l2:=[]) (by simp) W (.inl rfl);have c:(DH d s x (i+1)).N=b.N:=by rw[t];rfl
 have k:(DH d s x (i+1)).nd=b.nd:=by rw[t];rfl
 have S:(DH d s x (i+1)).F=b.F.put s.N (b.F.kids s.N).length (DH d s x i).N:=by rw[t];exact hF
 have g:=H.turn.size;have n:∀y,y<s.N->a y=Z y:=λy Y=>(hold y (by omega)).trans (H.old y Y);have r:∀y,s.N<=y->y<b.N->w.heap.size<=a y:=λy m z=>by
  by_cases e:y<(DH d s x i).N
  .rw[hold y e];exact H.new y m e
  have:=hnew y (by omega) z;omega
 refine⟨by rw[S,c,k];exact N,n,l,λy m z=>r y m (by rw[<-c];exact z),?_,?_⟩
 .exact GR (GR H.turn D H.old H.new) (Al.Y3 U) n r
 rw[c];rw[<-R]at p;exact(H.rw.trans p g).trans (Lm.Y3 U) (AH g D.size)
theorem O_{d:Nat}(o:s.F.Ok (λi=>i<s.N) h)(f:Br s.F (λi=>i<s.N) s.nd B Z V w)(z:B<=w.heap.size)(hx:x<s.N){l w3:AB}(c:AL w.heap.size w l)(O:n=(V x).ats.length)
 (p:l.heap[w.heap.size+1]? =some (.cells #[.pointer none,.pointer none,.pointer none,.pointer none,.pointer none,.int .u32 (V x).typ,.int .u32 0,.string (V x).dat,.string ⟨#[]⟩,.slice (some ⟨w.heap.size,0,none⟩) n n] 101 (0,0)))
 (A:w3.ownsRow w.heap.size 133 3 (.slice (some ⟨w.heap.size,0,none⟩) n n) n (CG (V x).ats))(c1:w3.os=l.os)(c2:w3.tape=l.tape)(c3:w3.output=l.output)(c4:w3.heap.size=l.heap.size)(c5:∀b,b≠w.heap.size->w3.heap[b]? =l.heap[b]?):
 ∃E v,TG d s x B Z w 0 E v w3:=by
 subst O;have t:AL w.heap.size w w3:=⟨c1.trans c.os,c2.trans c.tape,c3.trans c.output,by rw[c4];exact c.size,λk I=>(c5 k (by omega)).trans (c.block k I)⟩;have j:=f.kept t;have hF:=Br.fresh o j (g:=w.heap.size+1) (λy a=>by have:=f.dom.lt (i:=y) a;omega) (λy a r hr m=>by
  have N:=f.dom.aV (λq _ T=>t.block q T) (i:=y) a r hr;have u:rowAt w3 (w.heap.size+1)=some w.heap.size:=by
   unfold rowAt;rw[AZ w3 _ 9 _ _ _ ((c5 _ (by omega)).trans p)];rfl
  rw[u]at m;cases m
  omega) (by omega) hx ((c5 _ (by omega)).trans p) (Bf A z)
 refine⟨λy=>if y=s.N then w.heap.size+1 else Z y,λy=>if y=s.N then T0 (V x)else V y,by rw[EI];exact hF,λy a=>AI (by omega),AJ rfl,λy N u=> ?_,Al.Yq t,λy a b e=> ?_⟩
 .rw[EI]at u;have e:y=s.N:=by have:y<s.N+1:=u;omega
  subst e;show w.heap.size<=(if s.N=s.N then w.heap.size+1 else Z s.N);rw[AJ rfl];omega
 rw[EI]at a;have S:y<s.N+1:=a;by_cases e2:y=s.N
 .right;subst e2;simp only[if_true]at e;have u:rowAt w3 (w.heap.size+1)=some w.heap.size:=by
   unfold rowAt;rw[AZ w3 _ 9 _ _ _ ((c5 _ (by omega)).trans p)];rfl
  rw[u]at e;cases e
  exact AG _
 simp only[e2,if_false]at e;exact Lm.Yq f t y (by omega) b e
theorem Tm(o:s.F.Ok (λi=>i<s.N) h){e:Nat->Nat}(hold:∀y,y<s.N->e y=Z y)(x j:Nat):Au e ((s.F.kids x)[j]?)=Au Z ((s.F.kids x)[j]?):=
 KU λy t=>hold y ((o.dom x y ((o.mem x y).1 (List.mem_of_getElem? t))).2)
theorem Tl{d:Nat}(o:s.F.Ok (λi=>i<s.N) h)(hx:x<s.N)(l:h x<=d+1){a:Nat->Nat}{t:Nat->Dn}(H:TG d s x B Z w i a t wr)(r:i<=(s.F.kids x).length):wr.cell? ⟨Z x,1,none⟩=some (Au Z ((s.F.kids x)[0]?)):=by
 obtain⟨⟨u,n⟩,-,-⟩:=Fk o hx l i r;have e:x<(DH d s x i).N:=by have:=n.lt;omega
 obtain⟨-,-,c1,-⟩:=H.prog.dom.cells (i:=x) e;rw[(H.prog.fit x e).fst,n.kids x hx,List.head?_eq_getElem?,Tm o H.old,H.old x hx]at c1;exact c1
theorem Vh{d:Nat}(o:s.F.Ok (λi=>i<s.N) h)(hx:x<s.N)(y:h x<=d+1){n:Nat->Nat}{a:Nat->Dn}(H:TG d s x B Z w i n a wr)(f:i<=(s.F.kids x).length){j:Nat}(m:j<(s.F.kids x).length):wr.cell? ⟨Z (s.F.kids x)[j],4,none⟩=some (Au Z ((s.F.kids x)[j+1]?)):=by
 obtain⟨⟨g,t⟩,-,-⟩:=Fk o hx y i f;have u:=(o.mem x _).1 (AD m);have l:=(o.dom _ _ u).2;have e:(s.F.kids x)[j]<(DH d s x i).N:=by have:=t.lt;omega
 obtain⟨-,-,-,-,-,c4,-⟩:=H.prog.dom.cells (i:=(s.F.kids x)[j]) e;have e1:=((H.prog.fit _ e).sib x (by rw[t.par _ l];exact u)).2;have e2:s.F.kids x=(s.F.kids x).take j++(s.F.kids x)[j]::(s.F.kids x).drop (j+1):=by rw[List.getElem_cons_drop,Av]
 have r:=o.nodup x;rw[e2]at r;have c:=Bt ((s.F.kids x).drop (j+1)) (s.F.kids x)[j] ((s.F.kids x).take j) (CH r).1;rw[<-e2,List.head?_drop]at c;rw[e1,t.kids x hx,c,Tm o H.old,H.old _ l]at c4;exact c4
theorem MQ{d:Nat}(o:s.F.Ok (λi=>i<s.N) h)(q:Br s.F (λi=>i<s.N) s.nd B Z V w)(hBw:B<=w.heap.size)(hx:x<s.N)(hd:h x<=d+1)(hal:(V x).ats.length<=2000)
 (F:∀i (l:i<(s.F.kids x).length) t n wr,TG d s x B Z w i t n wr->AX AC 77 #[.pointer (some ⟨Z (s.F.kids x)[i],0,none⟩)] wr (Dx (DH d s x i) (CZ d (DH d s x i) (s.F.kids x)[i]) B t wr)):
 AX AC 77 #[.pointer (some ⟨Z x,0,none⟩)] w (Dx s (DH d s x (s.F.kids x).length) B Z w):=by
 have G:=q.dom.lt (i:=x) hx;obtain⟨-,-,-,-,-,-,q5,q7,aa,ac,q9,ho⟩:=q.dom.cells (i:=x) hx;have q6:w.cell? ⟨Z x,6,none⟩=some (.int .u32 0):=by
  obtain⟨_,ba,bc,hh,_⟩:=q.dom.node x hx;rw[AZ w _ 6 _ _ _ hh];rfl
 have L:∀j,(w.alloc (.cells (DG #[.string ⟨#[]⟩,.string ⟨#[]⟩,.string ⟨#[]⟩] ((V x).ats.length*3)) 133)).cell? ⟨Z x,j,none⟩=w.cell? ⟨Z x,j,none⟩:=λj=>((AW w.heap.size w).alloc (AG _) _).cell (p:=⟨Z x,j,none⟩) G;have a5:=(L 5).trans q5;have a6:=(L 6).trans q6;have a7:=(L 7).trans q7;have a9:=(L 9).trans q9;have hmk:∀W:AB,(Instr.makeSlice 99 (.int .i64 ((V x).ats.length:Int)) (.int .i64 ((V x).ats.length:Int))).run AC W= .ok (.slice (some ⟨W.heap.size,0,none⟩) (V x).ats.length (V x).ats.length) (W.alloc (.cells (DG #[.string ⟨#[]⟩,.string ⟨#[]⟩,.string ⟨#[]⟩] ((V x).ats.length*3)) 133)):=by
  intro W;obtain⟨i0,J,hz0,hz1,hz2⟩:=D6 Tryz.Zk;have:=run_make (P:=AC) W 99 133 i0 _ underlying99 J hz0 .i64 .i64 ((V x).ats.length:Int) ((V x).ats.length:Int) (by omega) (Int.le_refl _) (by rw[hz2];omega) (by omega);rw[hz1]at this;simp only[Int.toNat_natCast]at this;exact this
 obtain⟨z,c⟩:∃z,z=((w.alloc (.cells (DG #[.string ⟨#[]⟩,.string ⟨#[]⟩,.string ⟨#[]⟩] ((V x).ats.length*3)) 133)).alloc (.cells #[.pointer none,.pointer none,.pointer none,.pointer none,.pointer none,.int .u32 (V x).typ,.int .u32 0,.string (V x).dat,.string ⟨#[]⟩,.slice (some ⟨w.heap.size,0,none⟩) (V x).ats.length (V x).ats.length] 101)).drew:=⟨_,rfl⟩;have E:AL w.heap.size w z:=by rw[c];exact(((AW _ _).alloc (AG _) _).alloc (by simp) _).drew
 have N:z.heap[w.heap.size+1]? =some (.cells #[.pointer none,.pointer none,.pointer none,.pointer none,.pointer none,.int .u32 (V x).typ,.int .u32 0,.string (V x).dat,.string ⟨#[]⟩,.slice (some ⟨w.heap.size,0,none⟩) (V x).ats.length (V x).ats.length] 101 (0,0)):=by
  have:=Ah (w.alloc (.cells (DG #[.string ⟨#[]⟩,.string ⟨#[]⟩,.string ⟨#[]⟩] ((V x).ats.length*3)) 133)) (.cells #[.pointer none,.pointer none,.pointer none,.pointer none,.pointer none,.int .u32 (V x).typ,.int .u32 0,.string (V x).dat,.string ⟨#[]⟩,.slice (some ⟨w.heap.size,0,none⟩) (V x).ats.length (V x).ats.length] 101);rw[BX]at this;rw[c];exact this
 have Y:z.heap[w.heap.size]? =some (.cells (DG #[.string ⟨#[]⟩,.string ⟨#[]⟩,.string ⟨#[]⟩] ((V x).ats.length*3)) 133 (0,0)):=by
  have e1:=Ah w (.cells (DG #[.string ⟨#[]⟩,.string ⟨#[]⟩,.string ⟨#[]⟩] ((V x).ats.length*3)) 133);have e2:=((AW (w.alloc (.cells (DG #[.string ⟨#[]⟩,.string ⟨#[]⟩,.string ⟨#[]⟩] ((V x).ats.length*3)) 133)).heap.size (w.alloc (.cells (DG #[.string ⟨#[]⟩,.string ⟨#[]⟩,.string ⟨#[]⟩] ((V x).ats.length*3)) 133))).alloc (AG _) (.cells #[.pointer none,.pointer none,.pointer none,.pointer none,.pointer none,.int .u32 (V x).typ,.int .u32 0,.string (V x).dat,.string ⟨#[]⟩,.slice (some ⟨w.heap.size,0,none⟩) (V x).ats.length (V x).ats.length] 101)).block w.heap.size (by simp);rw[c];exact e2.trans e1
 have C:z.drew.ownsRow B 133 3 (.slice aa (V x).ats.length ac) (V x).ats.length (CG (V x).ats):=BB ho (λb _ h2=>(E.drew).block b h2);obtain⟨w3,T,M,t1,t2,t3,t4,t5⟩:=Xt (base:=w.heap.size) 3 C (g:=w.heap.size) Y (size_madeCells _ _) (λe=>by have:=(ho.lt _ e).2;omega) (AG _) (by unfold maxLen;omega);have HCL:Hid (∃t n,TG d s x B Z w 0 t n w3):=O_ o q hBw hx E rfl N M t1 t2 t3 t4 t5;have e9:z.cell? ⟨w.heap.size+1,9,none⟩=some (.slice (some ⟨w.heap.size,0,none⟩) (V x).ats.length (V x).ats.length):=by rw[AZ z _ 9 _ _ _ N];rfl
 have e9x:z.cell? ⟨Z x,9,none⟩=some (.slice aa (V x).ats.length ac):=(E.cell (p:=⟨Z x,9,none⟩) G).trans q9;have HIH:=AA F;have D:=AA (λ(i:Nat) (t:Nat->Nat) (n:Nat->Dn) (wr:AB) (H:TG d s x B Z w i t n wr) (l:i<(s.F.kids x).length) (e:Bx) (w2:AB) (P:Dx (DH d s x i) (CZ d (DH d s x i) (s.F.kids x)[i]) B t wr e w2)=>Vi o hx hd H l P);have X:=AA T;have HF:=AA (λi t n wr (H:TG d s x B Z w i t n wr) l=>Tl o hx hd H l);have HNx:=AA (λi t n wr (H:TG d s x B Z w i t n wr) l j (hj:j<(s.F.kids x).length)=>Vh o hx hd H l hj);have HKid:Hid (∀i (l:i<(s.F.kids x).length),(s.F.kids x)[i]<s.N):=λi l=>(o.dom _ _ ((o.mem x _).1 (AD l))).2;have I:Hid (∀i (l:i<(s.F.kids x).length),NB (λy=>y<s.N) Z (λy=>(s.F.kids x).length-(s.F.kids x).idxOf y) (.pointer (some ⟨Z (s.F.kids x)[i],0,none⟩))=(s.F.kids x).length-i+1):=λi l=>by
  rw[Jo (λa b ha hb e=>q.dom.inj a b ha hb e) _ ((o.dom _ _ ((o.mem x _).1 (AD l))).2)];show(s.F.kids x).length-(s.F.kids x).idxOf (s.F.kids x)[i]+1=_;rw[(o.nodup x).idxOf_getElem i l]
 have ee:Hid (NB (λy=>y<s.N) Z (λy=>(s.F.kids x).length-(s.F.kids x).idxOf y) (.pointer none)=0):=ON _ _ _;clear F ho o q L E N Y C T M t1 t2 t3 t4 t5;go_enter func77,ntmps77;go_wp2_with fail
 go_region;all_goals (go_wp2_with fail)
 rw[<-c];clear c hmk a5 a6 a7 a9 q5 q6 q7 q9;go_region_law (refine Q1 rfl (.tmp 28) (.tmp 32) 99 99 rfl _ _ _ rfl rfl X.o ?_);all_goals
  obtain⟨K,U,S⟩:=HCL.o;have HCl:=AA S;have k1:=HF.o 0 K U w3 S (AY _);clear S e9 e9x;go_wp2;go_loopw [4] (λv wr=>∃(i:Nat) (t:Nat->Nat) (n:Nat->Dn),i<=(s.F.kids x).length/\v=Au Z ((s.F.kids x)[i]?)/\TG d s x B Z w i t n wr) (λv _=>NB (λy=>y<s.N) Z (λy=>(s.F.kids x).length-(s.F.kids x).idxOf y) v)
  .exact⟨0,K,U,AY _,rfl,HCl.o⟩
  obtain⟨i,t,n,l,rfl,k⟩:=hrel;clear k1;by_cases r:i<(s.F.kids x).length
  .have e1:(s.F.kids x)[i]? =some (s.F.kids x)[i]:=AK r;rw[e1];simp only[Au,As];have f:=AA (HIH.o i r t n wr k);have HSt:=AA (λe w2=>D.o i t n wr k r e w2);have O:=AA (λm u w4 (H:TG d s x B Z w (i+1) m u w4)=>HNx.o (i+1) m u w4 H r i r);have Q:=AA (I.o i r);have HM2:Hid (NB (λy=>y<s.N) Z (λy=>(s.F.kids x).length-(s.F.kids x).idxOf y) (Au Z ((s.F.kids x)[i+1]?))<(s.F.kids x).length-i+1):=by
    by_cases h2:i+1<(s.F.kids x).length
    .have e2:(s.F.kids x)[i+1]? =some (s.F.kids x)[i+1]:=AK h2;have:=I.o (i+1) h2;unfold Hid;rw[e2];simp only[Au,As];omega
    have e2:(s.F.kids x)[i+1]? =none:=F5 (by omega);have:=ee.o;unfold Hid;rw[e2];simp only[Au,BF];omega
   obtain⟨y,hy⟩:∃y,y=Z (s.F.kids x)[i]:=⟨_,rfl⟩;rw[<-hy]at f O Q|-;clear k e1 hy;go_wp2_with fail;refine f.o.mono ?_;intro e w4 q;obtain⟨g2,rfl,A⟩:=HSt.o e w4 q;have ea:=AA A;clear q A;go_wp2_with fail;refine ea.o.mono ?_;rintro e w5 ⟨rfl,m,u,R⟩;have n4:=O.o m u w5 R;have HC5:=AA R;clear R;go_wp2;go_roundw
   .exact⟨i+1,m,u,r,rfl,HC5.o⟩
   have:=Q.o;have:=HM2.o;omega
  have e:i=(s.F.kids x).length:=by omega
  have e1:(s.F.kids x)[i]? =none:=F5 (by omega);rw[e1];simp only[Au,BF];have et:Hid (Dx s (DH d s x (s.F.kids x).length) B Z w (.returned (.pointer (some ⟨w.heap.size+1,0,none⟩))) wr):=by
   rw[<-e];exact⟨t,n,by rw[k.me],k.old,k.prog,k.new,k.turn,k.rw⟩
  clear k e e1;go_wp2;go_ret;exact et.o
theorem GQ(d:Nat):∀{s:bY} {h:Nat->Nat} (o:s.F.Ok (λi=>i<s.N) h) {B:Nat} {bl:Nat->Nat} {g:Nat->Dn} {w:AB} (f:Br s.F (λi=>i<s.N) s.nd B bl g w) (n:B<=w.heap.size) {x:Nat} (hx:x<s.N) (m:h x<=d) (t:(CZ d s x).op=false) (a:∀y,y<s.N->(CU (s.nd y)).length<=2000),
 AX AC 77 #[.pointer (some ⟨bl x,0,none⟩)] w (Dx s (CZ d s x) B bl w):=by
 induction d with
 |zero=>
  intro s h o B bl g w f n x hx m t a;have l:(g x).ats.length<=2000:=by rw[(f.self x hx).ats];exact a x hx
  have r:¬600<=s.N:=λr=>by
   have e:CZ 0 s x=(s.fresh x).shut:=by show(if 600<=s.N then _ else _)=_;rw[AJ r]
   rw[e]at t;cases t
  have e:CZ 0 s x=s.fresh x:=by show(if 600<=s.N then _ else _)=_;rw[AI r]
  have v:s.F.kids x=[]:=List.eq_nil_iff_forall_not_mem.2 λc A=>by
   have:=o.ht _ _ ((o.mem x c).1 A);omega
  have e2:DH 0 s x (s.F.kids x).length=s.fresh x:=by rw[v];exact EI 0 s x
  have:=MQ (d:=0) o f n hx (by omega) l (λi u=>by rw[v]at u;simp at u);rw[e2]at this;rw[e];exact this
 |succ d j=>
  intro s h o B bl g w f n x hx m t a;have l:(g x).ats.length<=2000:=by rw[(f.self x hx).ats];exact a x hx
  have r:¬600<=s.N:=λr=>by
   have e:CZ (d+1) s x=(s.fresh x).shut:=by show(if 600<=s.N then _ else _)=_;rw[AJ r]
   rw[e]at t;cases t
  have e:=JB d s x r;rw[<-e]at t|-;refine MQ o f n hx m l λi u S I wr H=> ?_;obtain⟨⟨D,p⟩,-,-⟩:=Fk o hx m i (Ca u);have q:=(o.mem x _).1 (AD u);have k:=(o.dom _ _ q).2;have R:=o.ht _ _ q;have N:=p.lt;have b:=(MR o hx m u (RL o hx m t ((s.F.kids x).length-(i+1)) (i+1) (by omega))).2;rw[<-H.old _ k];refine j p.ok H.prog (AH n H.turn.size) (by omega) (by rw[p.hold _ k];omega) b (λy T=> ?_);by_cases e2:y<s.N
  .rw[p.ndo y e2];exact a y e2
  obtain⟨z,E,O⟩:=p.newn y (by omega) T;rw[O];exact a z E
end Go.Proofs.YtgajepeipddacaaGreat
