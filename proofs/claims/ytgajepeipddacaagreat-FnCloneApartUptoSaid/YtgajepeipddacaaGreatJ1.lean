/- Part 1 of the proof of FnCloneApart: what the law and the program compute, walked. -/
import Derived.Below
import Derived.BigQuiet
import Derived.BigRegion
import Derived.ChangeSame
import Derived.Deep.AppendLies
import Derived.Deep.Cut
import Derived.Deep.CutBlock
import Derived.Deep.DeepCutAuto
import Derived.Deep.Fields
import Derived.Deep.LoopGhost
import Derived.Deep.OwnRows
import Derived.Deep.QuietTactic
import Derived.Deep.RegionHeld
import Derived.Deep.RegionLaw
import Derived.Deep.Slices
import Derived.LaidEqlPtr
import Derived.Laws.AppendOwn
import Derived.Laws.CopyOwn
import Derived.Laws.Entries
import Derived.Laws.MakeOwn
import Derived.Laws.RangeAny
import Derived.Lib.BufSteps
import Derived.Lib.BufferWrite
import Derived.Lib.Builder
import Derived.Lib.Case
import Derived.Lib.DecodeN
import Derived.Lib.Fields
import Derived.Lib.FieldsLaws
import Derived.Lib.Hide
import Derived.Lib.IndexBytes
import Derived.Lib.IndexLaws
import Derived.Lib.IndexMore
import Derived.Lib.Join
import Derived.Lib.OthersKept
import Derived.Lib.RuneCount
import Derived.Lib.Space
import Derived.Lib.TrimU
import Derived.LoopTactic
import Derived.MapFrom
import Derived.Maps.AppendAt
import Derived.OrdersHeld
import Derived.OwnWalk
import Derived.ProofKit
import Derived.RegionTactic
import Derived.StillTail
import Derived.StillTailTactics
import Derived.Test.YtgajepeipddacaaGreatRows
import Derived.WalkKit
import Derived.WalkLawsBesides
import Derived.WalkSpells
import Derived.Test.YtgajepeipddacaaGreatShelf
open Go.RowKit Go.Proofs.Tryz
open Array renaming getElem?_eq_some_iff->AE
open Go renaming Addr->Ai,Calls->AX,Ending->Bx,Oper->ER,TypeId->Dk,Value->AS,World->AB,cell_of_row->AZ,frozen_of_row->A7,heap_alloc_new->Ah,heap_setCell_same->Ao,info_parts->D6,madeCells->DG,run_underlying->Ez
open Go.Act renaming put->AQ
open Go.Addr renaming add_lit->Ba
open Go.Lib renaming hid->AA
open Go.Proofs.Tryz renaming prog->AC,underlying70->GA
open Go.Region renaming binds->Ev,ready->CP,wanted->Du
open Go.RowKit renaming Below->AL,intOf->Aa
open Go.RowKit.Below renaming heap_alloc->B5,heap_setCell->A8,refl->AW
open Go.Value renaming ownBlock->A6,slice->AO
open Go.World renaming cell?_alloc_lt->Fv,cell?_alloc_mark->BI,ownsRow_nil->Aw,setCell->Cb,size_alloc->BX
open List renaming drop_eq_getElem_cons->Ck,eq_nil_of_length_eq_zero->Ag,filter_cons->CW,flatMap_append->C9,flatMap_cons->A_,getD_eq_getElem?_getD->Ae,getElem?_append_right->EV,getElem?_eq_getElem->AK,getElem?_eq_none->F5,getElem?_eq_some_iff->C6,getElem_mem->AD,getElem_of_mem->An,length_append->AN,length_cons->Ak,length_nil->Ar,map_cons->Bz,mem_append->AV,mem_cons->BQ,mem_cons_of_mem->Ab,mem_cons_self->Af,mem_filter->Cd,mem_flatMap->C1,mem_map->BL,mem_singleton->AP,nil_append->BY,nodup_append->BA,nodup_cons->B4,range->BV,range'->EP,setIfInBounds_toArray->Cx,take_append_drop->Av,take_length->AU,take_succ_eq_append_getElem->AF
open Nat renaming add_zero->Dj,eq_zero_or_pos->BJ,le_refl->AG,le_trans->AH,lt_of_lt_of_le->AR,lt_or_ge->Be,zero_add->By,zero_le->AY
open Ne renaming symm->B9
open Option renaming getD_some->BE,map_eq_some_iff->Eu,map_none->BF,map_some->As
namespace Go.Proofs.YtgajepeipddacaaGreat
theorem Go.RowKit.Hid.o{p:Prop}(h:RowKit.Hid p):p:=h
theorem Go.Shut.o{p:Prop}(h:Shut p):p:=h
theorem Go.Aside.o{p:Prop}(h:Aside p):p:=h
theorem Ac{w:AB}{x:_}:AL w.heap.size w (w.alloc x):=(AW _ _).alloc (AG _) _
theorem Aj{w:AB}{b i:Nat}{vs:Array AS}{T:Dk}{m:Nat × Nat}{v:AS}(h:w.heap[b]? =some (.cells vs T m))(e:vs[i]? =some v:=by rfl):w.cell? ⟨b,i,none⟩=some v:=by
 rw[AZ _ _ _ _ _ _ h];exact e
theorem FE{w:AB}{b i:Nat}{vs:Array AS}{T:Dk}(h:w.heap[b]? =some (.cells vs T (0,0))):w.frozen? ⟨b,i,none⟩=false:=A7 _ _ _ _ _ h
theorem AI{c:Prop}{_:Decidable c}(h:¬c){α:Sort _}{t e:α}:(ite c t e)=e:=if_neg h
theorem AJ{c:Prop}{_:Decidable c}(h:c){α:Sort _}{t e:α}:(ite c t e)=t:=if_pos h
theorem CY{α:Type _}[BEq α][LawfulBEq α]{a b:α}:(a==b)=false↔a≠b:=beq_eq_false_iff_ne
end Go.Proofs.YtgajepeipddacaaGreat
open Go.Proofs.YtgajepeipddacaaGreat
namespace Go.Proofs.YtgajepeipddacaaGreat
set_option linter.unusedVariables false
set_option maxRecDepth 100000
set_option maxHeartbeats 40000000
variable{B A c g i k n p x:Nat}{K:Act->AB->Prop}{Q:Exit->Act->AB->Prop}{S:Nat->Prop}{a L:Option Ai}{Z C h u O:Nat->Nat}{E:Array AS}{X:Array Bool}{G:List Nat}{T:Array ER}{P:Nat->Int}{v:AS}{w N M wr:AB}
section
variable {P:Program} {ops:Array ER} {Q:Exit->Act->AB->Prop} {md:Region.Mode} {G:Array Bool->AB->Prop} {T:AB->Prop}
def Dg(P:Program)(md:Region.Mode)(ops:Array ER)(Q:Exit->Act->AB->Prop)(G:Array Bool->AB->Prop):Nat->Array Bool->Act->AB->Prop
 |0,e,a,w=>CP md ops e=[]/\Q .normal a w
 |fuel+1,e,a,w=>
  (CP md ops e=[]->Q .normal a w)/\
  ∀i∈CP md ops e,wpOp P ops Q i (λo t=>G (e.setIfInBounds i true) t/\Dg P md ops Q G fuel (e.setIfInBounds i true) o t) a w
theorem M0:∀(fuel:Nat) (e:Array Bool) (a:Act) (w:AB),Dg P md ops Q G fuel e a w->wpAny P md ops Q fuel e a w
 |0,_,_,_,h=>h
 |fuel+1,_,_,_,h=>⟨h.1,λi o=>wpOp_mono (λs t n=>M0 fuel _ s t n.2) (h.2 i o)⟩
theorem Oi{f:Nat}{z:ER}(Y:ops[i]? =some z)(y:∀(j:Nat) (o:ER) I b,ops[j]? =some o->o.op≠ .select I b)
 (hQ:∀c a w,Q (.panic c) (a.put z.dst v) w->Q (.panic c) a w)(hif:i≠f)(hf:∃W,ops[f]? =some W/\∃e∈W.after,Ev md e=true/\e.on=i)
 (D:∀l w,l.getD f true=false->G l w->T w)(A:∀l w,G (l.setIfInBounds i true) w↔G l w):
 ∀(s:Nat) (t:Array Bool) (a:Act) (w:AB),
  (∀j x,ops[j]? =some x->j≠i->t.getD j true=false->(∀e∈x.after,Ev md e=true->e.on≠i)->z.apart ops x=true)->
  i∈CP md ops t->YieldsIf P ops T z v a->G t w->t.getD f true=false->
  Dg P md ops Q G s (t.setIfInBounds i true) (a.put z.dst v) w->Dg P md ops Q G (s+1) t a w:=by
 intro s;induction s with
 |zero=>
  intro t a w _ hr C O u H;refine⟨λh=>(by rw[h]at hr;cases hr),λj M=> ?_⟩;by_cases n:j=i
  .subst n;exact C.wpOp Y (D _ _ u O) ⟨(A _ _).2 O,H⟩
  have:=ready_mono M n;rw[H.1]at this;cases this
 |succ s ih=>
  intro t a w r hr C O u H;refine⟨λh=>(by rw[h]at hr;cases hr),λj M=> ?_⟩;by_cases n:j=i
  .subst n;exact C.wpOp Y (D _ _ u O) ⟨(A _ _).2 O,H⟩
  have E:=H.2 j (ready_mono M n);obtain⟨p,x,d,U⟩:=mem_ready.1 M;have g:∀e∈x.after,Ev md e=true->e.on≠i:=λe B V et=>by
   have E:=U e B V;have h0:=(mem_ready.1 hr).1;rw[et]at E;rcases Be i t.size with K|K
   .simp[K]at h0 E;rw[h0]at E;cases E
   simp[Array.getElem?_eq_none K]at E
  have ee:j≠f:=by
   rintro rfl;obtain⟨W,S,e,B,V,J⟩:=hf;rw[d]at S;cases S
   exact g e B V J
  have h2:=wpOp_putIf d (r j x d n p g) (λI b=>y i z I b Y) (λI b=>y j x I b d) hQ C E;have m:∀k ok,ops[k]? =some ok->k≠i->(t.setIfInBounds j true).getD k true=false->
   (∀e∈ok.after,Ev md e=true->e.on≠i)->z.apart ops ok=true:=λk ok hk Z N X=>by
   refine r k ok hk Z ?_ X;by_cases R:j=k
   .subst R;exact p
   rw[getD_set_ne true R]at N;exact N
  have L:(t.setIfInBounds j true).getD f true=false:=by rw[getD_set_ne true ee];exact u
  have hc:∀q,G ((t.setIfInBounds i true).setIfInBounds j true) q->G (t.setIfInBounds j true) q:=λq h=>by
   rw[<-Array.setIfInBounds_comm _ _ n]at h;exact(A _ _).1 h
  refine wpOp_mono (λa' q F=>⟨hc q F.2.1,ih (t.setIfInBounds j true) a' q m (ready_mono hr (B9 n)) (F.1) (hc q F.2.1) L ?_⟩) h2;rw[Array.setIfInBounds_comm _ _ n];exact F.2.2
theorem P5{g:ER}(D:ops[i]? =some g)(u:∀(j:Nat) (o:ER) z b,ops[j]? =some o->o.op≠ .select z b)
 (X:∀c a w,Q (.panic c) (a.put g.dst v) w->Q (.panic c) a w)(x:∀l w,G (l.setIfInBounds i true) w↔G l w):
 ∀(s:Nat) (t:Array Bool) (a:Act) (w:AB),
  (∀j y,ops[j]? =some y->j≠i->t.getD j true=false->(∀e∈y.after,Ev md e=true->e.on≠i)->g.apart ops y=true)->
  i∈CP md ops t->YieldsIf P ops (λ_=>True) g v a->G t w->
  Dg P md ops Q G s (t.setIfInBounds i true) (a.put g.dst v) w->Dg P md ops Q G (s+1) t a w:=by
 intro s;induction s with
 |zero=>
  intro t a w _ hr N L H;refine⟨λh=>(by rw[h]at hr;cases hr),λj S=> ?_⟩;by_cases n:j=i
  .subst n;exact N.wpOp D trivial ⟨(x _ _).2 L,H⟩
  have:=ready_mono S n;rw[H.1]at this;cases this
 |succ s B=>
  intro t a w r hr N L H;refine⟨λh=>(by rw[h]at hr;cases hr),λj S=> ?_⟩;by_cases n:j=i
  .subst n;exact N.wpOp D trivial ⟨(x _ _).2 L,H⟩
  have p:=H.2 j (ready_mono S n);obtain⟨m,y,q,I⟩:=mem_ready.1 S;have O:∀e∈y.after,Ev md e=true->e.on≠i:=λe K J F=>by
   have p:=I e K J;have Y:=(mem_ready.1 hr).1;rw[F]at p;rcases Be i t.size with U|U
   .simp[U]at Y p;rw[Y]at p;cases p
   simp[Array.getElem?_eq_none U]at p
  have Z:=wpOp_putIf q (r j y q n m O) (λz b=>u i g z b D) (λz b=>u j y z b q) X N p;have d:∀k ok,ops[k]? =some ok->k≠i->(t.setIfInBounds j true).getD k true=false->
   (∀e∈ok.after,Ev md e=true->e.on≠i)->g.apart ops ok=true:=λk ok V M E C=>by
   refine r k ok V M ?_ C;by_cases A:j=k
   .subst A;exact m
   rw[getD_set_ne true A]at E;exact E
  have W:∀f,G ((t.setIfInBounds i true).setIfInBounds j true) f->G (t.setIfInBounds j true) f:=λf h=>by
   rw[<-Array.setIfInBounds_comm _ _ n]at h;exact(x _ _).1 h
  refine wpOp_mono (λa' f R=>⟨W f R.2.1,B (t.setIfInBounds j true) a' f d (ready_mono hr (B9 n)) (R.1) (W f R.2.1) ?_⟩) Z;rw[Array.setIfInBounds_comm _ _ n];exact R.2.2
theorem Lf{f:Nat}{o:ER}{e:Nat}{a:Act}(u:ops[i]? =some o)
 (g:Region.noSelect ops=true)(r:Region.free md ops X i=true)(hr:(CP md ops X).contains i=true)
 (n:Region.waitsFor md ops f i=true)(s:(i==f)=false)(p:X.getD f true=false)
 (b:∀c a w,Q (.panic c) (a.put o.dst v) w->Q (.panic c) a w)(d:∀l w,l.getD f true=false->G l w->T w)(t:∀l w,G (l.setIfInBounds i true) w↔G l w)(y:YieldsIf P ops T o v a)(m:G X w)
 (h:G (X.setIfInBounds i true) w->Dg P md ops Q G e (X.setIfInBounds i true) (a.put o.dst v) w):Dg P md ops Q G (e+1) X a w:=
 Oi u (Region.noSelect_spec g) b (CY.1 s) (Region.waitsFor_spec n) d t e X a w (Region.free_spec u r) (by simpa using hr) y m p (h ((t _ _).2 m))
theorem Kh{o:ER}{e:Nat}{a:Act}(s:ops[i]? =some o)
 (u:Region.noSelect ops=true)(n:Region.free md ops X i=true)(hr:(CP md ops X).contains i=true)
 (m:∀c a w,Q (.panic c) (a.put o.dst v) w->Q (.panic c) a w)(t:∀l w,G (l.setIfInBounds i true) w↔G l w)(d:YieldsIf P ops (λ_=>True) o v a)(r:G X w)
 (h:G (X.setIfInBounds i true) w->Dg P md ops Q G e (X.setIfInBounds i true) (a.put o.dst v) w):Dg P md ops Q G (e+1) X a w:=
 P5 s (Region.noSelect_spec u) m t e X a w (Region.free_spec s n) (by simpa using hr) d r (h ((t _ _).2 r))
theorem Bb{o:ER}{e:Nat}{a:Act}(hr:CP md ops X=[i])(d:ops[i]? =some o)
 (h:∀t:Act->AB->Prop,Shut (∀a w,G (X.setIfInBounds i true) w->(G (X.setIfInBounds i true) w->Dg P md ops Q G e (X.setIfInBounds i true) a w)->t a w)->if Du o (yielded ops a.tmps)=true then Oper.wp P o a w t Q else t (a.put o.dst undef) w):
 Dg P md ops Q G (e+1) X a w:=by
 refine⟨λr=>(by rw[hr]at r;cases r),λj n=> ?_⟩;rw[hr,AP]at n;subst n;exact wpOp_step d (λt u=>h t (λa w s l=>u a w ⟨s,l s⟩))
theorem D_{a:Act}(hr:CP md ops X=[])(h:Q .normal a w):∀e,Dg P md ops Q G e X a w
 |0=>⟨hr,h⟩
 |_+1=>⟨λ_=>h,by rw[hr];simp⟩
theorem D'{id:Nat}{a:Act}(G:Array Bool->AB->Prop)(e:P.follows .mixedOrders=true)
 (h:Dg P .any ops Q G ops.size (Array.replicate ops.size false) a w.drew):(Code.region id ops true).wp P Q a w:=
 wp_region_any e (M0 _ _ _ _ h)
end
def G3(f1 f2 e:Nat)(A B C:AB->Prop)(l:Array Bool)(w:AB):Prop:=(l.getD f1 true=false->A w)/\(l.getD f2 true=false->B w)/\(l.getD e true=false->C w)
theorem G3.set{f1 f2 e:Nat}{A B C:AB->Prop}(o:i≠f1)(a:i≠f2)(t:i≠e)(l:Array Bool)(w:AB):G3 f1 f2 e A B C (l.setIfInBounds i true) w↔G3 f1 f2 e A B C l w:=by
 unfold G3;rw[getD_set_ne true o,getD_set_ne true a,getD_set_ne true t]
theorem FM(i:Nat){P:Program}{o:Region.Mode}{G:Array Bool->AB->Prop}{t:ER}{e:Nat}{a:Act}(m:G X w)
 (h:G (X.setIfInBounds i true) w->Dg P o T Q G e (X.setIfInBounds i true) (a.put t.dst v) w)
 (u:T[i]? =some t:=by simp only[List.getElem?_toArray,List.getElem?_cons_succ,List.getElem?_cons_zero];rfl)
 (d:Region.noSelect T=true:=by decide+kernel)(n:Region.free o T X i=true:=by decide+kernel)(hr:(CP o T X).contains i=true:=by decide+kernel)
 (f:∀c a w,Q (.panic c) (a.put t.dst v) w->Q (.panic c) a w:=by intro _ _ _ h;exact h)(s:∀l w,G (l.setIfInBounds i true) w↔G l w:=by exact λl w=>Iff.rfl)
 (r:YieldsIf P T (λ_=>True) t v a:=by refine Or.inl ⟨by kernel_rfl,?_⟩;intro y _;go_simp<;>with_reducible rfl):Dg P o T Q G (e+1) X a w:=
 Kh u d n hr f s r m h
theorem DF(i:Nat){P:Program}{o:Region.Mode}{G:Array Bool->AB->Prop}{t:ER}{e:Nat}{a:Act}(m:G X w)
 (h:G (X.setIfInBounds i true) w->Dg P o T Q G e (X.setIfInBounds i true) (a.put t.dst v) w)
 (u:T[i]? =some t:=by rfl)
 (d:Region.noSelect T=true:=by decide+kernel)(n:Region.free o T X i=true:=by decide+kernel)(hr:(CP o T X).contains i=true:=by decide+kernel)
 (f:∀c a w,Q (.panic c) (a.put t.dst v) w->Q (.panic c) a w:=by intro _ _ _ h;exact h)(s:∀l w,G (l.setIfInBounds i true) w↔G l w:=by exact λl w=>G3.set (by decide) (by decide) (by decide) l w)
 (r:YieldsIf P T (λ_=>True) t v a:=by refine Or.inl ⟨by rfl,?_⟩;intro y _;go_simp<;>with_reducible rfl):Dg P o T Q G (e+1) X a w:=
 Kh u d n hr f s r m h
theorem tG(i f:Nat){P:Program}{o:Region.Mode}{e:Array ER}{G:Array Bool->AB->Prop}{T:AB->Prop}{n:ER}{t:Nat}{a:Act}(y:∀l w,l.getD f true=false->G l w->T w)(s:G X w)
 (h:G (X.setIfInBounds i true) w->Dg P o e Q G t (X.setIfInBounds i true) (a.put n.dst v) w)
 (k:e[i]? =some n:=by simp only[List.getElem?_toArray,List.getElem?_cons_succ,List.getElem?_cons_zero];rfl)
 (p:Region.noSelect e=true:=by decide+kernel)(u:Region.free o e X i=true:=by decide+kernel)(hr:(CP o e X).contains i=true:=by decide+kernel)(r:Region.waitsFor o e f i=true:=by decide+kernel)(d:(i==f)=false:=by rfl)(b:X.getD f true=false:=by rfl)
 (q:∀c a w,Q (.panic c) (a.put n.dst v) w->Q (.panic c) a w:=by intro _ _ _ h;exact h)(m:∀l w,G (l.setIfInBounds i true) w↔G l w:=by exact λl w=>Iff.rfl)
 (g:YieldsIf P e T n v a:=by refine Or.inl ⟨by kernel_rfl,?_⟩;intro j s;(try dsimp only at s);go_simp<;>with_reducible rfl):Dg P o e Q G (t+1) X a w:=
 Lf k p u hr r d b q y m g s h
theorem tH(i f:Nat){P:Program}{o:Region.Mode}{e:Array ER}{G:Array Bool->AB->Prop}{T:AB->Prop}{n:ER}{t:Nat}{a:Act}(y:∀l w,l.getD f true=false->G l w->T w)(s:G X w)
 (h:G (X.setIfInBounds i true) w->Dg P o e Q G t (X.setIfInBounds i true) (a.put n.dst v) w)
 (k:e[i]? =some n:=by rfl)
 (p:Region.noSelect e=true:=by decide+kernel)(u:Region.free o e X i=true:=by decide+kernel)(hr:(CP o e X).contains i=true:=by decide+kernel)(r:Region.waitsFor o e f i=true:=by decide+kernel)(d:(i==f)=false:=by rfl)(b:X.getD f true=false:=by rfl)
 (q:∀c a w,Q (.panic c) (a.put n.dst v) w->Q (.panic c) a w:=by intro _ _ _ h;exact h)(m:∀l w,G (l.setIfInBounds i true) w↔G l w:=by exact λl w=>G3.set (by decide) (by decide) (by decide) l w)
 (g:YieldsIf P e T n v a:=by refine Or.inl ⟨by rfl,?_⟩;intro j s;(try dsimp only at s);go_simp<;>with_reducible rfl):Dg P o e Q G (t+1) X a w:=
 Lf k p u hr r d b q y m g s h
theorem BT{a b c:AB}(h:AL a.heap.size a b)(k:AL b.heap.size b c):AL a.heap.size a c:=h.trans (k.mono h.size)
theorem Ib{x y:Bool}(h:x=y):Ending.returned (.bool y)= .returned (.bool x):=by rw[h]
structure At2 where
 key:ByteArray
 val:ByteArray
deriving Inhabited
variable{l:List At2}
structure Nd where
 kind:Int
 tag:ByteArray
 text:ByteArray
 aa:Option Ai
 ac:Nat
 attrs:List At2
 size:Int
deriving Inhabited
variable{H:Nat->Nd}{t:List Nd}
def JZ(w:AB)(B:Nat)(a:Option Ai)(l:List At2):Prop:=
 l.length<=maxLen/\(∀x∈l,x.key.size<=maxLen/\x.val.size<=maxLen)/\
  (l=[]\/∃b o,a=some ⟨b,o,none⟩/\b<B/\∀i,i<l.length->
   w.cell? ⟨b,o+i*2,none⟩=some (.string (l.getD i default).key)/\w.cell? ⟨b,o+i*2+1,none⟩=some (.string (l.getD i default).val))
theorem JZ.below(h:JZ w B a l)(t:AL B w N):JZ N B a l:=by
 obtain⟨s,n,hr⟩:=h;refine⟨s,n,?_⟩;rcases hr with c|⟨b,o,u,e,d⟩
 .exact .inl c
 refine .inr ⟨b,o,u,e,λi r=> ?_⟩;rw[t.cell (p:=⟨b,_,none⟩) e,t.cell (p:=⟨b,_,none⟩) e];exact d i r
theorem JZ.more{e:Nat}(h:JZ w B a l)(u:B<=e):JZ w e a l:=by
 obtain⟨i,t,hr⟩:=h;refine⟨i,t,?_⟩;rcases hr with r|⟨b,o,s,d,n⟩
 .exact .inl r
 exact .inr ⟨b,o,s,by omega,n⟩
def Gy(x:At2):Bool:=decide (x.key.size<=2147483647)&&decide (x.val.size<=2147483647)
def Gx(l:List At2):Bool:=decide (l.length<=2147483647)&&l.all Gy
theorem Li(x:At2)(w:AB)(o:x.key.size<=maxLen)(t:x.val.size<=maxLen):
 AX AC 56 #[.agg #[.string x.key,.string x.val]] w λe w'=>e= .returned (.bool (Gy x))/\AL w.heap.size w w':=by
 unfold maxLen at o t;by_cases a:2147483647<x.key.size
 .go_enter func56,ntmps56;go_wp2;go_ret;exact⟨by simp[Gy];omega,Ac⟩
 by_cases b:2147483647<x.val.size
 .go_enter func56,ntmps56;go_wp2;go_ret;exact⟨by simp[Gy];omega,Ac⟩
 go_enter func56,ntmps56;go_wp2;go_ret;exact⟨by simp[Gy];omega,Ac⟩
theorem P7(a:Option Ai)(c:Nat)(l:List At2)(w:AB)(h:JZ w w.heap.size a l):
 AX AC 30 #[.slice a l.length c] w λe w'=>e= .returned (.bool (Gx l))/\AL w.heap.size w w':=by
 obtain⟨x,j,hr⟩:=h;unfold maxLen at x;by_cases T:2147483647<l.length
 .go_enter func30,ntmps30;go_wp2;go_ret;exact⟨by simp[Gx];omega,AW _ _⟩
 go_enter func30,ntmps30;go_wp2;go_loopw [10] (λi wr=>∃k:Nat,k<=l.length/\i= .int .i64 k/\(l.take k).all Gy=true/\AL w.heap.size w wr) (λi _=>l.length-(Aa i).toNat)
 .exact⟨0,by omega,rfl,by simp,AW _ _⟩
 obtain⟨k,A,rfl,t,d⟩:=hrel;by_cases n:k<l.length
 .rcases hr with z|⟨b,o,rfl,f,g⟩
  .subst z;simp at n
  have I:=(d.cell (p:=⟨b,o+k*2,none⟩) f).trans (g k n).1;have O:=(d.cell (p:=⟨b,o+k*2+1,none⟩) f).trans (g k n).2;have hx:=j (l[k]) (AD n);have r:(l.take (k+1)).all Gy=(Gy l[k]):=by
   rw[AF n,List.all_append,t];simp
  have E:Hid ((l.take (k+1)).all Gy=(Gy l[k])):=r;clear r t g;cases m:Gy l[k]
  .have s:Gx l=false:=by
    simp only[Gx,Bool.and_eq_false_iff];right;rw[List.all_eq_false];exact⟨l[k],AD n,by simp[m]⟩
   have v:Hid (Gx l=false):=s;have y:Hid (Gy l[k]=false):=m;clear s m;go_wp2_with(go_at_call 56;refine(Li _ _ hx.1 hx.2).mono ?_;rintro e q ⟨rfl,u⟩;rw[y.o]);go_ret;exact⟨Ib v.o,d.trans (((AW _ _).alloc (AG _) _|>.trans (u.mono (by simp))).mono d.size)⟩
  have y:Hid (Gy l[k]=true):=m;clear m;go_wp2_with(go_at_call 56;refine(Li _ _ hx.1 hx.2).mono ?_;rintro e q ⟨rfl,u⟩;rw[y.o]);go_roundw
  .exact⟨k+1,by omega,by go_num,by rw[E.o,y.o],d.trans (((AW _ _).alloc (AG _) _|>.trans (u.mono (by simp))).mono d.size)⟩
  simp[Aa];omega
 have s:Gx l=true:=by
  have:k=l.length:=by omega
  subst this;simp only[AU]at t;simp only[Gx,t,Bool.and_true];simp;omega
 have v:Hid (Gx l=true):=s;clear s t;go_wp2;go_ret;exact⟨Ib v.o,d⟩
structure Nd.Ok(w:AB)(B:Nat)(x:Nd):Prop where
 kind: -9223372036854775808<=x.kind/\x.kind<=9223372036854775807
 size: -9223372036854775808<=x.size/\x.size<=9223372036854775807
 tag:x.tag.size<=maxLen
 text:x.text.size<=maxLen
 attrs:JZ w B x.aa x.attrs
theorem Nd.Ok.below{x:Nd}(h:x.Ok w B)(e:AL B w N):x.Ok N B:=⟨h.kind,h.size,h.tag,h.text,h.attrs.below e⟩
theorem Nd.Ok.more{e:Nat}{x:Nd}(h:x.Ok w B)(t:B<=e):x.Ok w e:=⟨h.kind,h.size,h.tag,h.text,h.attrs.more t⟩
def GF(x:Nd):Bool:=decide (x.tag.size<=2147483647)&&decide (x.text.size<=2147483647)&&Gx x.attrs
def GD(t:List Nd):Bool:=decide (t.length<=2147483647)&&t.all GF
def Gp(w:AB)(B:Nat)(a:Option Ai)(t:List Nd):Prop:=
 t.length<=maxLen/\(∀x∈t,x.Ok w B)/\
  (t=[]\/∃b o,a=some ⟨b,o,none⟩/\b<B/\∀i,i<t.length->
   w.cell? ⟨b,o+i*5,none⟩=some (.int .i64 (t.getD i default).kind)/\w.cell? ⟨b,o+i*5+1,none⟩=some (.string (t.getD i default).tag)/\
   w.cell? ⟨b,o+i*5+2,none⟩=some (.string (t.getD i default).text)/\w.cell? ⟨b,o+i*5+3,none⟩=some (.slice (t.getD i default).aa (t.getD i default).attrs.length (t.getD i default).ac)/\
   w.cell? ⟨b,o+i*5+4,none⟩=some (.int .i64 (t.getD i default).size))
theorem Gp.below(h:Gp w B a t)(n:AL B w N):Gp N B a t:=by
 obtain⟨r,s,hr⟩:=h;refine⟨r,λx hx=>(s x hx).below n,?_⟩;rcases hr with c|⟨b,o,u,e,l⟩
 .exact .inl c
 refine .inr ⟨b,o,u,e,λi d=> ?_⟩;rw[n.cell (p:=⟨b,_,none⟩) e,n.cell (p:=⟨b,_,none⟩) e,n.cell (p:=⟨b,_,none⟩) e,n.cell (p:=⟨b,_,none⟩) e,n.cell (p:=⟨b,_,none⟩) e];exact l i d
theorem Gp.at_(h:Gp w B a t)(h0:0<t.length):
 ∃b o,a=some ⟨b,o,none⟩/\b<B/\∀i (e:i<t.length),
  w.cell? ⟨b,o+i*5,none⟩=some (.int .i64 t[i].kind)/\w.cell? ⟨b,o+i*5+1,none⟩=some (.string t[i].tag)/\
  w.cell? ⟨b,o+i*5+2,none⟩=some (.string t[i].text)/\w.cell? ⟨b,o+i*5+3,none⟩=some (.slice t[i].aa t[i].attrs.length t[i].ac)/\
  w.cell? ⟨b,o+i*5+4,none⟩=some (.int .i64 t[i].size)/\t[i].Ok w B:=by
 obtain⟨u,s,hr⟩:=h;rcases hr with l|⟨b,o,d,n,r⟩
 .subst l;simp at h0
 refine⟨b,o,d,n,λi e=> ?_⟩;have:=r i e;simp only[Ae,AK e,BE]at this;exact⟨this.1,this.2.1,this.2.2.1,this.2.2.2.1,this.2.2.2.2,s _ (AD e)⟩
theorem Lh(x:Nd)(w:AB)(h:x.Ok w w.heap.size):
 AX AC 15 #[.agg #[.int .i64 x.kind,.string x.tag,.string x.text,.slice x.aa x.attrs.length x.ac,.int .i64 x.size]] w λe w'=>e= .returned (.bool (GF x))/\AL w.heap.size w w':=by
 have r:=h.tag;have s:=h.text;have n:=h.attrs;unfold maxLen at r s;by_cases a:2147483647<x.tag.size
 .go_enter func15,ntmps15;go_wp2;go_ret;exact⟨by simp[GF];omega,Ac⟩
 by_cases b:2147483647<x.text.size
 .go_enter func15,ntmps15;go_wp2;go_ret;exact⟨by simp[GF];omega,Ac⟩
 have i:GF x=Gx x.attrs:=by simp[GF];omega
 cases t:Gx x.attrs
 all_goals
  have l:Hid (Gx x.attrs=_):=t;have d:Hid (GF x=_):=i.trans t;clear i t;go_enter func15,ntmps15;go_wp2_with(go_at_call 30;refine(P7 _ _ x.attrs _ (JZ.more (n.below ((AW _ _).alloc (AG _) _)) (by simp))).mono ?_;rintro e u ⟨rfl,o⟩;rw[l.o]);go_ret;exact⟨Ib d.o,((AW _ _).alloc (AG _) _).trans (o.mono (by simp))⟩
theorem P6(a:Option Ai)(c:Nat)(t:List Nd)(w:AB)(h:Gp w w.heap.size a t):
 AX AC 4 #[.slice a t.length c] w λe w'=>e= .returned (.bool (GD t))/\AL w.heap.size w w':=by
 have N:=h.1;unfold maxLen at N;by_cases H:2147483647<t.length
 .go_enter func4,ntmps4;go_wp2;go_ret;exact⟨by simp[GD];omega,AW _ _⟩
 go_enter func4,ntmps4;go_wp2;go_loopw [10] (λi wr=>∃k:Nat,k<=t.length/\i= .int .i64 k/\(t.take k).all GF=true/\AL w.heap.size w wr) (λi _=>t.length-(Aa i).toNat)
 .exact⟨0,by omega,rfl,by simp,AW _ _⟩
 obtain⟨k,R,rfl,n,s⟩:=hrel;by_cases u:k<t.length
 .obtain⟨b,o,rfl,r,q⟩:=h.at_ (by omega);obtain⟨T,E,z,x,j,v⟩:=q k u;replace T:=(s.cell (p:=⟨b,_,none⟩) r).trans T;replace E:=(s.cell (p:=⟨b,_,none⟩) r).trans E;replace z:=(s.cell (p:=⟨b,_,none⟩) r).trans z;replace x:=(s.cell (p:=⟨b,_,none⟩) r).trans x;replace j:=(s.cell (p:=⟨b,_,none⟩) r).trans j;have l:=(v.below s).more s.size;have d:∀O,Nd.Ok (wr.alloc O) (wr.alloc O).heap.size t[k]:=λO=>(l.below ((AW _ _).alloc (AG _) O)).more (by simp);have A:=AA d;have S:Hid ((t.take (k+1)).all GF=(GF t[k])):=by
   unfold Hid;rw[AF u,List.all_append,n];simp
  clear n q l d h;cases f:GF t[k]
  .have g:Hid (GD t=false):=by
    simp only[Hid,GD,Bool.and_eq_false_iff];right;rw[List.all_eq_false];exact⟨t[k],AD u,by simp[f]⟩
   have y:Hid (GF t[k]=false):=f;clear f;go_wp2_with(go_at_call 15;refine(Lh _ _ (A.o _)).mono ?_;rintro e I ⟨rfl,m⟩;rw[y.o]);go_ret;exact⟨Ib g.o,s.trans (((AW _ _).alloc (AG _) _|>.trans (m.mono (by simp))).mono s.size)⟩
  have y:Hid (GF t[k]=true):=f;clear f;go_wp2_with(go_at_call 15;refine(Lh _ _ (A.o _)).mono ?_;rintro e I ⟨rfl,m⟩;rw[y.o]);go_roundw
  .exact⟨k+1,by omega,by go_num,by rw[S.o,y.o],s.trans (((AW _ _).alloc (AG _) _|>.trans (m.mono (by simp))).mono s.size)⟩
  simp[Aa];omega
 have g:Hid (GD t=true):=by
  have:k=t.length:=by omega
  subst this;simp only[AU]at n;simp only[Hid,GD,n,Bool.and_true];simp;omega
 clear n;go_wp2;go_ret;exact⟨Ib g.o,s⟩
def sz(t:List Nd)(i:Nat):Nat:=(t.getD i default).size.toNat
def Gu(t:List Nd)(a e:Nat):Prop:=
 ∀i,a<=i->i<e->(t.getD i default).size=(sz t i:Int)/\1<=sz t i/\i+sz t i<=e/\∀j,i<j->j<i+sz t i->j+sz t j<=i+sz t i
theorem Gu.empty(t:List Nd)(e:Nat):Gu t e e:=λi o a=>by omega
theorem Gu.snoc{o:Nat}(h:Gu t o k)(r:Gu t k (k+sz t k)):Gu t o (k+sz t k):=by
 intro i s n;by_cases e:i<k
 .obtain⟨a,b,c,d⟩:=h i s e;exact⟨a,b,by omega,d⟩
 exact r i (by omega) n
theorem Gu.node(o:(t.getD i default).size=(sz t i:Int))(r:1<=sz t i)(h:Gu t (i+1) (i+sz t i)):Gu t i (i+sz t i):=by
 intro j d s;by_cases e:j=i
 .subst e;exact⟨o,r,AG _,λm n a=>(h m n a).2.2.1⟩
 exact h j (by omega) s
structure XB(t:List Nd)(i en:Nat):Prop where
 pos:1<=sz t i
 top:i+sz t i<=en
 lam:Gu t i (i+sz t i)
def Xr(P:Bool->Prop)(w:AB)(e:Bx)(w':AB):Prop:=∃b,e= .returned (.bool b)/\P b/\w=w'
theorem S0(a:Option Ai)(c:Nat)(t:List Nd)(ht:t.length<=200)(u:Nat):∀(i f:Nat) (I E D:Int) (w:AB),I=i->E=f->D=u->Gp w w.heap.size a t->i<t.length->f<=t.length->i<=f->u<=40->
 AX AC 17 #[.slice a t.length c,.int .i64 I,.int .i64 E,.int .i64 D] w (Xr (λb=>b=true->XB t i f) w):=by
 induction u with
 |zero=>
  rintro i f I E D w rfl rfl rfl h q S N _;obtain⟨b,o,rfl,H,g⟩:=h.at_ (by omega);obtain⟨W,F,M,C,U,l⟩:=g i q;clear g h;go_enter func17,ntmps17;go_wp2;go_ret;exact⟨false,rfl,by simp,rfl⟩
 |succ d R=>
  rintro i f I E D w rfl rfl rfl h q S N hd;have V:=AA R;have K:=AA h;obtain⟨b,o,rfl,H,g⟩:=h.at_ (by omega);obtain⟨W,F,M,C,U,l⟩:=g i q;have hr:=l.size;have Q:=AA g;clear g h R l W F M C;obtain⟨s,v⟩:∃s:Int,s=t[i].size:=⟨_,rfl⟩;rw[<-v]at U hr;have Y:=AA v;clear v;by_cases c1:s<1
  .go_enter func17,ntmps17;go_wp2;go_ret;exact⟨false,rfl,by simp,rfl⟩
  by_cases c2:(f:Int)-i<s
  .go_enter func17,ntmps17;go_wp2;go_ret;exact⟨false,rfl,by simp,rfl⟩
  obtain⟨n,rfl⟩:∃n:Nat,s=(n:Int):=⟨s.toNat,by omega⟩;have z:sz t i=n:=by
   unfold sz;rw[Ae,AK q,BE,<-Y.o];simp
  have j:=AA z;clear z;go_enter func17,ntmps17;go_wp2;go_loopw [10] (λx wr=>∃k:Nat,i+1<=k/\k<=i+n/\x= .int .i64 k/\Gu t (i+1) k/\w=wr) (λx _=>i+n-(Aa x).toNat)
  .exact⟨i+1,by omega,by omega,by go_num,Gu.empty _ _,rfl⟩
  obtain⟨k,et,ee,rfl,m,rfl⟩:=hrel;have G:=AA m;clear m;by_cases Z:k<i+n
  .have y:k<t.length:=by omega
   obtain⟨-,-,-,-,P,l⟩:=Q.o k y;have O:=l.size;clear l;go_wp2_with fail;refine(V.o k (i+n) _ _ _ _ (by omega) (by omega) (by omega) K.o y (by omega) (by omega) (by omega)).mono ?_;rintro e w1 ⟨r,rfl,T,rfl⟩;cases r
   .go_wp2;go_ret;exact⟨false,rfl,by simp,rfl⟩
   have p:=T rfl;have L:=p.lam k (AG _) (by have:=p.pos;omega);have A:t[k].size=(sz t k:Int):=by
    have:=L.1;rw[Ae,AK y,BE]at this;exact this
   rw[A]at P;have X:=p.pos;have J:=p.top;have B:=AA p;clear T p L A O;go_wp2;go_roundw
   .exact⟨k+sz t k,by omega,by omega,by go_num,G.o.snoc B.o.lam,by trivial⟩
   simp[Aa];omega
  go_wp2;go_ret;refine⟨true,rfl,λ_=> ?_,rfl⟩;have e:k=i+n:=by omega
  subst e;have v:(t.getD i default).size=(sz t i:Int):=by
   rw[j.o,Ae,AK q,BE,<-Y.o]
  refine⟨by rw[j.o];omega,by rw[j.o];omega,Gu.node v (by rw[j.o];omega) ?_⟩;rw[j.o];exact G.o
def Ou(w:AB)(e:Bx)(w':AB):Prop:=∃b,e= .returned (.bool b)/\w=w'
theorem FV(s:ByteArray)(w:AB)(i:s.size<=2147483647):AX AC 34 #[.string s] w (Ou w):=by
 by_cases t:s.size=0
 .have e:((s.size:Int)==0)=true:=beq_iff_eq.2 (by omega);go_enter func34,ntmps34;go_wp2_with fail;all_goals (go_ret;exact⟨_,rfl,rfl⟩)
 have d:0<s.size:=by omega
 have e:((s.size:Int)==0)=false:=CY.2 (by omega);clear t;by_cases r:40<s.size
 .go_enter func34,ntmps34;go_wp2_with fail;all_goals (go_ret;exact⟨_,rfl,rfl⟩)
 by_cases h:(s[0].toNat:Int)<97
 .go_enter func34,ntmps34;go_wp2_with fail;all_goals (go_ret;exact⟨_,rfl,rfl⟩)
 by_cases n:122<(s[0].toNat:Int)
 .go_enter func34,ntmps34;go_wp2_with fail;all_goals (go_ret;exact⟨_,rfl,rfl⟩)
 go_enter func34,ntmps34;go_wp2;go_loopw [3] (λx wr=>∃k:Nat,1<=k/\k<=s.size/\x= .int .i64 k/\w=wr) (λx _=>s.size-(Aa x).toNat)
 .exact⟨1,by omega,by omega,rfl,rfl⟩
 obtain⟨k,o,a,rfl,rfl⟩:=hrel;clear e;go_wp2_with fail;all_goals first
  |(go_roundw
    .exact⟨k+1,by omega,by omega,by go_num,by trivial⟩
    simp[Aa];omega)
  |(go_ret;exact⟨_,rfl,rfl⟩)
theorem FJ(b:UInt8):wrap64 (b.toNat:Int)=(b.toNat:Int):=by
 have:=b.toNat_lt;exact IntWalk.wrap64_in _ ⟨by omega,by omega⟩
def Ry(s:ByteArray)(k:Nat)(w:AB)(e:Bx)(w':AB):Prop:=
 ∃(p:Int) (n:Nat),e= .returned (.tuple #[.int .i64 p,.int .i64 n])/\k+n<=s.size/\w=w'
theorem WC(s:ByteArray)(k:Nat)(w:AB)(h:s.size<=2147483647)(d:k<s.size)(a:192<=(s[k].toNat:Int))(t:(s[k].toNat:Int)<224):AX AC 57 #[.string s,.int .i64 k] w (Ry s k w):=by
 have e:wrap64 (s[k].toNat:Int)=(s[k].toNat:Int):=FJ _;by_cases l:s.size-k<=1
 .go_enter func57,ntmps57;go_wp2_with fail;go_ret2;exact⟨0,0,rfl,by omega,rfl⟩
 go_enter func57,ntmps57;go_wp2;go_loopw [4,9] (λx y wr=>∃(p:Int) (m:Nat),x= .int .i64 p/\1<=m/\m<=2/\y= .int .i64 m/\w=wr) (λ_ y _=>2-(Aa y).toNat)
 .exact⟨_,1,rfl,by omega,by omega,rfl,rfl⟩
 obtain⟨p,m,rfl,i,o,rfl,rfl⟩:=hrel;clear e a t;by_cases r:m<=1
 .have n:k+m<s.size:=by omega
  have e:wrap64 (s[k+m].toNat:Int)=(s[k+m].toNat:Int):=FJ _;by_cases c1:(s[k+m].toNat:Int)<128
  .go_wp2_with fail;go_ret2;exact⟨0,0,rfl,by omega,rfl⟩
  by_cases c2:192<=(s[k+m].toNat:Int)
  .go_wp2_with fail;go_ret2;exact⟨0,0,rfl,by omega,rfl⟩
  go_wp2;go_roundw
  .exact⟨_,m+1,rfl,by omega,by omega,by go_num,by trivial⟩
  simp[Aa];omega
 go_wp2_with fail;all_goals go_ret2
 all_goals first
  |exact⟨0,0,rfl,by omega,rfl⟩
  |exact⟨p,2,rfl,by omega,rfl⟩
theorem WD(s:ByteArray)(k:Nat)(w:AB)(h:s.size<=2147483647)(d:k<s.size)(a:224<=(s[k].toNat:Int))(t:(s[k].toNat:Int)<240):AX AC 57 #[.string s,.int .i64 k] w (Ry s k w):=by
 have e:wrap64 (s[k].toNat:Int)=(s[k].toNat:Int):=FJ _;by_cases l:s.size-k<=2
 .go_enter func57,ntmps57;go_wp2_with fail;go_ret2;exact⟨0,0,rfl,by omega,rfl⟩
 go_enter func57,ntmps57;go_wp2;go_loopw [4,9] (λx y wr=>∃(p:Int) (m:Nat),x= .int .i64 p/\1<=m/\m<=3/\y= .int .i64 m/\w=wr) (λ_ y _=>3-(Aa y).toNat)
 .exact⟨_,1,rfl,by omega,by omega,rfl,rfl⟩
 obtain⟨p,m,rfl,i,o,rfl,rfl⟩:=hrel;clear e a t;by_cases r:m<=2
 .have n:k+m<s.size:=by omega
  have e:wrap64 (s[k+m].toNat:Int)=(s[k+m].toNat:Int):=FJ _;by_cases c1:(s[k+m].toNat:Int)<128
  .go_wp2_with fail;go_ret2;exact⟨0,0,rfl,by omega,rfl⟩
  by_cases c2:192<=(s[k+m].toNat:Int)
  .go_wp2_with fail;go_ret2;exact⟨0,0,rfl,by omega,rfl⟩
  go_wp2;go_roundw
  .exact⟨_,m+1,rfl,by omega,by omega,by go_num,by trivial⟩
  simp[Aa];omega
 go_wp2_with fail;all_goals go_ret2
 all_goals first
  |exact⟨0,0,rfl,by omega,rfl⟩
  |exact⟨p,3,rfl,by omega,rfl⟩
theorem WE(s:ByteArray)(k:Nat)(w:AB)(h:s.size<=2147483647)(d:k<s.size)(a:240<=(s[k].toNat:Int))(t:(s[k].toNat:Int)<248):AX AC 57 #[.string s,.int .i64 k] w (Ry s k w):=by
 have e:wrap64 (s[k].toNat:Int)=(s[k].toNat:Int):=FJ _;by_cases l:s.size-k<=3
 .go_enter func57,ntmps57;go_wp2_with fail;go_ret2;exact⟨0,0,rfl,by omega,rfl⟩
 go_enter func57,ntmps57;go_wp2;go_loopw [4,9] (λx y wr=>∃(p:Int) (m:Nat),x= .int .i64 p/\1<=m/\m<=4/\y= .int .i64 m/\w=wr) (λ_ y _=>4-(Aa y).toNat)
 .exact⟨_,1,rfl,by omega,by omega,rfl,rfl⟩
 obtain⟨p,m,rfl,i,o,rfl,rfl⟩:=hrel;clear e a t;by_cases r:m<=3
 .have n:k+m<s.size:=by omega
  have e:wrap64 (s[k+m].toNat:Int)=(s[k+m].toNat:Int):=FJ _;by_cases c1:(s[k+m].toNat:Int)<128
  .go_wp2_with fail;go_ret2;exact⟨0,0,rfl,by omega,rfl⟩
  by_cases c2:192<=(s[k+m].toNat:Int)
  .go_wp2_with fail;go_ret2;exact⟨0,0,rfl,by omega,rfl⟩
  go_wp2;go_roundw
  .exact⟨_,m+1,rfl,by omega,by omega,by go_num,by trivial⟩
  simp[Aa];omega
 go_wp2_with fail;all_goals go_ret2
 all_goals first
  |exact⟨0,0,rfl,by omega,rfl⟩
  |exact⟨p,4,rfl,by omega,rfl⟩
theorem Ui(s:ByteArray)(k:Nat)(w:AB)(t:s.size<=2147483647)(a:k<s.size)(h:(s[k].toNat:Int)<128):AX AC 57 #[.string s,.int .i64 k] w (Ry s k w):=by
 have e:wrap64 (s[k].toNat:Int)=(s[k].toNat:Int):=FJ _;go_enter func57,ntmps57;go_wp2_with fail;go_ret2;exact⟨_,1,rfl,by omega,rfl⟩
theorem Pd(s:ByteArray)(k:Nat)(w:AB)(a:s.size<=2147483647)(o:k<s.size)(h:128<=(s[k].toNat:Int))(e:(s[k].toNat:Int)<192\/248<=(s[k].toNat:Int)):AX AC 57 #[.string s,.int .i64 k] w (Ry s k w):=by
 have t:wrap64 (s[k].toNat:Int)=(s[k].toNat:Int):=FJ _;rcases e with e|e
 .go_enter func57,ntmps57;go_wp2_with fail;go_ret2;exact⟨0,0,rfl,by omega,rfl⟩
 go_enter func57,ntmps57;go_wp2_with fail;go_ret2;exact⟨0,0,rfl,by omega,rfl⟩
theorem So(s:ByteArray)(k:Nat)(w:AB)(e:s.size<=2147483647)(t:k<s.size):AX AC 57 #[.string s,.int .i64 k] w (Ry s k w):=by
 by_cases h:(s[k].toNat:Int)<128
 .exact Ui s k w e t h
 by_cases n:(s[k].toNat:Int)<192
 .exact Pd s k w e t (by omega) (.inl n)
 by_cases i:(s[k].toNat:Int)<224
 .exact WC s k w e t (by omega) i
 by_cases o:(s[k].toNat:Int)<240
 .exact WD s k w e t (by omega) o
 by_cases a:(s[k].toNat:Int)<248
 .exact WE s k w e t (by omega) a
 exact Pd s k w e t (by omega) (.inr (by omega))
theorem Fq(s:ByteArray)(w:AB)(i:s.size<=2147483647):AX AC 32 #[.string s] w (Ou w):=by
 go_enter func32,ntmps32;go_wp2;go_loopw [3] (λx wr=>∃k:Nat,k<=s.size/\x= .int .i64 k/\w=wr) (λx _=>s.size-(Aa x).toNat)
 .exact⟨0,by omega,rfl,rfl⟩
 obtain⟨k,l,rfl,rfl⟩:=hrel;by_cases t:k<s.size
 .go_wp2_with fail;refine(So s k _ i t).mono ?_;rintro e h ⟨p,n,rfl,d,rfl⟩;by_cases a:n=0
  .have o:((n:Int)==0)=true:=beq_iff_eq.2 (by omega);have u:=AA a;clear a;go_wp2;go_ret;exact⟨_,rfl,rfl⟩
  have o:((n:Int)==0)=false:=CY.2 (by omega);cases r:(p==0)
  .go_wp2;go_roundw
   .exact⟨k+n,by omega,by go_num,by trivial⟩
   simp[Aa];omega
  go_wp2;go_ret;exact⟨_,rfl,rfl⟩
 go_wp2;go_ret;exact⟨_,rfl,rfl⟩
def B6(w:AB)(B:Nat)(a:Option Ai)(xs:List AS):Prop:=
 xs=[]\/∃b o,a=some ⟨b,o,none⟩/\b<B/\∀i (h:i<xs.length),w.cell? ⟨b,o+i,none⟩=some xs[i]
theorem B6.below{xs:List AS}(h:B6 w B a xs)(s:AL B w N):B6 N B a xs:=by
 rcases h with d|⟨b,o,r,e,n⟩
 .exact .inl d
 exact .inr ⟨b,o,r,e,λi t=>(s.cell (p:=⟨b,_,none⟩) e).trans (n i t)⟩
theorem B6.more{e:Nat}{xs:List AS}(h:B6 w B a xs)(r:B<=e):B6 w e a xs:=by
 rcases h with n|⟨b,o,i,s,t⟩
 .exact .inl n
 exact .inr ⟨b,o,i,by omega,t⟩
theorem B6.at_{xs:List AS}(h:B6 w B a xs)(h0:0<xs.length):
 ∃b o,a=some ⟨b,o,none⟩/\b<B/\∀i (h:i<xs.length),w.cell? ⟨b,o+i,none⟩=some xs[i]:=by
 rcases h with e|e
 .subst e;simp at h0
 exact e
theorem Wu{k:IntKind}{x y:Int}(h:x=y):Ending.returned (.int k y)= .returned (.int k x):=by rw[h]
theorem B6.own{e:Nat}{xs:List AS}(h:w.ownsRow A e 1 v n xs):∃a c,v= .slice a n c/\xs.length=n/\B6 w w.heap.size a xs:=by
 have t:xs.length=n:=by have:=h.1;omega
 rcases h.2 with⟨rfl,rfl⟩|⟨g,cap,r,rfl,d,s,_⟩
 .exact⟨none,0,rfl,t,.inl (Ag t)⟩
 refine⟨_,_,rfl,t,.inr ⟨g,0,rfl,(AE.1 s).1,λi o=> ?_⟩⟩;have:=h.cells (g:=g) rfl i xs[i] (AK o);rw[Ba]at this;exact this
theorem Tryz.Zl:(Tryz.prog.info? 3).map (λi=>(i.zero,i.size,i.bytes))=some (some (.int .i64 0),1,8):=by kernel_rfl
def BR(t:List Nd):Nat->Nat->Nat->List Nat
 |0,_,_=>[]
 |f+1,k,e=>if k<e then k::BR t f (k+sz t k) e else[]
def Bo(t:List Nd)(i:Nat):List Nat:=BR t (sz t i) (i+1) (i+sz t i)
def Kw(l:List Nat):List AS:=l.map λ(n:Nat)=>Value.int .i64 (n:Int)
theorem Ea(l:List Nat):(Kw l).length=l.length:=by simp[Kw]
theorem Gu.from_{e a m:Nat}(h:Gu t e a)(n:e<=m):Gu t m a:=λi s o=>h i (by omega) o
theorem Ji(t:List Nd)(e:Nat):∀(f a k:Nat),e<=k+f->e<=k+a->Gu t k e->BR t f k e=BR t a k e:=by
 intro f;induction f with
 |zero=>
  intro a k h s i;cases a with
  |zero=>rfl
  |succ a=>simp only[BR];rw[AI (by omega)]
 |succ f n=>
  intro a k h s i;cases a with
  |zero=>simp only[BR];rw[AI (by omega)]
  |succ a=>
   simp only[BR];by_cases o:k<e
   .rw[AJ o,AJ o];have:=(i k (AG _) o).2.1;rw[n a (k+sz t k) (by omega) (by omega) (i.from_ (by omega))]
   rw[AI o,AI o]
theorem Jj{e:Nat}(a:Gu t k e)(o:k<e):BR t (e-k) k e=k::BR t (e-(k+sz t k)) (k+sz t k) e:=by
 have n:=(a k (AG _) o).2.1;obtain⟨d,i⟩:∃d,e-k=d+1:=⟨e-k-1,by omega⟩;rw[i];simp only[BR];rw[AJ o,Ji t e d (e-(k+sz t k)) _ (by omega) (by omega) (a.from_ (by omega))]
theorem PV(e:Gu t i (i+sz t i))(a:1<=sz t i):Bo t i=BR t (i+sz t i-(i+1)) (i+1) (i+sz t i):=
 Ji t _ _ _ _ (by omega) (by omega) (e.from_ (by omega))
def Oy(t:List Nd)(i:Nat)(w:AB)(e:Bx)(w':AB):Prop:=
 ∃a c,e= .returned (.slice a (Bo t i).length c)/\B6 w' w'.heap.size a (Kw (Bo t i))/\AL w.heap.size w w'
theorem Ep(e:k<t.length)(h:(t.getD k default).size=(sz t k:Int)):t[k].size=(sz t k:Int):=by
 rw[Ae,AK e,BE]at h;exact h
def VU(t:List Nd)(i:Nat)(w:AB)(v:AS)(x:AS)(wr:AB):Prop:=
 ∃(k:Nat) (e:List Nat),i+1<=k/\k<=i+sz t i/\x= .int .i64 k/\e++BR t (i+sz t i-k) k (i+sz t i)=Bo t i/\e.length<=k/\
  wr.ownsRow w.heap.size 3 1 v e.length (Kw e)/\AL w.heap.size w wr
theorem UG(a:Option Ai)(c:Nat)(t:List Nd)(ht:t.length<=200)(i:Nat)(I:Int)(Q:I=i)(w:AB)(h:Gp w w.heap.size a t)(F:i<t.length)(O:Gu t i (i+sz t i))(hen:i+sz t i<=t.length)(J:1<=sz t i):
 AX AC 58 #[.slice a t.length c,.int .i64 I] w (Oy t i w):=by
 subst Q;obtain⟨B,A,L,D,R⟩:=D6 Tryz.Zl;obtain⟨b,o,rfl,f,S⟩:=h.at_ (by omega);have z:=(S i F).2.2.2.2.1;rw[Ep F (O i (AG _) (by omega)).1]at z;have W:=AA S;have H:=AA O;have HK:=AA (PV O J);clear S O h;go_enter func58,ntmps58;go_wp2;go_loopw [5,6] (λv x wr=>VU t i w v x wr) (λ_ x _=>i+sz t i-(Aa x).toNat)
 .exact⟨i+1,[],by omega,by omega,by go_num,by rw[HK.o];rfl,by simp,Aw _ _ _ _,AW _ _⟩
 obtain⟨k,s,hk1,hk2,rfl,y,hal,n,g⟩:=hrel;have Y:=AA y;clear y;have g0:=(g.cell (p:=⟨b,o+i*5+4,none⟩) f).trans z;by_cases E:k<i+sz t i
 .have m:k<t.length:=by omega
  have l:=H.o k (by omega) E;have Z:=(g.cell (p:=⟨b,o+k*5+4,none⟩) f).trans (W.o k m).2.2.2.2.1;rw[Ep m l.1]at Z;have hk3:=l.2.1;have hk4:=l.2.2.1;clear l;go_wp2_with(at_builtin;refine wpList_append_own _ rfl _ _ 23 rfl w.heap.size 3 B (.int .i64 0) 1 8 underlying23 A L D R rfl (by decide) _ _ _ rfl (n.alloc _) ⟨wr.heap.size,0,none⟩ 1 1 [.int .i64 (k:Int)] rfl rfl ?c1 ?c2 ?c3 ?c4 ?c5 ?_)
  case c1=>
   intro j u N
   match j,N with
   |0,N=>simp at N;subst N;simp[Addr.add]
  case c2=>intro u M;simp at M;subst M;rfl
  case c3=>unfold maxLen;omega
  case c4=>omega
  case c5=>have:=g.size;simp;omega
  intro P C r d _;have hsz:=g.size;have T:AL w.heap.size w C:=(g.alloc g.size _).grown d (by simp;omega) (λq V=>(n.lt q V).1);have g2:=(T.cell (p:=⟨b,o+i*5+4,none⟩) f).trans z;have X:=(T.cell (p:=⟨b,o+k*5+4,none⟩) f).trans (W.o k m).2.2.2.2.1;rw[Ep m (H.o k (by omega) E).1]at X;have HO:Hid (C.ownsRow w.heap.size 3 1 P (s++[k]).length (Kw (s++[k]))):=by
   simpa [Hid,Kw]using r
  have HR:Hid ((s++[k])++BR t (i+sz t i-(k+sz t k)) (k+sz t k) (i+sz t i)=Bo t i):=by
   rw[Hid,<-Y.o,Jj (H.o.from_ (by omega)) E];simp
  clear r d n;go_wp2;go_roundw
  .exact⟨k+sz t k,s++[k],by omega,by omega,by go_num,HR.o,by simp;omega,HO.o,T⟩
  simp[Aa];omega
 obtain⟨av,cv,rfl,G,U⟩:=B6.own n;go_wp2;go_ret;have e:s=Bo t i:=by
  have:=Y.o;have K:i+sz t i-k=0:=by omega
  rw[K]at this;simpa [BR]using this
 unfold Oy;rw[<-e];exact⟨av,cv,rfl,U,g⟩
def Ls(t:List Nd)(i:Nat):Nat->Int
 |0=> -1
 |j+1=>if i<j+sz t j then j else Ls t i j
theorem Qs(a:Option Ai)(c:Nat)(t:List Nd)(ht:t.length<=200)(i:Nat)(I:Int)(f:I=i)(w:AB)(h:Gp w w.heap.size a t)(z:i<t.length)(l:Gu t 0 t.length):
 AX AC 35 #[.slice a t.length c,.int .i64 I] w λe w'=>e= .returned (.int .i64 (Ls t i i))/\w=w':=by
 subst f;obtain⟨b,o,rfl,v,u⟩:=h.at_ (by omega);have p:=AA u;have g:=AA l;clear u l h;go_enter func35,ntmps35;go_wp2;go_loopw [5] (λx wr=>∃k:Nat,k<=i/\x= .int .i64 ((k:Int)-1)/\Hid (Ls t i k=Ls t i i)/\w=wr) (λx _=>(Aa x+1).toNat)
 .exact⟨i,by omega,by go_num,rfl,rfl⟩
 obtain⟨k,q,rfl,s,rfl⟩:=hrel;cases k with
 |zero=>
  go_wp2;go_ret;exact⟨Wu s.o.symm,rfl⟩
 |succ j=>
  have y:=(p.o j (by omega)).2.2.2.2.1;have n:=g.o j (by omega) (by omega);rw[Ep (by omega) n.1]at y;have E:=n.2.2.1;clear n;have m:((j+1:Nat):Int)-1=(j:Int):=by omega
  rw[m];clear m;by_cases d:i<j+sz t j
  .have r:Hid (Ls t i i=(j:Int)):=by
    rw[Hid,<-s.o];simp only[Ls];rw[AJ d]
   clear s;go_wp2;go_ret;exact⟨Wu r.o,rfl⟩
  have r:Hid (Ls t i j=Ls t i i):=by
   rw[Hid,<-s.o];simp only[Ls];rw[AI d]
  clear s;go_wp2;go_roundw
  .exact⟨j,by omega,by go_num,r,by trivial⟩
  simp[Aa]
def Xh(w:AB)(e:Bx)(w':AB):Prop:=∃b,e= .returned (.bool b)/\AL w.heap.size w w'
def XC(P:Prop)(w:AB)(e:Bx)(w':AB):Prop:=∃b n,e= .returned (.bool b)/\(b=true->P)/\w'=w.drewN n
def LS(l:List At2)(i:Nat):ByteArray:=(l.getD i default).key
structure P9(l:List At2):Prop where
 len:l.length<=20
 once:∀i j,i<j->j<l.length->LS l i≠LS l j
theorem Mm(a:Option Ai)(c:Nat)(l:List At2)(w:AB)(h:JZ w w.heap.size a l)(g:Gx l=true):
 AX AC 36 #[.slice a l.length c] w (XC (P9 l) w):=by
 obtain⟨v,O,hr⟩:=h;have s:∀i (h:i<l.length),l[i].key.size<=2147483647/\l[i].val.size<=2147483647:=by
  intro i z;simp only[Gx,Bool.and_eq_true,List.all_eq_true]at g;have:=g.2 l[i] (AD z);simpa [Gy]using this
 unfold maxLen at v;have E:=AA s;clear O g s;by_cases L:20<l.length
 .go_enter func36,ntmps36;go_wp2;go_ret;exact⟨false,0,rfl,by simp,rfl⟩
 have I:=AA hr;clear hr;go_enter func36,ntmps36;go_wp2;go_loopw [3,4] (λx y wr=>∃(k n:Nat),k<=l.length/\x= .int .i64 k/\Hid (∀i j,i<j->j<k->LS l i≠LS l j)/\wr=w.drewN n) (λx _ _=>l.length-(Aa x).toNat)
 .exact⟨0,0,by omega,rfl,(λ_ _ _ h=>by omega),rfl⟩
 obtain⟨k,n,D,rfl,hold,rfl⟩:=hrel;by_cases t:k<l.length
 .rcases I.o with A|⟨b,o,rfl,R,f⟩
  .subst A;simp at t
  have N:=AA f;have M:=(f k t).1;have C:=(f k t).2;clear f;go_wp2_with fail;refine(FV _ _ (E.o k t).1).mono ?_;rintro e T ⟨r1,rfl,rfl⟩;cases r1
  .go_wp2;go_ret;exact⟨false,n,rfl,by simp,rfl⟩
  go_wp2_with fail;refine(Fq _ _ (E.o k t).2).mono ?_;rintro e T ⟨r2,rfl,rfl⟩;cases r2
  .go_wp2;go_ret;exact⟨false,n,rfl,by simp,rfl⟩
  go_wp2;go_loopw [4] (λy wr=>∃(m q:Nat),m<=k/\y= .int .i64 m/\Hid (∀i,i<m->LS l i≠LS l k)/\wr=w.drewN q) (λy _=>k-(Aa y).toNat)
  .exact⟨0,n,by omega,rfl,(λ_ h=>by omega),rfl⟩
  obtain⟨m,q,v,rfl,u,rfl⟩:=hrel;by_cases S:m<k
  .have U:=(N.o m (by omega)).1;go_wp2_with fail;go_quiet(fail);go_wp2_with fail
   .go_ret;exact⟨false,_,rfl,by simp,by rw[World.drewN_drewN]⟩
   have r:((l[m]?.getD default).key.toList==l[k].key.toList)=false:=by assumption
   go_roundw
   .refine⟨m+1,_,by omega,by go_num,(λi z=> ?_),rfl⟩;by_cases e:i=m
    .subst e;intro d;simp only[LS,Ae,AK t,BE]at d;rw[d]at r;simp at r
    exact u.o i (by omega)
   simp[Aa];omega
  go_wp2;go_roundw
  .refine⟨k+1,q,by omega,by go_num,(λi j p H=> ?_),rfl⟩;by_cases e:j=k
   .subst e;exact u.o i (by omega)
   exact hold.o i j p (by omega)
  simp[Aa];omega
 go_wp2;go_ret;have e:k=l.length:=by omega
 subst e;exact⟨true,n,rfl,λ_=>⟨by omega,hold.o⟩,rfl⟩
theorem LU(t:List Nd)(e:Nat):∀(f k:Nat),∀x∈BR t f k e,k<=x/\x<e:=by
 intro f;induction f with
 |zero=>intro k x hx;simp[BR]at hx
 |succ f o=>
  intro k x hx;simp only[BR]at hx;by_cases a:k<e
  .rw[AJ a]at hx;rcases BQ.1 hx with rfl|hx
   .omega
   have:=o _ x hx;omega
  rw[AI a]at hx;simp at hx
theorem KM(t:List Nd)(e:Nat):∀(f k:Nat),(BR t f k e).length<=f:=by
 intro f;induction f with
 |zero=>intro k;simp[BR]
 |succ f o=>
  intro k;simp only[BR];by_cases a:k<e
  .rw[AJ a,Ak];have:=o (k+sz t k);omega
  rw[AI a];simp
theorem UF(_hl:Gu t 0 t.length)(a:sz t 0=t.length):∀k∈Bo t 0,k<t.length:=by
 intro k e;have:=LU t _ _ _ k e;omega
theorem Sc(_hl:Gu t 0 t.length)(e:sz t 0=t.length):(Bo t 0).length<=t.length:=by
 have:=KM t (0+sz t 0) (sz t 0) (0+1);unfold Bo;omega
theorem NG(a:Option Ai)(c:Nat)(t:List Nd)(ht:t.length<=200)(w:AB)(h:Gp w w.heap.size a t)(h0:0<t.length)(E:Gu t 0 t.length)(A:sz t 0=t.length):
 AX AC 33 #[.slice a t.length c] w (Xh w):=by
 have r:∀k∈Bo t 0,k<t.length:=UF E A;have O:=AA r;have D:=AA h;clear r h;go_enter func33,ntmps33;go_wp2_with fail;refine(UG _ _ t ht 0 0 rfl _ D.o h0 (by rw[A];simpa using E) (by omega) (by omega)).mono ?_;rintro e I ⟨la,lc,rfl,f,z⟩;have S:Gp I w.heap.size a t:=D.o.below z;have v:(Bo t 0).length<=1000:=by have:=Sc E A;omega
 obtain⟨K,T⟩:∃K,K=Bo t 0:=⟨_,rfl⟩;rw[<-T]at f v O|-;have P:=AA T;clear T;go_wp2;go_loopw [4,5] (λx y wr=>∃(s:Bool) (m:Nat),m<=K.length/\x= .bool s/\y= .int .i64 m/\I=wr) (λ_ y _=>K.length-(Aa y).toNat)
 .exact⟨false,0,by omega,rfl,rfl,rfl⟩
 obtain⟨s,m,G,rfl,rfl,rfl⟩:=hrel;by_cases d:m<K.length
 .obtain⟨Y,W,rfl,M,n⟩:=f.at_ (by rw[Ea];omega);have R:=n m (by rw[Ea];exact d);have e1:(Kw K)[m]'(by rw[Ea];exact d)= .int .i64 (K[m]:Int):=by simp[Kw]
  rw[e1]at R;clear n e1;have g:=O.o K[m] (AD d);obtain⟨b,o,rfl,F,H⟩:=S.at_ (by omega);obtain⟨f1,-,-,-,-,-⟩:=H K[m] g;clear H S;obtain⟨q,N⟩:∃q,q=K[m]:=⟨_,rfl⟩;obtain⟨i,p⟩:∃i,i=t[K[m]].kind:=⟨_,rfl⟩;rw[<-p]at f1;rw[<-N]at R f1 g;clear p N O;by_cases l:i=4
  .have L:(i==4)=true:=beq_iff_eq.2 l;clear l;go_wp2;go_ret;exact⟨false,rfl,z⟩
  have L:(i==4)=false:=CY.2 l;by_cases u:i=2
  .have C:(i==2)=true:=beq_iff_eq.2 u;clear u l;cases s
   .go_wp2;go_roundw
    .exact⟨true,m+1,by omega,rfl,by go_num,by trivial⟩
    simp[Aa];omega
   go_wp2;go_ret;exact⟨false,rfl,z⟩
  have C:(i==2)=false:=CY.2 u;by_cases j:i=3
  .have U:(i==3)=true:=beq_iff_eq.2 j;clear u j l;cases s
   .go_wp2;go_roundw
    .exact⟨true,m+1,by omega,rfl,by go_num,by trivial⟩
    simp[Aa];omega
   go_wp2;go_roundw
   .exact⟨true,m+1,by omega,rfl,by go_num,by trivial⟩
   simp[Aa];omega
  have U:(i==3)=false:=CY.2 j;clear u j l;go_wp2;go_roundw
  .exact⟨s,m+1,by omega,rfl,by go_num,by trivial⟩
  simp[Aa];omega
 go_wp2;go_ret;exact⟨true,rfl,z⟩
theorem OG{s:ByteArray}(h:s.toList.isEmpty=true):s.size=0:=by
 rw[ByteArray.toList_eq]at h;have t:s.data.toList=[]:=by simpa using h
 have e:s.data.toList.length=0:=by rw[t];rfl
 simpa using e
theorem Gp.more{e:Nat}(h:Gp w B a t)(d:B<=e):Gp w e a t:=by
 obtain⟨n,i,hr⟩:=h;refine⟨n,λx hx=>(i x hx).more d,?_⟩;rcases hr with l|⟨b,o,r,u,s⟩
 .exact .inl l
 exact .inr ⟨b,o,r,by omega,s⟩
theorem Gp.up(h:Gp w w.heap.size a t)(e:AL w.heap.size w N):Gp N N.heap.size a t:=(h.below e).more e.size
theorem B6.up{xs:List AS}(h:B6 w w.heap.size a xs)(e:AL w.heap.size w N):B6 N N.heap.size a xs:=(h.below e).more e.size
structure TV(t:List Nd)(i:Nat)(x:Nd):Prop where
 kinds:(x.kind=1/\i=0)\/(x.kind=2/\x.size=1/\Ls t i i=0)\/(x.kind=3/\P9 x.attrs)\/((x.kind=4\/x.kind=5)/\x.size=1)
 text:x.kind=1\/x.kind=3->x.text.size=0
 tag:x.kind≠3->x.tag.size=0/\x.attrs.length=0
def TZ(P:Prop)(w:AB)(e:Bx)(w':AB):Prop:=∃b,e= .returned (.bool b)/\(b=true->P)/\AL w.heap.size w w'
theorem NF(a:Option Ai)(c:Nat)(t:List Nd)(ht:t.length<=200)(i:Nat)(w:AB)(h:Gp w w.heap.size a t)(N:i<t.length)(L:Gu t 0 t.length)(Q:sz t 0=t.length)(S:GD t=true):
 AX AC 18 #[.slice a t.length c,.int .i64 i] w (TZ (TV t i t[i]) w):=by
 have E:GF t[i]=true:=by
  simp only[GD,Bool.and_eq_true,List.all_eq_true]at S;exact S.2 _ (AD N)
 simp only[GF,Bool.and_eq_true,decide_eq_true_eq]at E;have G:=AA h;obtain⟨b,o,rfl,ee,U⟩:=h.at_ (by omega);obtain⟨Y,W,F,M,C,g⟩:=U i N;clear U h S;obtain⟨x,hx⟩:∃x,x=t[i]:=⟨_,rfl⟩;rw[<-hx]at Y W F M C g E|-;have HX:=AA hx;have P:=AA g.attrs;have y:=AA E;have A:=g.attrs.1;unfold maxLen at A;clear hx g E;obtain⟨f,tag,text,aa,ac,attrs,size⟩:=x;dsimp only at Y W F M C P y A;have T:∀O,AL w.heap.size w (w.alloc O):=λO=>(AW _ _).alloc (AG _) O;have n:=AA T;clear T;by_cases k:f=3
 .subst k;cases H:text.toList.isEmpty
  all_goals
   go_enter func18,ntmps18;go_wp2_with fail;refine(Fq _ _ y.o.1.2).mono ?_;rintro e m ⟨r,rfl,rfl⟩;cases r
  .go_wp2;go_ret;exact⟨false,rfl,by simp,n.o _⟩
  .go_wp2;go_ret;exact⟨false,rfl,by simp,n.o _⟩
  .go_wp2;go_ret;exact⟨false,rfl,by simp,n.o _⟩
  go_wp2_with fail;refine(FV _ _ y.o.1.1).mono ?_;rintro e m ⟨r,rfl,rfl⟩;cases r
  .go_wp2;go_ret;exact⟨false,rfl,by simp,n.o _⟩
  go_wp2_with fail;refine(Mm _ _ attrs _ ((P.o.below (n.o _)).more (by simp)) y.o.2).mono ?_;rintro e m ⟨r,q,rfl,hr,rfl⟩;have X:=AA hr;clear hr;go_wp2;go_ret;exact⟨r,rfl,λhr=>⟨.inr (.inr (.inl ⟨rfl,X.o hr⟩)),λ_=>OG H,λR=>absurd rfl R⟩,below_drewN (n.o _) q⟩
 have z3:(f==3)=false:=CY.2 k;have en:=AA k;clear k;cases J:tag.toList.isEmpty
 .go_enter func18,ntmps18;go_wp2;go_ret;exact⟨false,rfl,by simp,n.o _⟩
 by_cases ea:0<attrs.length
 .go_enter func18,ntmps18;go_wp2;go_ret;exact⟨false,rfl,by simp,n.o _⟩
 have d:Hid (tag.size=0/\attrs.length=0):=⟨OG J,by omega⟩;by_cases z:f=1
 .subst z;go_enter func18,ntmps18;go_wp2_with fail;refine(Fq _ _ y.o.1.2).mono ?_;rintro e m ⟨r,rfl,rfl⟩;cases r
  .go_wp2;go_ret;exact⟨false,rfl,by simp,n.o _⟩
  cases H:text.toList.isEmpty
  .by_cases u:i=0
   .subst u;go_wp2;go_ret;exact⟨false,rfl,by simp,n.o _⟩
   have V:((i:Int)==0)=false:=CY.2 (by omega);clear u;go_wp2;go_ret;exact⟨false,rfl,by simp,n.o _⟩
  by_cases u:i=0
  .subst u;go_wp2_with fail;refine(NG _ _ t ht _ (G.o.up (n.o _)) N L Q).mono ?_;rintro e m ⟨r,rfl,K⟩;go_wp2;go_ret;exact⟨r,rfl,λ_=>⟨.inl ⟨rfl,rfl⟩,λ_=>OG H,λ_=>d.o⟩,(n.o _).trans (K.mono (by simp))⟩
  have V:((i:Int)==0)=false:=CY.2 (by omega);clear u;go_wp2;go_ret;exact⟨false,rfl,by simp,n.o _⟩
 have z1:(f==1)=false:=CY.2 z;have eh:=AA z;clear z;by_cases j:f=2
 .subst j;go_enter func18,ntmps18;go_wp2_with fail;refine(Fq _ _ y.o.1.2).mono ?_;rintro e m ⟨r,rfl,rfl⟩;cases r
  .go_wp2;go_ret;exact⟨false,rfl,by simp,n.o _⟩
  by_cases s:size=1
  .subst s;go_wp2_with fail;refine(FV _ _ y.o.1.2).mono ?_;rintro e m ⟨r,rfl,rfl⟩;cases r
   .go_wp2;go_ret;exact⟨false,rfl,by simp,n.o _⟩
   go_wp2_with fail;refine(Qs _ _ t ht i _ rfl _ (G.o.up (n.o _)) N L).mono ?_;rintro e m ⟨rfl,rfl⟩;obtain⟨q,I⟩:∃q,q=Ls t i i:=⟨_,rfl⟩;rw[<-I];by_cases l:q=0
   .have B:(q==0)=true:=beq_iff_eq.2 l;have Z:Hid (Ls t i i=0):=I.symm.trans l;clear I l;go_wp2;go_ret;exact⟨true,rfl,λ_=>⟨.inr (.inl ⟨rfl,rfl,Z.o⟩),λh=>by rcases h with h|h<;>simp at h,λ_=>d.o⟩,n.o _⟩
   have B:(q==0)=false:=CY.2 l;clear I l;go_wp2;go_ret;exact⟨false,rfl,by simp,n.o _⟩
  have D:(size==1)=false:=CY.2 s;clear s;go_wp2;go_ret;exact⟨false,rfl,by simp,n.o _⟩
 have z2:(f==2)=false:=CY.2 j;have es:=AA j;clear j;by_cases v:f=4
 .subst v;go_enter func18,ntmps18;go_wp2_with fail;refine(Fq _ _ y.o.1.2).mono ?_;rintro e m ⟨r,rfl,rfl⟩;cases r
  .go_wp2;go_ret;exact⟨false,rfl,by simp,n.o _⟩
  by_cases s:size=1
  .subst s;go_wp2;go_ret;exact⟨true,rfl,λ_=>⟨.inr (.inr (.inr ⟨.inl rfl,rfl⟩)),λh=>by rcases h with h|h<;>simp at h,λ_=>d.o⟩,n.o _⟩
  have D:(size==1)=false:=CY.2 s;clear s;go_wp2;go_ret;exact⟨false,rfl,by simp,n.o _⟩
 have z4:(f==4)=false:=CY.2 v;have ei:=AA v;clear v;by_cases p:f=5
 .subst p;go_enter func18,ntmps18;go_wp2_with fail;refine(Fq _ _ y.o.1.2).mono ?_;rintro e m ⟨r,rfl,rfl⟩;cases r
  .go_wp2;go_ret;exact⟨false,rfl,by simp,n.o _⟩
  by_cases s:size=1
  .subst s;go_wp2;go_ret;exact⟨true,rfl,λ_=>⟨.inr (.inr (.inr ⟨.inr rfl,rfl⟩)),λh=>by rcases h with h|h<;>simp at h,λ_=>d.o⟩,n.o _⟩
  have D:(size==1)=false:=CY.2 s;clear s;go_wp2;go_ret;exact⟨false,rfl,by simp,n.o _⟩
 have z5:(f==5)=false:=CY.2 p;have eo:=AA p;clear p;go_enter func18,ntmps18;go_wp2_with fail;refine(Fq _ _ y.o.1.2).mono ?_;rintro e m ⟨r,rfl,rfl⟩;cases r
 .go_wp2;go_ret;exact⟨false,rfl,by simp,n.o _⟩
 go_wp2;go_ret;exact⟨false,rfl,by simp,n.o _⟩
structure CQ(t:List Nd):Prop where
 pos:0<t.length
 le:t.length<=200
 top:sz t 0=t.length
 root:(t.getD 0 default).kind=1
 lam:Gu t 0 t.length
 node:∀i (h:i<t.length),TV t i t[i]
 text:∀i (h:i<t.length),t[i].text.size<=4000
 vals:∀i (h:i<t.length),∀x∈t[i].attrs,x.val.size<=4000
theorem Do(e:k<t.length):t.getD k default=t[k]:=by
 rw[Ae,AK e,BE]
structure YS(t:List Nd)(k:Nat):Prop where
 node:∀i (h:i<t.length),i<k->TV t i t[i]
 text:∀i (h:i<t.length),i<k->t[i].text.size<=4000
 vals:∀i (h:i<t.length),i<k->∀x∈t[i].attrs,x.val.size<=4000
theorem Nr(a:Option Ai)(c:Nat)(t:List Nd)(w:AB)(h:Gp w w.heap.size a t)(J:GD t=true):
 AX AC 6 #[.slice a t.length c] w (TZ (CQ t) w):=by
 have hm:t.length<=2147483647:=by simp only[GD,Bool.and_eq_true,decide_eq_true_eq]at J;exact J.1
 by_cases h0:t.length=0
 .have z0:((t.length:Int)==0)=true:=beq_iff_eq.2 (by omega);clear h0;go_enter func6,ntmps6;go_wp2_with fail;all_goals (go_ret;exact⟨false,rfl,by simp,AW _ _⟩)
 have z0:((t.length:Int)==0)=false:=CY.2 (by omega);have f:0<t.length:=by omega
 clear h0;by_cases h2:200<t.length
 .go_enter func6,ntmps6;go_wp2_with fail;all_goals (go_ret;exact⟨false,rfl,by simp,AW _ _⟩)
 have HH:=AA h;obtain⟨b,o,rfl,M,G⟩:=h.at_ f;have HC:=AA G;have f1:=(G 0 f).1;have f5:=(G 0 f).2.2.2.2.1;simp only[Nat.zero_mul,Dj]at f1 f5;clear G h;obtain⟨s,Q⟩:∃s,s=t[0].size:=⟨_,rfl⟩;obtain⟨I,E⟩:∃I,I=t[0].kind:=⟨_,rfl⟩;rw[<-Q]at f5;rw[<-E]at f1;have Z:=AA Q;have HK:=AA E;clear Q E;by_cases e1:s=t.length
 .subst e1;by_cases e2:I=1
  .subst e2;go_enter func6,ntmps6;go_wp2_with fail;refine(S0 _ _ t (by omega) 40 0 t.length _ _ _ _ rfl rfl rfl HH.o f (by omega) (by omega) (by omega)).mono ?_;rintro e w1 ⟨r,rfl,hr,rfl⟩;have HR:=AA hr;clear hr;cases r
   .go_wp2_with fail;all_goals (go_ret;exact⟨false,rfl,by simp,AW _ _⟩)
   go_wp2;go_loopw [3,4,5] (λx y _ wr=>∃(B k:Nat),B<=4000/\k<=t.length/\x= .int .i64 B/\y= .int .i64 k/\Hid (YS t k)/\AL w.heap.size w wr) (λ_ y _ _=>t.length-(Aa y).toNat)
   .exact⟨0,0,by omega,by omega,rfl,rfl,⟨λ_ _ h=>by omega,λ_ _ h=>by omega,λ_ _ h=>by omega⟩,AW _ _⟩
   obtain⟨B,k,hB,hk,rfl,rfl,n,l⟩:=hrel;by_cases R:k<t.length
   .obtain⟨-,-,X,P,-,g⟩:=HC.o k R;replace X:=(l.cell (p:=⟨b,_,none⟩) M).trans X;replace P:=(l.cell (p:=⟨b,_,none⟩) M).trans P;have L:=g.text;have D:=g.attrs.1;have HA:=AA ((g.attrs.below l));unfold maxLen at L D;clear g;obtain⟨x,hx⟩:∃x,x=t[k]:=⟨_,rfl⟩;rw[<-hx]at X P L D HA;have HX:=AA hx;clear hx;obtain⟨W,rfl⟩:∃W:AB,W=wr:=⟨_,rfl⟩;by_cases ee:x.text.size<=4000
    .go_wp2;go_loopw [3,5] (λp q wr=>∃(u m:Nat),u<=8001/\m<=x.attrs.length/\p= .int .i64 u/\q= .int .i64 m/\Hid (u<=4000->∀i (h:i<x.attrs.length),i<m->x.attrs[i].val.size<=4000)/\W=wr) (λ_ q _=>x.attrs.length-(Aa q).toNat)
     .exact⟨B+x.text.size,0,by omega,by omega,by go_num,rfl,(λ_ i h Y=>by omega),rfl⟩
     obtain⟨u,m,hB2,hm,rfl,rfl,hv,rfl⟩:=hrel;by_cases d:m<x.attrs.length
     .by_cases T:u<=4000
      .have A:∃S N,x.aa=some ⟨S,N,none⟩/\W.cell? ⟨S,N+m*2+1,none⟩=some (.string (x.attrs[m]).val)/\(x.attrs[m]).val.size<=maxLen:=by
        obtain⟨q1,q2,K⟩:=HA.o;rcases K with K|⟨S,N,q4,q5,q6⟩
        .rw[K]at d;simp at d
        refine⟨S,N,q4,?_,(q2 _ (AD d)).2⟩;have:=(q6 m d).2;rw[Ae,AK d,BE]at this;exact this
       obtain⟨S,N,v,et,H⟩:=A;unfold maxLen at H;obtain⟨O,z⟩:∃O,O=(x.attrs[m]).val:=⟨_,rfl⟩;rw[<-z]at et H;have HV:=AA z;clear z;rw[v]at P;have HXA:=AA v;clear v;by_cases v1:O.size<=4000
       .go_wp2;go_roundw
        .refine⟨u+O.size,m+1,by omega,by omega,by go_num,by go_num,(λh4 i Y U=> ?_),by trivial⟩;by_cases e:i=m
         .subst e;rw[<-HV.o];exact v1
         exact hv.o T i Y (by omega)
        simp[Aa];omega
       by_cases v2:4001<O.size
       .go_wp2;go_roundw
        .exact⟨u+4001,m+1,by omega,by omega,by go_num,by go_num,(λh4 i Y U=>by omega),by trivial⟩
        simp[Aa];omega
       go_wp2;go_roundw
       .exact⟨u+O.size,m+1,by omega,by omega,by go_num,by go_num,(λh4 i Y U=>by omega),by trivial⟩
       simp[Aa];omega
      go_wp2;go_ret;exact⟨false,rfl,by simp,l⟩
     by_cases T:u<=4000
     .go_wp2_with fail;refine(NF _ _ t (by omega) k _ (HH.o.up l) R (by have:=(HR.o (by trivial)).lam;have V:sz t 0=t.length:=(by unfold sz;rw[Do f,<-Z.o];simp);rw[V]at this;simpa using this) (by unfold sz;rw[Do f,<-Z.o];simp) J).mono ?_;rintro e w1 ⟨r,rfl,hr,ea⟩;have HN:=AA hr;clear hr;have F:=BT l ea;cases r
      .go_wp2;go_ret;exact⟨false,rfl,by simp,F⟩
      go_wp2;go_roundw
      .refine⟨u,k+1,by omega,by omega,rfl,by go_num,⟨λi h C=> ?_,λi h C=> ?_,λi h C=> ?_⟩,F⟩
       .by_cases e:i=k
        .subst e;exact HN.o (by trivial)
        exact n.o.node i h (by omega)
       .by_cases e:i=k
        .subst e;rw[<-HX.o];exact ee
        exact n.o.text i h (by omega)
       by_cases e:i=k
       .subst e;rw[<-HX.o];intro y hy;obtain⟨j,hj,rfl⟩:=An hy;exact hv.o T j hj (by omega)
       exact n.o.vals i h (by omega)
      simp[Aa];omega
     go_wp2;go_ret;exact⟨false,rfl,by simp,l⟩
    by_cases hx5:4001<x.text.size
    .go_wp2_with fail;refine wp_loop_rounds 1 ?_;rw[rounds_succ];go_wp2_with fail;all_goals (go_ret;exact⟨false,rfl,by simp,l⟩)
    go_wp2_with fail;refine wp_loop_rounds 1 ?_;rw[rounds_succ];go_wp2_with fail;all_goals (go_ret;exact⟨false,rfl,by simp,l⟩)
   go_wp2;go_ret;have e:k=t.length:=by omega
   subst e;refine⟨true,rfl,λ_=> ?_,l⟩;have hS:=HR.o (by trivial);have V:sz t 0=t.length:=by unfold sz;rw[Do f,<-Z.o];simp
   refine⟨f,by omega,V,by rw[Do f];exact HK.o.symm,?_,λi h=>n.o.node i h h,λi h=>n.o.text i h h,λi h=>n.o.vals i h h⟩;have:=hS.lam;rw[V]at this;simpa using this
  have z2:(I==1)=false:=CY.2 e2;have z2':(I !=1)=true:=by simp[e2]
  clear e2;go_enter func6,ntmps6;go_wp2_with fail;all_goals (go_ret;exact⟨false,rfl,by simp,AW _ _⟩)
 have z1:(s==(t.length:Int))=false:=CY.2 e1;have z1':(s !=(t.length:Int))=true:=by simp[e1]
 clear e1;go_enter func6,ntmps6;go_wp2_with fail;all_goals (go_ret;exact⟨false,rfl,by simp,AW _ _⟩)
theorem Lv{P:Program}{o:ER}{a:Act}{E:Prop}(A:o.guard=none)(s x:Operand)(t:Dk)
 (R:o.op= .call {callee:= .builtin .append,args:= #[s,x],argTypes:= #[t,t]})
 (base:Nat)(e:Dk)(i:TypeInfo)(z:AS)(size bytes:Nat)(ht:P.underlying t=some (.slice e))(L:P.info? e=some i)(N:i.zero=some z)
 (l:i.size=size)(O:i.bytes=bytes)(k:z.cells.size=size)(q:0<size)
 (v:AS)(n:Nat)(xs:List AS)(H:a.eval s=v)(g:w.ownsRow base e size v n xs)
 (b:Ai)(m c:Nat)(r:List AS)(hx:a.eval x= .slice (some b) m c)(D:r.length=m*size)(f:∀j u,r[j]? =some u->w.cell? (b.add j)=some u)(U:∀u∈r,u.oneCell'=true)
 (I:n+m<=maxLen)(d:(n+m)*bytes<=140737488355328)(y:base<=w.heap.size)
 (h:∀p w',w'.ownsRow base e size p (n+m) (xs++r)->w.grownBy w' v.ownBlock->(p= .slice none 0 0↔v= .slice none 0 0/\m=0)->K (a.put o.dst p) w'):
 if Du o (yielded T a.tmps)=true then Oper.wp P o a w K Q else E:=by
 have S:Du o (yielded T a.tmps)=true:=by simp[Du,A]
 rw[AJ S];exact wp_append_own w s x t R base e i z size bytes ht L N l O k q v n xs H g b m c r hx D f U I d y h
theorem DA{e size:Nat}{xs:List AS}(h:w.ownsRow A e size v n xs):∃a c,v= .slice a n c:=by
 rcases h.2 with⟨rfl,rfl⟩|⟨g,cap,t,rfl,_⟩
 .exact⟨none,0,rfl⟩
 exact⟨_,_,rfl⟩
theorem Kb{P:Program}{o:ER}{a:Act}{E:Prop}(O:o.guard=none)(s x:Operand)(t:Dk)
 (D:o.op= .call {callee:= .builtin .append,args:= #[s,x],argTypes:= #[t,t]})
 (base:Nat)(e:Dk)(i:TypeInfo)(z:AS)(size bytes:Nat)(ht:P.underlying t=some (.slice e))(U:P.info? e=some i)(H:i.zero=some z)
 (l:i.size=size)(I:i.bytes=bytes)(q:z.cells.size=size)(A:0<size)
 (v:AS)(n:Nat)(xs:List AS)(R:a.eval s=v)(g:w.ownsRow base e size v n xs)
 (k:Ai)(m c:Nat)(r:List AS)(hx:a.eval x= .slice (some k) m c)(L:r.length=m*size)(f:∀j u,r[j]? =some u->w.cell? (k.add j)=some u)(M:∀u∈r,u.oneCell'=true)
 (N:n+m<=maxLen)(d:(n+m)*bytes<=140737488355328)(y:base<=w.heap.size)
 (h:∀b p w',w'.ownsRow base e size (.slice b (n+m) p) (n+m) (xs++r)->w.grownBy w' v.ownBlock->K (a.put o.dst (.slice b (n+m) p)) w'):
 if Du o (yielded T a.tmps)=true then Oper.wp P o a w K Q else E:=by
 refine Lv O s x t D base e i z size bytes ht U H l I q A v n xs R g k m c r hx L f M N d y ?_;intro F w' S C _;obtain⟨b,p,rfl⟩:=DA S;exact h b p w' S C
theorem Yh(W:AB)(O:Obj)(a b c:AS)(T:Dk):∀j u,[a,b,c][j]? =some u->((W.alloc O).alloc (.cells #[a,b,c] T)).drew.cell? ((⟨W.heap.size+1,0,none⟩:Ai).add j)=some u:=by
 intro j u t;have e:((W.alloc O).alloc (.cells #[a,b,c] T)).heap[W.heap.size+1]? =some (.cells #[a,b,c] T (0,0)):=by
  have:=Ah (W.alloc O) (.cells #[a,b,c] T);simpa using this
 rw[Ba,By];show((W.alloc O).alloc (.cells #[a,b,c] T)).cell? _=_;rw[AZ _ _ j _ _ _ e];rw[<-t];simp
def CG(l:List At2):List AS:=l.flatMap λx=>[.string ⟨#[]⟩,.string x.key,.string x.val]
theorem MV(l:List At2)(x:At2):CG (l++[x])=CG l++[.string ⟨#[]⟩,.string x.key,.string x.val]:=by simp[CG]
theorem Tryz.Zk:(Tryz.prog.info? 133).map (λi=>(i.zero,i.size,i.bytes))=some (some (.agg #[.string ⟨#[]⟩,.string ⟨#[]⟩,.string ⟨#[]⟩]),3,48):=by kernel_rfl
def Ic(k:Int):Int:=if k=1 then 2 else if k=2 then 5 else if k=4 then 1 else if k=5 then 4 else 3
def PE(x:Nd):ByteArray:=if x.kind=1 then⟨#[]⟩else if x.kind=2\/x.kind=4\/x.kind=5 then x.text else x.tag
def CU(x:Nd):List At2:=if x.kind=1\/x.kind=2\/x.kind=4\/x.kind=5 then[]else x.attrs
def Kn(x:Nd)(w:AB)(e:Bx)(w':AB):Prop:=
 ∃(g:Nat) (aa:Option Ai) (ac:Nat),e= .returned (.pointer (some ⟨g,0,none⟩))/\w.heap.size<=g/\
  w'.heap[g]? =some (.cells #[.pointer none,.pointer none,.pointer none,.pointer none,.pointer none,.int .u32 (Ic x.kind),.int .u32 0,.string (PE x),.string ⟨#[]⟩,.slice aa (CU x).length ac] 101 (0,0))/\
  w'.ownsRow (g+1) 133 3 (.slice aa (CU x).length ac) (CU x).length (CG (CU x))/\AL w.heap.size w w'
theorem Gv(x:Nd)(w:AB)(hx:x.Ok w w.heap.size)(t:x.kind=1\/x.kind=2\/x.kind=4\/x.kind=5):
 AX AC 125 #[.agg #[.int .i64 x.kind,.string x.tag,.string x.text,.slice x.aa x.attrs.length x.ac,.int .i64 x.size]] w (Kn x w):=by
 obtain⟨o,tag,text,aa,ac,attrs,size⟩:=x;dsimp only at t|-;clear hx;have hnew:∀(W:AB) (a:Array AS),AL W.heap.size W (W.alloc (.cells a 101)):=λW a=>Ac;rcases t with rfl|rfl|rfl|rfl;all_goals
  go_enter func125,ntmps125;go_wp2;go_ret;refine⟨w.heap.size+1,none,0,rfl,by omega,?_,Aw _ _ _ _,((AW _ _).alloc (AG _) _).alloc (by simp) _⟩;have e:∀(o1 o2:Obj),((w.alloc o1).alloc o2).heap[w.heap.size+1]? =some o2:=λo1 o2=>by
   have:=Ah (w.alloc o1) o2;simpa using this
  rw[e];rfl
theorem Td(x:Nd)(w:AB)(hx:x.Ok w w.heap.size)(z:x.kind=3)(S:x.attrs.length<=20):
 AX AC 125 #[.agg #[.int .i64 x.kind,.string x.tag,.string x.text,.slice x.aa x.attrs.length x.ac,.int .i64 x.size]] w (Kn x w):=by
 obtain⟨M,v,I,O,A⟩:=D6 Tryz.Zk;have g:=AA hx.attrs;clear hx;obtain⟨kd,tag,text,aa,ac,attrs,size⟩:=x;dsimp only at z S g|-;subst z;go_enter func125,ntmps125;go_wp2;go_loopw [37] (λy wr=>∃(k:Nat) (h:Option Ai) (s:Nat),k<=attrs.length/\y= .int .i64 k/\
  wr.heap[w.heap.size+1]? =some (.cells #[.pointer none,.pointer none,.pointer none,.pointer none,.pointer none,.int .u32 3,.int .u32 0,.string tag,.string ⟨#[]⟩,.slice h k s] 101 (0,0))/\
  wr.ownsRow (w.heap.size+2) 133 3 (.slice h k s) k (CG (attrs.take k))/\AL w.heap.size w wr) (λy _=>attrs.length-(Aa y).toNat)
 .refine⟨0,none,0,by omega,rfl,?_,Aw _ _ _ _,((AW _ _).alloc (AG _) _).alloc (by simp) _⟩;have e:∀(o1 o2:Obj),((w.alloc o1).alloc o2).heap[w.heap.size+1]? =some o2:=λo1 o2=>by
   have:=Ah (w.alloc o1) o2;simpa using this
  rw[e]
 obtain⟨k,h,s,z,rfl,t,a,d⟩:=hrel;by_cases i:k<attrs.length
 .obtain⟨Y,F,hr⟩:=g.o;rcases hr with G|⟨b,o,rfl,m,E⟩
  .subst G;simp at i
  have B:=(d.cell (p:=⟨b,o+k*2,none⟩) m).trans (E k i).1;have P:=(d.cell (p:=⟨b,o+k*2+1,none⟩) m).trans (E k i).2;obtain⟨y,j⟩:∃y,y=attrs.getD k default:=⟨_,rfl⟩;rw[<-j]at B P;have V:Hid (attrs.take (k+1)=attrs.take k++[y]):=by
   rw[Hid,AF i,j,Ae,AK i,BE]
  clear j E F Y;have r:w.heap.size+1<wr.heap.size:=(AE.1 t).1;have c9:wr.cell? ⟨w.heap.size+1,9,none⟩=some (.slice h k s):=AZ wr _ 9 _ _ _ t;have ee:∀U L,((wr.alloc U).alloc L).cell? ⟨w.heap.size+1,9,none⟩=some (.slice h k s):=λU L=>by
   rw[Fv _ _ _ (by simp;omega),Fv _ _ _ (by exact r)];exact c9
  have J:=AA t;have T:=AA a;clear t a;go_wp2_with fail;have Q:=AA (Yh wr (.cells #[.string y.key,.string y.val] 49) (.string ⟨#[]⟩) (.string y.key) (.string y.val) 133);have C:Hid (∀n,(((wr.alloc (.cells #[.string y.key,.string y.val] 49)).alloc (.cells #[.string ⟨#[]⟩,.string y.key,.string y.val] 133)).drew).grownBy n (AO h k s).ownBlock->
   n.heap[w.heap.size+1]? =some (.cells #[.pointer none,.pointer none,.pointer none,.pointer none,.pointer none,.int .u32 3,.int .u32 0,.string tag,.string ⟨#[]⟩,.slice h k s] 101 (0,0))/\AL w.heap.size w n):=by
   intro n c;have N:some (w.heap.size+1)≠(AO h k s).ownBlock:=λe=>by have:=(T.o.lt _ e.symm).1;omega
   refine⟨?_,?_⟩
   .rw[c.block (w.heap.size+1) (by show _<(((wr.alloc _).alloc _)).heap.size;simp;omega) N];show((wr.alloc _).alloc _).heap[w.heap.size+1]? =_;rw[B5 _ _ _ (by simp;omega),B5 _ _ _ r];exact J.o
   exact(((d.alloc d.size _).alloc (by simp;have:=d.size;omega) _).drew).grown c (by show _<=((wr.alloc _).alloc _).heap.size;simp;have:=d.size;omega) (λq W=>by have:=(T.o.lt q W).1;omega)
  go_region_law (refine Kb rfl (.tmp 45) (.tmp 51) 99 rfl (w.heap.size+2) 133 M _ 3 48 underlying99 v I O A rfl (by decide) (.slice h k s) k (CG (attrs.take k)) rfl (((T.o.alloc _).alloc _).drew) ⟨wr.heap.size+1,0,none⟩ 1 1 [.string ⟨#[]⟩,.string y.key,.string y.val] rfl rfl Q.o (by intro u H;simp at H;rcases H with rfl|rfl|rfl<;>rfl) (by unfold maxLen;omega) (by omega) (by simp;omega) ?_;intro D c1 n R c;have l:=(C.o n c).1;have Z:=AZ n _ 9 _ _ _ l;have X:=A7 n _ 9 _ _ l;have f:=AA (C.o n c);have K:=AA R;clear R c l);all_goals
   go_wp2;go_roundw
   .refine⟨k+1,D,c1,by omega,by go_num,?_,?_,f.o.2.setCell (by simp) _⟩
    .have:=Ao n (w.heap.size+1) 9 _ _ (.slice D (k+1) c1) f.o.1;simpa using this
    rw[V.o,MV];exact ownsRow_setCell_below K.o (by simp) _
   simp[Aa];omega
 go_wp2;go_ret;have e:k=attrs.length:=by omega
 subst e;rw[AU]at a;exact⟨w.heap.size+1,h,s,rfl,by omega,t,a,d⟩
structure Dn where
 par:Option Nat
 fst:Option Nat
 lst:Option Nat
 prv:Option Nat
 nxt:Option Nat
 typ:Int
 dat:ByteArray
 ats:List At2
variable{V:Nat->Dn}
def Au(bl:Nat->Nat)(o:Option Nat):AS:= .pointer (o.map λj=>⟨bl j,0,none⟩)
def El(bl:Nat->Nat)(d:Dn)(aa:Option Ai)(ac:Nat):Array AS:=
 #[Au bl d.par,Au bl d.fst,Au bl d.lst,Au bl d.prv,Au bl d.nxt,.int .u32 d.typ,.int .u32 0,.string d.dat,.string ⟨#[]⟩,.slice aa d.ats.length ac]
def rowAt(w:AB)(b:Nat):Option Nat:=
 match w.cell? ⟨b,9,none⟩with
 |some v=>v.ownBlock
 |none=>none
structure FK(w:AB)(B:Nat)(S:Nat->Prop)(bl:Nat->Nat)(st:Nat->Dn):Prop where
 node:∀i,S i->B<=bl i/\∃aa ac,w.heap[bl i]? =some (.cells (El bl (st i) aa ac) 101 (0,0))/\
  w.ownsRow B 133 3 (.slice aa (st i).ats.length ac) (st i).ats.length (CG (st i).ats)
 inj:∀i j,S i->S j->bl i=bl j->i=j
 sep:∀i j,S i->S j->i≠j->∀g,rowAt w (bl i)=some g->rowAt w (bl j)≠some g
theorem E4{b:Nat}{d:Dn}{aa:Option Ai}{ac:Nat}{T:Dk}(e:w.heap[b]? =some (.cells (El Z d aa ac) T (0,0))):rowAt w b=(AO aa d.ats.length ac).ownBlock:=by
 unfold rowAt;rw[AZ w b 9 _ _ _ e];rfl
theorem JR(w:AB)(b g j:Nat)(v:AS)(h:g≠b\/j≠9):rowAt (w.setCell ⟨g,j,none⟩ v) b=rowAt w b:=by
 unfold rowAt;rw[World.cell?_setCell_other _ _ _ _ (by
  intro e;injection e with e1 e2;rcases h with h|h
  .exact h (by omega)
  exact h (by omega))]
theorem Ce{b:Nat}(h:N.heap[b]? =w.heap[b]?):rowAt N b=rowAt w b:=by
 unfold rowAt World.cell?;rw[h]
def FL(e:Nat->Dn)(i:Nat)(d:Dn):Nat->Dn:=λk=>if k=i then d else e k
theorem Dq(e:Nat->Dn)(i:Nat)(d:Dn):FL e i d i=d:=by simp[FL]
theorem Ch(e:Nat->Dn)(i k:Nat)(d:Dn)(h:k≠i):FL e i d k=e k:=by simp[FL,h]
def Dn.set(d:Dn)(j:Nat)(o:Option Nat):Dn:=
 match j with
 |0=>{d with par:=o}
 |1=>{d with fst:=o}
 |2=>{d with lst:=o}
 |3=>{d with prv:=o}
 |_=>{d with nxt:=o}
theorem PF(bl:Nat->Nat)(d:Dn)(aa:Option Ai)(ac:Nat)(j:Nat)(e:j<5)(o:Option Nat):
 (El bl d aa ac).setIfInBounds j (Au bl o)=El bl (d.set j o) aa ac/\(d.set j o).ats=d.ats:=by
 match j,e with
 |0,_=>exact⟨rfl,rfl⟩
 |1,_=>exact⟨rfl,rfl⟩
 |2,_=>exact⟨rfl,rfl⟩
 |3,_=>exact⟨rfl,rfl⟩
 |4,_=>exact⟨rfl,rfl⟩
theorem Ax{e size:Nat}{xs:List AS}(h:w.ownsRow A e size v n xs){d:Array AS}{t:Dk}(a:w.heap[g]? =some (.cells d t (0,0)))(o:e≠t):v.ownBlock≠some g:=by
 rcases h.2 with⟨rfl,_⟩|⟨r,cap,l,rfl,_,i,_⟩
 .simp[A6]
 intro s;have e1:r=g:=by simpa [A6]using s
 subst e1;rw[i]at a;simp at a;exact o a.2
theorem BS{e size:Nat}{xs:List AS}(h:w.ownsRow A e size v n xs){p:Ai}(t:v.ownBlock≠some p.block)(u:AS):(w.setCell p u).ownsRow A e size v n xs:=by
 refine⟨h.1,?_⟩;rcases h.2 with s|⟨g,cap,a,rfl,i,o,r⟩
 .exact .inl s
 refine .inr ⟨g,cap,a,rfl,i,?_,r⟩;rw[A8 _ _ _ _ (λe=>t (by simp[A6,e]))];exact o
theorem FK.set(h:FK w B S Z V)(d:S i)(j:Nat)(m:j<5)(o:Option Nat):
 FK (w.setCell ⟨Z i,j,none⟩ (Au Z o)) B S Z (FL V i ((V i).set j o)):=by
 refine⟨λk n=> ?_,h.inj,λk l n c s g=>by
  rw[JR _ _ _ _ _ (.inr (by omega)),JR _ _ _ _ _ (.inr (by omega))];exact h.sep k l n c s g⟩
 obtain⟨f,aa,ac,u,a⟩:=h.node k n;refine⟨f,aa,ac,?_⟩;have t:(w.setCell ⟨Z i,j,none⟩ (Au Z o)).ownsRow B 133 3 (.slice aa (V k).ats.length ac) (V k).ats.length (CG (V k).ats):=by
  obtain⟨_,_,_,r,_⟩:=h.node i d;exact BS a (Ax a r (by decide)) _
 by_cases e:k=i
 .subst e;obtain⟨e1,e2⟩:=PF Z (V k) aa ac j m o;rw[Dq,e2];refine⟨?_,t⟩;have:=Ao w (Z k) j _ _ (Au Z o) u;rw[this,e1]
 rw[Ch _ _ _ _ e];refine⟨?_,t⟩;rw[A8 _ _ _ _ (λe2=>e (h.inj k i n d e2))];exact u
theorem FK.cells(h:FK w B S Z V)(a:S i):
 (∀j,w.frozen? ⟨Z i,j,none⟩=false)/\w.cell? ⟨Z i,0,none⟩=some (Au Z (V i).par)/\w.cell? ⟨Z i,1,none⟩=some (Au Z (V i).fst)/\w.cell? ⟨Z i,2,none⟩=some (Au Z (V i).lst)/\
  w.cell? ⟨Z i,3,none⟩=some (Au Z (V i).prv)/\w.cell? ⟨Z i,4,none⟩=some (Au Z (V i).nxt)/\w.cell? ⟨Z i,5,none⟩=some (.int .u32 (V i).typ)/\w.cell? ⟨Z i,7,none⟩=some (.string (V i).dat)/\
  ∃aa ac,w.cell? ⟨Z i,9,none⟩=some (.slice aa (V i).ats.length ac)/\w.ownsRow B 133 3 (.slice aa (V i).ats.length ac) (V i).ats.length (CG (V i).ats):=by
 obtain⟨o,aa,ac,t,e⟩:=h.node i a;refine⟨λj=>A7 w _ j _ _ t,?_,?_,?_,?_,?_,?_,?_,aa,ac,?_,e⟩;all_goals (rw[AZ w _ _ _ _ _ t];rfl)
def Hd(e:Nat->Dn)(p c:Nat):Nat->Dn:=
 let l:=(e p).lst
 let s1:=match l with
  |some q=>FL e q ((e q).set 4 (some c))
  |none=>FL e p ((e p).set 1 (some c))
 let s2:=FL s1 p ((s1 p).set 2 (some c))
 let t:=FL s2 c ((s2 c).set 0 (some p))
 FL t c ((t c).set 3 l)
structure GI(S:Nat->Prop)(bl:Nat->Nat)(w w':AB):Prop where
 os:w'.os=w.os
 tape:w'.tape=w.tape
 output:w'.output=w.output
 size:w'.heap.size=w.heap.size
 block:∀b,(∀i,S i->b≠bl i)->w'.heap[b]? =w.heap[b]?
 row:∀i,S i->rowAt w' (bl i)=rowAt w (bl i)
theorem GI.refl(S:Nat->Prop)(bl:Nat->Nat)(w:AB):GI S bl w w:=⟨rfl,rfl,rfl,rfl,λ_ _=>rfl,λ_ _=>rfl⟩
theorem GI.setCell(h:GI S Z w N)(o:S i)(j:Nat)(u:AS)(a:j≠9:=by decide):GI S Z w (N.setCell ⟨Z i,j,none⟩ u):=
 ⟨h.os,h.tape,h.output,by rw[<-h.size];simp[Cb],λb e=>(A8 _ _ _ _ (by exact e i o)).trans (h.block b e),λk t=>(JR _ _ _ _ _ (.inr a)).trans (h.row k t)⟩
def Eh(S:Nat->Prop)(B:Nat)(bl:Nat->Nat)(t:Nat->Dn)(w:AB)(e:Bx)(w':AB):Prop:=
 e= .returned (.tuple #[])/\FK w' B S bl t/\GI S bl w w'
theorem O5(w:AB)(B:Nat)(S:Nat->Prop)(bl:Nat->Nat)(t:Nat->Dn)(h:FK w B S bl t)(p c:Nat)(a:S p)(i:S c)(l:p≠c)
 (g:(t c).par=none)(y:(t c).prv=none)(f:(t c).nxt=none)(r:(t p).lst=none):
 AX AC 99 #[.pointer (some ⟨bl p,0,none⟩),.pointer (some ⟨bl c,0,none⟩)] w (Eh S B bl (Hd t p c) w):=by
 have x:bl p≠bl c:=λe=>l (h.inj p c a i e);obtain⟨s,-,-,p2,-⟩:=h.cells a;obtain⟨d,b,-,-,c3,c4,-⟩:=h.cells i;have p1:=(h.cells a).2.2.1;rw[g]at b;rw[y]at c3;rw[f]at c4;rw[r]at p2;simp only[Au,BF]at b c3 c4 p2;obtain⟨T,n⟩:∃o,Au bl (t p).fst= .pointer o:=⟨_,rfl⟩;rw[n]at p1;have m:FK ((((w.setCell ⟨bl p,1,none⟩ (.pointer (some ⟨bl c,0,none⟩))).setCell ⟨bl p,2,none⟩ (.pointer (some ⟨bl c,0,none⟩))).setCell ⟨bl c,0,none⟩ (.pointer (some ⟨bl p,0,none⟩))).setCell ⟨bl c,3,none⟩ (.pointer none)) B S bl (Hd t p c):=by
  have:=((((h.set a 1 (by omega) (some c)).set a 2 (by omega) (some c)).set i 0 (by omega) (some p)).set i 3 (by omega) none);unfold Hd;rw[r];exact this
 have u:=((((GI.refl S bl w).setCell a 1 (.pointer (some ⟨bl c,0,none⟩))).setCell a 2 (.pointer (some ⟨bl c,0,none⟩))).setCell i 0 (.pointer (some ⟨bl p,0,none⟩))).setCell i 3 (.pointer none);have k:=AA m;have v:=AA u;have j:=s 1;have q:=s 2;have E:=d 0;have z:=d 3;clear m u n g y f r h s d;go_enter func99,ntmps99;go_wp2_with fail
 go_end0;exact⟨rfl,k.o,v.o⟩
theorem O6(w:AB)(B:Nat)(S:Nat->Prop)(bl:Nat->Nat)(t:Nat->Dn)(h:FK w B S bl t)(p c q:Nat)(n:S p)(a:S c)(i:S q)(m:p≠c)(u:q≠c)(l:q≠p)
 (j:(t c).par=none)(k:(t c).prv=none)(v:(t c).nxt=none)(r:(t p).lst=some q):
 AX AC 99 #[.pointer (some ⟨bl p,0,none⟩),.pointer (some ⟨bl c,0,none⟩)] w (Eh S B bl (Hd t p c) w):=by
 have H:bl p≠bl c:=λe=>m (h.inj p c n a e);have E:bl q≠bl c:=λe=>u (h.inj q c i a e);have z:bl q≠bl p:=λe=>l (h.inj q p i n e);obtain⟨y,-,-,p2,-⟩:=h.cells n;obtain⟨d,x,-,-,c3,c4,-⟩:=h.cells a;obtain⟨f,-,-,-,-,T,-⟩:=h.cells i;rw[j]at x;rw[k]at c3;rw[v]at c4;rw[r]at p2;simp only[Au,BF,As]at x c3 c4 p2;obtain⟨L,s⟩:∃o,Au bl (t q).nxt= .pointer o:=⟨_,rfl⟩;rw[s]at T;have b:FK ((((w.setCell ⟨bl q,4,none⟩ (.pointer (some ⟨bl c,0,none⟩))).setCell ⟨bl p,2,none⟩ (.pointer (some ⟨bl c,0,none⟩))).setCell ⟨bl c,0,none⟩ (.pointer (some ⟨bl p,0,none⟩))).setCell ⟨bl c,3,none⟩ (.pointer (some ⟨bl q,0,none⟩))) B S bl (Hd t p c):=by
  have:=((((h.set i 4 (by omega) (some c)).set n 2 (by omega) (some c)).set a 0 (by omega) (some p)).set a 3 (by omega) (some q));unfold Hd;rw[r];exact this
 have g:=((((GI.refl S bl w).setCell i 4 (.pointer (some ⟨bl c,0,none⟩))).setCell n 2 (.pointer (some ⟨bl c,0,none⟩))).setCell a 0 (.pointer (some ⟨bl p,0,none⟩))).setCell a 3 (.pointer (some ⟨bl q,0,none⟩));have O:=AA b;have A:=AA g;have N:=y 2;have I:=f 4;have D:=d 0;have R:=d 3;clear b g s j k v r h y d f;go_enter func99,ntmps99;go_wp2_with fail
 go_end0;exact⟨rfl,O.o,A.o⟩
structure Fo where
 par:Nat->Option Nat
 kids:Nat->List Nat
variable{F:Fo}
theorem Fo.Yv{G:Fo}(t:∀i,F.par i=G.par i)(e:∀i,F.kids i=G.kids i):F=G:=by
 cases F;cases G
 congr
 .exact funext t
 exact funext e
def Fo.cut(F:Fo)(x:Nat):Fo:=⟨λi=>if i=x then none else F.par i,λp=>(F.kids p).filter λc=> !decide (c=x)⟩
def G6(l:List Nat)(k x:Nat):List Nat:=l.take k++x::l.drop k
def Fo.put(F:Fo)(p k x:Nat):Fo:=⟨λi=>if i=x then some p else F.par i,λq=>if q=p then G6 (F.kids q) k x else F.kids q⟩
def Fo.clear(F:Fo)(x:Nat):Fo:=⟨λi=>if F.par i=some x then none else F.par i,λp=>if p=x then[]else F.kids p⟩
structure Fo.Ok(F:Fo)(S:Nat->Prop)(h:Nat->Nat):Prop where
 nodup:∀p,(F.kids p).Nodup
 mem:∀p c,c∈F.kids p↔F.par c=some p
 dom:∀p c,F.par c=some p->S p/\S c
 ht:∀p c,F.par c=some p->h c<h p
theorem CD{l:List Nat}(h:x∉l):l.filter (λc=> !decide (c=x))=l:=by
 rw[List.filter_eq_self];intro a t;have:a≠x:=λe=>h (e▸t);simp[this]
theorem Fo.Ok.ZH(o:F.Ok S h)(hx:F.par x=none)(p:Nat):x∉F.kids p:=λe=>by
 rw[o.mem,hx]at e;cases e
theorem Fo.Y0(o:F.Ok S h)(hx:F.par x=none):F.cut x=F:=by
 refine Fo.Yv (λi=> ?_) (λi=>CD (o.ZH hx i));show(if i=x then none else F.par i)=F.par i;by_cases e:i=x
 .rw[AJ e,e,hx]
 rw[AI e]
theorem Fo.Ok.cut(o:F.Ok S h)(x:Nat):(F.cut x).Ok S h:=by
 have t:∀c p,(F.cut x).par c=some p->F.par c=some p/\c≠x:=by
  intro c p a;change (if c=x then none else F.par c)=some p at a;by_cases e:c=x
  .rw[AJ e]at a;cases a
  rw[AI e]at a;exact⟨a,e⟩
 refine⟨λp=>(o.nodup p).filter _,λp c=> ?_,λp c a=>o.dom p c (t c p a).1,λp c a=>o.ht p c (t c p a).1⟩;show c∈(F.kids p).filter _↔(if c=x then none else F.par c)=some p;rw[Cd,o.mem];by_cases e:c=x
 .simp[e]
 simp[e]
inductive Fo.Up(F:Fo)(x:Nat):Nat->Prop
 |self:F.Up x x
 |step {y p:Nat}:F.par y=some p->F.Up x p->F.Up x y
theorem Fo.Up.ht(o:F.Ok S h){y:Nat}(u:F.Up x y):y=x\/h y<h x:=by
 induction u with
 |self=>exact .inl rfl
 |step t _ e=>
  have:=o.ht _ _ t;rcases e with rfl|e
  .exact .inr this
  exact .inr (by omega)
open Classical in
theorem Fo.Ok.clear(o:F.Ok S h)(x:Nat):(F.clear x).Ok S h:=by
 have t:∀c p,(F.clear x).par c=some p->F.par c=some p/\p≠x:=by
  intro c p a;change (if F.par c=some x then none else F.par c)=some p at a;by_cases e:F.par c=some x
  .rw[AJ e]at a;cases a
  rw[AI e]at a;exact⟨a,λe2=>e (e2▸a)⟩
 refine⟨λp=> ?_,λp c=> ?_,λp c a=>o.dom p c (t c p a).1,λp c a=>o.ht p c (t c p a).1⟩
 .show(if p=x then[]else F.kids p).Nodup;split
  .exact List.nodup_nil
  exact o.nodup p
 show c∈(if p=x then[]else F.kids p)↔(if F.par c=some x then none else F.par c)=some p;by_cases e:p=x
 .subst e;rw[AJ rfl];constructor
  .intro q;cases q
  intro q;by_cases e2:F.par c=some p
  .rw[AJ e2]at q;cases q
  rw[AI e2]at q;exact absurd q e2
 rw[AI e,o.mem];constructor
 .intro q;rw[AI (λe2=>e (by rw[q]at e2;cases e2;rfl))];exact q
 intro q;by_cases e2:F.par c=some x
 .rw[AJ e2]at q;cases q
 rw[AI e2]at q;exact q
theorem Fo.ZK(o:F.Ok S h)(t:F.kids x=[]):F.clear x=F:=by
 refine Fo.Yv (λi=> ?_) (λi=> ?_)
 .show(if F.par i=some x then none else F.par i)=F.par i;rw[AI];intro e;have:=(o.mem x i).2 e;rw[t]at this;cases this
 show(if i=x then[]else F.kids i)=F.kids i;by_cases e:i=x
 .rw[AJ e,e,t]
 rw[AI e]
theorem Fo.ZR(o:F.Ok S h)(a:F.par c=some x):(F.cut c).clear x=F.clear x:=by
 refine Fo.Yv (λi=> ?_) (λi=> ?_)
 .show(if(if i=c then none else F.par i)=some x then none else(if i=c then none else F.par i))=(if F.par i=some x then none else F.par i);by_cases e:i=c
  .rw[AJ e,e,AJ a];rfl
  rw[AI e]
 show(if i=x then[]else(F.kids i).filter _)=(if i=x then[]else F.kids i);by_cases e:i=x
 .rw[AJ e,AJ e]
 rw[AI e,AI e];refine CD λt=> ?_;rw[o.mem,a]at t;cases t
 exact e rfl
theorem Fo.ZQ(o:F.Ok S h){l:List Nat}(t:F.kids x=c::l):(F.cut c).kids x=l:=by
 show(F.kids x).filter _=l;have e:=o.nodup x;rw[t]at e|-;rw[CW];simp only[decide_true,Bool.not_true,Bool.false_eq_true,if_false];exact CD (B4.1 e).1
def Fo.lst(F:Fo):Nat->Nat->List Nat
 |0,x=>[x]
 |d+1,x=>x::(F.kids x).flatMap (F.lst d)
theorem Fo.Yy(o:F.Ok S h):∀(d t x:Nat),h x<=d->h x<=t->F.lst d x=F.lst t x:=by
 have n:∀x,h x=0->F.kids x=[]:=by
  intro x hx;cases e:F.kids x with
  |nil=>rfl
  |cons c l=>
   have:=o.ht x c ((o.mem x c).1 (by rw[e];exact Af));omega
 intro d;induction d with
 |zero=>
  intro t x f m;cases t with
  |zero=>rfl
  |succ t=>simp[Fo.lst,n x (by omega)]
 |succ d u=>
  intro t x f m;cases t with
  |zero=>simp[Fo.lst,n x (by omega)]
  |succ t=>
   show x::(F.kids x).flatMap (F.lst d)=x::(F.kids x).flatMap (F.lst t);congr 1;have:∀l:List Nat,(∀c∈l,c∈F.kids x)->l.flatMap (F.lst d)=l.flatMap (F.lst t):=by
    intro l;induction l with
    |nil=>intro _;rfl
    |cons c l a=>
     intro s;have r:=o.ht x c ((o.mem x c).1 (s c Af));rw[A_,A_,u t c (by omega) (by omega),a (λw i=>s w (Ab _ i))]
   exact this _ (λ_ r=>r)
def Fo.all(F:Fo)(h:Nat->Nat)(x:Nat):List Nat:=F.lst (h x) x
theorem Fo.all_eq(o:F.Ok S h)(x:Nat):F.all h x=x::(F.kids x).flatMap (F.all h):=by
 have e:F.all h x=F.lst (h x+1) x:=F.Yy o _ _ _ (AG _) (by omega);rw[e];show x::(F.kids x).flatMap (F.lst (h x))=_;congr 1;have:∀l:List Nat,(∀c∈l,c∈F.kids x)->l.flatMap (F.lst (h x))=l.flatMap (F.all h):=by
  intro l;induction l with
  |nil=>intro _;rfl
  |cons c l t=>
   intro i;have n:=o.ht x c ((o.mem x c).1 (i c Af));rw[A_,A_,t (λs a=>i s (Ab _ a))];congr 1;exact F.Yy o _ _ _ (by omega) (AG _)
 exact this _ (λ_ n=>n)
theorem Fo.ZD(o:F.Ok S h):∀(d x:Nat),h x<=d->∀y,y∈F.all h x↔F.Up x y:=by
 intro d;induction d with
 |zero=>
  intro x hx y;have w:F.kids x=[]:=by
   cases e:F.kids x with
   |nil=>rfl
   |cons c l=>
    have:=o.ht x c ((o.mem x c).1 (by rw[e];exact Af));omega
  rw[F.all_eq o,w];simp only[List.flatMap_nil,AP];constructor
  .rintro rfl;exact .self
  intro u;rcases u.ht o with e|e
  .exact e
  omega
 |succ d r=>
  intro x hx y;rw[F.all_eq o,BQ,C1];constructor
  .rintro(rfl|⟨c,a,f⟩)
   .exact .self
   have m:=(o.mem x c).1 a;have s:=o.ht x c m;have u:=(r c (by omega) y).1 f;have tr:∀{z:Nat},F.Up c z->F.Up x z:=by
    intro z u;induction u with
    |self=>exact .step m .self
    |step i _ t=>exact .step i t
   exact tr u
  intro u;have tr:∀{z:Nat},F.Up x z->z=x\/∃c,F.par c=some x/\F.Up c z:=by
   intro z u;induction u with
   |self=>exact .inl rfl
   | @step z p i _ t=>
     rcases t with e|⟨c,a,n⟩
     .subst e;exact .inr ⟨z,i,.self⟩
     exact .inr ⟨c,a,.step i n⟩
  rcases tr u with e|⟨c,a,n⟩
  .exact .inl e
  have s:=o.ht x c a;exact .inr ⟨c,(o.mem x c).2 a,(r c (by omega) y).2 n⟩
theorem Fo.Up.uniq(o:F.Ok S h){a b y:Nat}(s:F.par a=some p)(n:F.par b=some p)(u:F.Up a y):F.Up b y->a=b:=by
 induction u with
 |self=>
  intro v;cases v with
  |self=>rfl
  |step t i=>
   rw[s]at t;cases t;have:=o.ht _ _ n;rcases i.ht o with e|e
   .subst e;omega
   omega
 |step t i d=>
  intro v;cases v with
  |self=>
   rw[n]at t;cases t;have:=o.ht _ _ s;rcases i.ht o with e|e
   .subst e;omega
   omega
  |step r l=>rw[t]at r;cases r;exact d l
theorem Fo.Y9(o:F.Ok S h):∀(d x:Nat),h x<=d->(F.all h x).Nodup:=by
 intro d;induction d with
 |zero=>
  intro x hx;have q:F.kids x=[]:=by
   cases e:F.kids x with
   |nil=>rfl
   |cons c l=>
    have:=o.ht x c ((o.mem x c).1 (by rw[e];exact Af));omega
  rw[F.all_eq o,q];exact B4.2 ⟨by simp,List.nodup_nil⟩
 |succ d p=>
  intro x hx;rw[F.all_eq o];refine B4.2 ⟨λk=> ?_,?_⟩
  .obtain⟨c,u,s⟩:=C1.1 k;have v:=(o.mem x c).1 u;have w:=o.ht x c v;rcases((F.ZD o _ c (AG _) x).1 s).ht o with e|e
   .subst e;omega
   omega
  have:∀l:List Nat,(∀c∈l,c∈F.kids x)->l.Nodup->(l.flatMap (F.all h)).Nodup:=by
   intro l;induction l with
   |nil=>intro _ _;exact List.nodup_nil
   |cons c l m=>
    intro r g;rw[A_,BA];have i:=(o.mem x c).1 (r c Af);have w:=o.ht x c i;refine⟨p c (by omega),m (λa t=>r a (Ab _ t)) (B4.1 g).2,λy s z b e=> ?_⟩;subst e;obtain⟨a,t,f⟩:=C1.1 b;have n:=(o.mem x a).1 (r a (Ab _ t));have u1:=(F.ZD o _ c (AG _) y).1 s;have u2:=(F.ZD o _ a (AG _) y).1 f;have:=u1.uniq o i n u2;subst this;exact(B4.1 g).1 t
  exact this _ (λ_ u=>u) (o.nodup x)
def EC:List Nat->Nat->Option Nat
 |[],_=>none
 |x::l,c=>if x=c then l.head? else EC l c
def F6(l:List Nat)(c:Nat):Option Nat:=EC l.reverse c
theorem Bt(l2:List Nat)(c:Nat):∀(l1:List Nat),c∉l1->EC (l1++c::l2) c=l2.head?
 |[],_=>by simp[EC]
 |x::l1,h=>by
  rw[List.cons_append];show(if x=c then _ else EC (l1++c::l2) c)=_;rw[AI (show ¬x=c from λe=>h (e▸Af)),Bt l2 c l1 (λe=>h (Ab _ e))]
theorem CE(l1:List Nat)(c:Nat)(l2:List Nat)(h:c∉l2):F6 (l1++c::l2) c=l1.getLast? :=by
 unfold F6;rw[List.reverse_append,List.reverse_cons,List.append_assoc,List.singleton_append,Bt _ _ _ (by rw[List.mem_reverse];exact h),List.head?_reverse]
theorem CH{l1 l2:List Nat}(h:(l1++c::l2).Nodup):c∉l1/\c∉l2/\l1.Nodup/\l2.Nodup/\∀x∈l1,x∉l2:=by
 rw[BA,B4]at h;obtain⟨n,⟨i,o⟩,t⟩:=h;exact⟨λa=>t c a c Af rfl,i,n,o,λx hx e=>t x hx x (Ab _ e) rfl⟩
structure Il(F:Fo)(i:Nat)(d:Dn):Prop where
 par:d.par=F.par i
 fst:d.fst=(F.kids i).head?
 lst:d.lst=(F.kids i).getLast?
 root:F.par i=none->d.prv=none/\d.nxt=none
 sib:∀p,F.par i=some p->d.prv=F6 (F.kids p) i/\d.nxt=EC (F.kids p) i
def Ii(e:Nat->Dn)(p c:Nat):Nat->Dn:=
 let t:=(e c).prv
 let a:=(e c).nxt
 let s1:=match t with
  |none=>FL e p ((e p).set 1 a)
  |some _=>e
 let s2:=match a with
  |some q=>FL s1 q ((s1 q).set 3 t)
  |none=>s1
 let o:=match a with
  |none=>FL s2 p ((s2 p).set 2 t)
  |some _=>s2
 let s:=match t with
  |some q=>FL o q ((o q).set 4 a)
  |none=>o
 let n:=FL s c ((s c).set 0 none)
 let i:=FL n c ((n c).set 3 none)
 FL i c ((i c).set 4 none)
theorem WK(t:Nat->Dn)(p c:Nat)(n:p≠c)(g:(t c).prv≠some p)(l:(t c).nxt≠some p)(y:(t c).prv≠some c)(h:(t c).nxt≠some c)(w:∀q,(t c).prv=some q->(t c).nxt≠some q)(i:Nat):
 Ii t p c i=if i=c then⟨none,(t c).fst,(t c).lst,none,none,(t c).typ,(t c).dat,(t c).ats⟩
  else if i=p then⟨(t p).par,(if(t c).prv=none then(t c).nxt else(t p).fst),(if(t c).nxt=none then(t c).prv else(t p).lst),(t p).prv,(t p).nxt,(t p).typ,(t p).dat,(t p).ats⟩
  else if(t c).nxt=some i then⟨(t i).par,(t i).fst,(t i).lst,(t c).prv,(t i).nxt,(t i).typ,(t i).dat,(t i).ats⟩
  else if(t c).prv=some i then⟨(t i).par,(t i).fst,(t i).lst,(t i).prv,(t c).nxt,(t i).typ,(t i).dat,(t i).ats⟩
  else t i:=by
 unfold Ii;cases e1:(t c).prv with
 |none=>
  cases e2:(t c).nxt with
  |none=>
   dsimp only;by_cases a:i=c
   .subst a;simp[FL,Dn.set,B9 n]
   by_cases b:i=p
   .subst b;simp[FL,Dn.set,a]
   simp[FL,a,b]
  |some q=>
   rw[e2]at l h;have u:q≠p:=λe=>l (by rw[e]);have o:q≠c:=λe=>h (by rw[e]);dsimp only;by_cases a:i=c
   .subst a;simp[FL,Dn.set,B9 n,B9 o]
   by_cases b:i=p
   .subst b;simp[FL,Dn.set,a,B9 u]
   by_cases d:i=q
   .subst d;simp[FL,Dn.set,a,b]
   simp[FL,a,b,d,B9 d]
 |some r=>
  rw[e1]at g y w;have hr:r≠p:=λe=>g (by rw[e]);have s:r≠c:=λe=>y (by rw[e]);cases e2:(t c).nxt with
  |none=>
   dsimp only;by_cases a:i=c
   .subst a;simp[FL,Dn.set,B9 n,B9 s]
   by_cases b:i=p
   .subst b;simp[FL,Dn.set,a,B9 hr]
   by_cases d:i=r
   .subst d;simp[FL,Dn.set,a,b]
   simp[FL,a,b,d,B9 d]
  |some q=>
   rw[e2]at l h;have u:q≠p:=λe=>l (by rw[e]);have o:q≠c:=λe=>h (by rw[e]);have m:q≠r:=λe=>w r rfl (by rw[e2,e]);dsimp only;by_cases a:i=c
   .subst a;simp[FL,Dn.set,B9 o,B9 s]
   by_cases b:i=p
   .subst b;simp[FL,a,B9 u,B9 hr]
   by_cases d:i=q
   .subst d;simp[FL,Dn.set,a,b,m]
   by_cases f:i=r
   .subst f;simp[FL,Dn.set,a,b,d,B9 d]
   simp[FL,a,b,d,f,B9 d,B9 f]
theorem D3{l:List Nat}(h:c∈l):∃l1 l2,l=l1++c::l2:=List.append_of_mem h
theorem FQ{l1 l2:List Nat}(h:(l1++c::l2).Nodup):(l1++c::l2).filter (λx=> !decide (x=c))=l1++l2:=by
 obtain⟨t,e,_⟩:=CH h;rw[List.filter_append,CW,CD t,CD e];simp
theorem RR(o:F.Ok S h)(M:∀i,S i->Il F i (V i))(D:F.par c=some p):
 ((∀q,(V c).prv=some q->S q/\q≠p/\q≠c/\(V c).nxt≠some q)/\(∀q,(V c).nxt=some q->S q/\q≠p/\q≠c)/\((V p).fst=some c↔(V c).prv=none)/\((V p).lst=some c↔(V c).nxt=none)/\(V c).par=some p/\p≠c)/\
 ∀i,S i->Il (F.cut c) i (Ii V p c i):=by
 obtain⟨B,C⟩:=o.dom p c D;obtain⟨l1,l2,E⟩:=D3 ((o.mem p c).2 D);have U:=o.nodup p;rw[E]at U;obtain⟨n1,n2,n3,n4,n5⟩:=CH U;have A:p≠c:=λe=>by have:=o.ht p c D;rw[e]at this;omega
 have g:(V c).prv=l1.getLast? :=by rw[((M c C).sib p D).1,E,CE _ _ _ n2]
 have u:(V c).nxt=l2.head? :=by rw[((M c C).sib p D).2,E,Bt _ _ _ n1]
 have W:∀q,l1.getLast? =some q->q∈l1:=λq n=>List.mem_of_getLast? n;have L:∀q,l2.head? =some q->q∈l2:=λq n=>List.mem_of_head? n;have r:∀q,q∈l1\/q∈l2->F.par q=some p:=λq n=>by
  rw[<-o.mem,E,AV,BQ];rcases n with n|n
  .exact .inl n
  exact .inr (.inr n)
 have G:∀q,F.par q=some p->q≠p:=λq n e=>by have:=o.ht p q n;rw[e]at this;omega
 have P:∀q,F.par q=some p->S q:=λq n=>(o.dom p q n).2;have Q:∀q,(V c).prv=some q->S q/\q≠p/\q≠c/\(V c).nxt≠some q:=by
  intro q n;rw[g]at n;have hm:=W q n;refine⟨P q (r q (.inl hm)),G q (r q (.inl hm)),λe=>n1 (e▸hm),λe=> ?_⟩;rw[u]at e;exact n5 q hm (L q e)
 have J:∀q,(V c).nxt=some q->S q/\q≠p/\q≠c:=by
  intro q n;rw[u]at n;have hm:=L q n;exact⟨P q (r q (.inr hm)),G q (r q (.inr hm)),λe=>n2 (e▸hm)⟩
 have R:(V p).fst=(l1++c::l2).head? :=by rw[(M p B).fst,E]
 have H:(V p).lst=(l1++c::l2).getLast? :=by rw[(M p B).lst,E]
 have A3:(V p).fst=some c↔(V c).prv=none:=by
  rw[R,g];cases l1 with
  |nil=>simp
  |cons x l=>
   simp only[List.cons_append,List.head?_cons,Option.some.injEq,List.getLast?_eq_none_iff,reduceCtorEq,iff_false];exact λe=>n1 (e▸Af)
 have A4:(V p).lst=some c↔(V c).nxt=none:=by
  rw[H,u];cases l2 with
  |nil=>simp
  |cons x l=>
   rw[List.getLast?_append,List.getLast?_cons_cons];simp only[List.head?_cons,reduceCtorEq,iff_false];intro e;obtain⟨y,hy⟩:∃y,(x::l).getLast? =some y:=by
    cases hh:(x::l).getLast? with
    |none=>simp at hh
    |some y=>exact⟨y,rfl⟩
   rw[hy]at e;simp only[Option.some_or,Option.some.injEq]at e;exact n2 (e▸List.mem_of_getLast? hy)
 refine⟨⟨Q,J,A3,A4,by rw[(M c C).par,D],A⟩,λi hi=> ?_⟩;rw[WK V p c A (λe=>(Q p e).2.1 rfl) (λe=>(J p e).2.1 rfl) (λe=>(Q c e).2.2.1 rfl) (λe=>(J c e).2.2 rfl) (λq n=>(Q q n).2.2.2) i];have O:∀q,q≠p->(F.cut c).kids q=F.kids q:=λq n=>by
  show(F.kids q).filter _=F.kids q;refine CD λhm=>n ?_;rw[o.mem,D]at hm;cases hm;rfl
 have K:(F.cut c).kids p=l1++l2:=by
  show(F.kids p).filter _=_;rw[E];exact FQ U
 have T:∀q,q≠c->(F.cut c).par q=F.par q:=λq n=>by show(if q=c then none else F.par q)=_;rw[AI n]
 have w:=M i hi;by_cases a:i=c
 .subst a;rw[AJ rfl];have Y:(F.cut i).par i=none:=by show(if i=i then none else F.par i)=none;rw[AJ rfl]
  refine⟨Y.symm,?_,?_,λ_=>⟨rfl,rfl⟩,λq n=> ?_⟩
  .rw[O i (B9 A)];exact w.fst
  .rw[O i (B9 A)];exact w.lst
  rw[Y]at n;cases n
 rw[AI a];by_cases b:i=p
 .subst b;rw[AJ rfl];refine⟨by rw[T i a];exact w.par,?_,?_,λhr=>w.root (by rw[<-T i a];exact hr),λq n=> ?_⟩
  .rw[K];show(if(V c).prv=none then(V c).nxt else(V i).fst)=_;rw[g,u,R];cases l1 with
   |nil=>rfl
   |cons x l=>rw[AI (by simp)];rfl
  .rw[K];show(if(V c).nxt=none then(V c).prv else(V i).lst)=_;rw[g,u,H];cases l2 with
   |nil=>simp
   |cons x l=>
    rw[AI (by simp),List.getLast?_append,List.getLast?_append,List.getLast?_cons_cons]
  rw[T i a]at n;have ee:q≠i:=λe=>by have:=o.ht q i n;rw[e]at this;omega
  rw[O q ee];exact w.sib q n
 rw[AI b];have far:F.par i≠some p->Il (F.cut c) i (V i):=by
  intro t;refine⟨by rw[T i a];exact w.par,by rw[O i b];exact w.fst,by rw[O i b];exact w.lst,λhr=>w.root (by rw[<-T i a];exact hr),λq n=> ?_⟩;rw[T i a]at n;rw[O q (λe=>t (e▸n))];exact w.sib q n
 have j:∀d:Dn,F.par i=some p->d.par=(V i).par->d.fst=(V i).fst->d.lst=(V i).lst->d.prv=F6 (l1++l2) i->d.nxt=EC (l1++l2) i->Il (F.cut c) i d:=by
  intro d t e1 e2 e3 e4 e5;refine⟨by rw[T i a,e1];exact w.par,by rw[O i b,e2];exact w.fst,by rw[O i b,e3];exact w.lst,λhr=>(by rw[T i a,t]at hr;cases hr),λq n=> ?_⟩;rw[T i a,t]at n;cases n
  rw[K];exact⟨e4,e5⟩
 have I:F.par i=some p->(V i).prv=F6 (l1++c::l2) i:=λt=>by rw[(w.sib p t).1,E]
 have N:F.par i=some p->(V i).nxt=EC (l1++c::l2) i:=λt=>by rw[(w.sib p t).2,E]
 have s:(l1++l2).Nodup:=by rw[<-K];exact(o.cut c).nodup p
 by_cases d:(V c).nxt=some i
 .rw[AJ d];rw[u]at d;have hm:=L i d;have t:=r i (.inr hm);obtain⟨m,rfl⟩:∃m,l2=i::m:=by
   cases l2 with
   |nil=>cases d
   |cons x l=>simp at d;subst d;exact⟨l,rfl⟩
  obtain⟨k,v,_⟩:=CH s;refine j _ t rfl rfl rfl ?_ ?_
  .show(V c).prv=_;rw[g,CE _ _ _ v]
  show(V i).nxt=_;rw[N t,Bt _ _ _ k];have:l1++c::i::m=(l1++[c])++i::m:=by simp
  rw[this,Bt _ _ _ (by simp[k,a])]
 rw[AI d];by_cases f:(V c).prv=some i
 .rw[AJ f];rw[g]at f;have hm:=W i f;have t:=r i (.inl hm);obtain⟨m,rfl⟩:∃m,l1=m++[i]:=by
   rcases List.eq_nil_or_concat l1 with e|⟨m,x,e⟩
   .subst e;cases f
   subst e;simp at f;subst f;exact⟨m,by simp⟩
  have e1:m++[i]++l2=m++i::l2:=by simp
  have e2:m++[i]++c::l2=m++i::(c::l2):=by simp
  rw[e1]at s j;obtain⟨k,v,_⟩:=CH s;refine j _ t rfl rfl rfl ?_ ?_
  .show(V i).prv=_;rw[I t,CE _ _ _ v,e2,CE _ _ _ (by simp[v,a])]
  show(V c).nxt=_;rw[u,Bt _ _ _ k]
 rw[AI f];by_cases t:F.par i=some p
 .have hm:i∈l1\/i∈l2:=by
   have:=(o.mem p i).2 t;rw[E,AV,BQ]at this;rcases this with q|q|q
   .exact .inl q
   .exact absurd q a
   exact .inr q
  refine j _ t rfl rfl rfl ?_ ?_
  .rw[I t];rcases hm with hm|hm
   .obtain⟨x,y,rfl⟩:=D3 hm;have e1:x++i::y++l2=x++i::(y++l2):=by simp
    have e2:x++i::y++c::l2=x++i::(y++c::l2):=(by simp);rw[e1]at s|-;obtain⟨k,v,_⟩:=CH s;have X:i∉y++c::l2:=by
     rw[AV,BQ];rw[AV]at v;rintro(z|z|z)
     .exact v (.inl z)
     .exact a z
     exact v (.inr z)
    rw[e2,CE _ _ _ X,CE _ _ _ v]
   obtain⟨x,y,rfl⟩:=D3 hm;have e1:l1++(x++i::y)=(l1++x)++i::y:=by simp
   have e2:l1++c::(x++i::y)=(l1++c::x)++i::y:=by simp
   rw[e1]at s|-;obtain⟨k,v,_⟩:=CH s;rw[e2,CE _ _ _ v,CE _ _ _ v];cases x with
   |nil=>exact absurd (by rw[u];rfl) d
   |cons z zs=>rw[List.getLast?_append,List.getLast?_append,List.getLast?_cons_cons]
  rw[N t];rcases hm with hm|hm
  .obtain⟨x,y,rfl⟩:=D3 hm;have e1:x++i::y++l2=x++i::(y++l2):=by simp
   have e2:x++i::y++c::l2=x++i::(y++c::l2):=by simp
   rw[e1]at s|-;obtain⟨k,v,_⟩:=CH s;rw[e2,Bt _ _ _ k,Bt _ _ _ k];cases y with
   |nil=>exact absurd (by rw[g];simp) f
   |cons z zs=>rfl
  obtain⟨x,y,rfl⟩:=D3 hm;have e1:l1++(x++i::y)=(l1++x)++i::y:=by simp
  have e2:l1++c::(x++i::y)=(l1++c::x)++i::y:=by simp
  rw[e1]at s|-;obtain⟨k,v,_⟩:=CH s;have Z:i∉l1++c::x:=by
   rw[AV,BQ];rw[AV]at k;rintro(z|z|z)
   .exact k (.inl z)
   .exact a z
   exact k (.inr z)
  rw[e2,Bt _ _ _ Z,Bt _ _ _ k]
 exact far t
def GG(e:Nat->Dn)(p c:Nat)(o i:Option Nat):Nat->Dn:=
 let s1:=match o with
  |some q=>FL e q ((e q).set 4 (some c))
  |none=>FL e p ((e p).set 1 (some c))
 let s2:=match i with
  |some q=>FL s1 q ((s1 q).set 3 (some c))
  |none=>FL s1 p ((s1 p).set 2 (some c))
 let a:=FL s2 c ((s2 c).set 0 (some p))
 let t:=FL a c ((a c).set 3 o)
 FL t c ((t c).set 4 i)
theorem T7(t:Nat->Dn)(p c:Nat)(n o:Option Nat)(h:p≠c)(k:n≠some p)(y:o≠some p)(v:n≠some c)(w:o≠some c)(g:∀q,n=some q->o≠some q)(i:Nat):
 GG t p c n o i=if i=c then⟨some p,(t c).fst,(t c).lst,n,o,(t c).typ,(t c).dat,(t c).ats⟩
  else if i=p then⟨(t p).par,(if n=none then some c else(t p).fst),(if o=none then some c else(t p).lst),(t p).prv,(t p).nxt,(t p).typ,(t p).dat,(t p).ats⟩
  else if n=some i then⟨(t i).par,(t i).fst,(t i).lst,(t i).prv,some c,(t i).typ,(t i).dat,(t i).ats⟩
  else if o=some i then⟨(t i).par,(t i).fst,(t i).lst,some c,(t i).nxt,(t i).typ,(t i).dat,(t i).ats⟩
  else t i:=by
 unfold GG;cases n with
 |none=>
  cases o with
  |none=>
   dsimp only;by_cases a:i=c
   .subst a;simp[FL,Dn.set,B9 h]
   by_cases b:i=p
   .subst b;simp[FL,Dn.set,a]
   simp[FL,a,b]
  |some q=>
   have m:q≠p:=λe=>y (by rw[e]);have s:q≠c:=λe=>w (by rw[e]);dsimp only;by_cases a:i=c
   .subst a;simp[FL,Dn.set,B9 h,B9 s]
   by_cases b:i=p
   .subst b;simp[FL,Dn.set,a,B9 m]
   by_cases d:i=q
   .subst d;simp[FL,Dn.set,a,b]
   simp[FL,a,b,d,B9 d]
 |some r=>
  have hr:r≠p:=λe=>k (by rw[e]);have u:r≠c:=λe=>v (by rw[e]);cases o with
  |none=>
   dsimp only;by_cases a:i=c
   .subst a;simp[FL,Dn.set,B9 h,B9 u]
   by_cases b:i=p
   .subst b;simp[FL,Dn.set,a,B9 hr]
   by_cases d:i=r
   .subst d;simp[FL,Dn.set,a,b]
   simp[FL,a,b,d,B9 d]
  |some q=>
   have m:q≠p:=λe=>y (by rw[e]);have s:q≠c:=λe=>w (by rw[e]);have l:q≠r:=λe=>g r rfl (by rw[e]);dsimp only;by_cases a:i=c
   .subst a;simp[FL,Dn.set,B9 s,B9 u]
   by_cases b:i=p
   .subst b;simp[FL,a,B9 m,B9 hr]
   by_cases d:i=q
   .subst d;simp[FL,Dn.set,a,b,l,B9 l]
   by_cases f:i=r
   .subst f;simp[FL,Dn.set,a,b,d]
   simp[FL,a,b,d,f,B9 d,B9 f]
theorem Dd(l1 l2:List Nat)(c:Nat):G6 (l1++l2) l1.length c=l1++c::l2:=by
 unfold G6;rw[List.take_left,List.drop_left]
theorem OH(o:F.Ok S h)(M:∀i,S i->Il F i (V i))(hp:S p)(R:S c)(W:F.par c=none)(H:p≠c){l1 l2:List Nat}(j:F.kids p=l1++l2):
 ((∀q,l1.getLast? =some q->S q/\q≠p/\q≠c/\l2.head?≠some q)/\(∀q,l2.head? =some q->S q/\q≠p/\q≠c)/\(V c).par=none/\(V c).prv=none/\(V c).nxt=none)/\
 ∀i,S i->Il (F.put p l1.length c) i (GG V p c l1.getLast? l2.head? i):=by
 have s:=o.nodup p;rw[j]at s;have E:c∉l1++l2:=λhm=>by
  rw[<-j,o.mem,W]at hm;cases hm
 have D:∀q,l1.getLast? =some q->q∈l1:=λq n=>List.mem_of_getLast? n;have N:∀q,l2.head? =some q->q∈l2:=λq n=>List.mem_of_head? n;have r:∀q,q∈l1\/q∈l2->F.par q=some p:=λq n=>by rw[<-o.mem,j,AV];exact n
 have L:∀q,F.par q=some p->q≠p:=λq n e=>by have:=o.ht p q n;rw[e]at this;omega
 have U:∀q,F.par q=some p->S q:=λq n=>(o.dom p q n).2;have dis:∀x∈l1,x∉l2:=λx hx K=>(BA.1 s).2.2 x hx x K rfl;have Y:∀q,l1.getLast? =some q->S q/\q≠p/\q≠c/\l2.head?≠some q:=by
  intro q n;have hm:=D q n;exact⟨U q (r q (.inl hm)),L q (r q (.inl hm)),λe=>E (AV.2 (.inl (e▸hm))),λe=>dis q hm (N q e)⟩
 have G:∀q,l2.head? =some q->S q/\q≠p/\q≠c:=by
  intro q n;have hm:=N q n;exact⟨U q (r q (.inr hm)),L q (r q (.inr hm)),λe=>E (AV.2 (.inr (e▸hm)))⟩
 refine⟨⟨Y,G,by rw[(M c R).par,W],((M c R).root W).1,((M c R).root W).2⟩,λi X=> ?_⟩;rw[T7 V p c _ _ H (λe=>(Y p e).2.1 rfl) (λe=>(G p e).2.1 rfl) (λe=>(Y c e).2.2.1 rfl) (λe=>(G c e).2.2 rfl) (λq n=>(Y q n).2.2.2) i];have T:∀q,q≠p->(F.put p l1.length c).kids q=F.kids q:=λq n=>by show(if q=p then _ else F.kids q)=_;rw[AI n]
 have C:(F.put p l1.length c).kids p=l1++c::l2:=by
  show(if p=p then G6 (F.kids p) l1.length c else _)=_;rw[AJ rfl,j,Dd]
 have k:∀q,q≠c->(F.put p l1.length c).par q=F.par q:=λq n=>by show(if q=c then some p else F.par q)=_;rw[AI n]
 have I:(F.put p l1.length c).par c=some p:=by show(if c=c then some p else F.par c)=_;rw[AJ rfl]
 have u:=M i X;have n1:c∉l1:=λe=>E (AV.2 (.inl e));have n2:c∉l2:=λe=>E (AV.2 (.inr e));by_cases a:i=c
 .subst a;rw[AJ rfl];refine⟨I.symm,by rw[T i (B9 H)];exact u.fst,by rw[T i (B9 H)];exact u.lst,λhr=>(by rw[I]at hr;cases hr),λq n=> ?_⟩;rw[I]at n;cases n
  rw[C];exact⟨(CE _ _ _ n2).symm,(Bt _ _ _ n1).symm⟩
 rw[AI a];by_cases b:i=p
 .subst b;rw[AJ rfl];refine⟨by rw[k i a];exact u.par,?_,?_,λhr=>u.root (by rw[<-k i a];exact hr),λq n=> ?_⟩
  .rw[C];show(if l1.getLast? =none then some c else(V i).fst)=_;rw[u.fst,j];cases l1 with
   |nil=>rfl
   |cons x l=>rw[AI (by simp)];rfl
  .rw[C];show(if l2.head? =none then some c else(V i).lst)=_;rw[u.lst,j];cases l2 with
   |nil=>simp
   |cons x l=>rw[AI (by simp),List.getLast?_append,List.getLast?_append,List.getLast?_cons_cons]
  rw[k i a]at n;have Q:q≠i:=λe=>by have:=o.ht q i n;rw[e]at this;omega
  rw[T q Q];exact u.sib q n
 rw[AI b];have far:F.par i≠some p->Il (F.put p l1.length c) i (V i):=by
  intro t;refine⟨by rw[k i a];exact u.par,by rw[T i b];exact u.fst,by rw[T i b];exact u.lst,λhr=>u.root (by rw[<-k i a];exact hr),λq n=> ?_⟩;rw[k i a]at n;rw[T q (λe=>t (e▸n))];exact u.sib q n
 have v:∀d:Dn,F.par i=some p->d.par=(V i).par->d.fst=(V i).fst->d.lst=(V i).lst->d.prv=F6 (l1++c::l2) i->d.nxt=EC (l1++c::l2) i->Il (F.put p l1.length c) i d:=by
  intro d t e1 e2 e3 e4 Z;refine⟨by rw[k i a,e1];exact u.par,by rw[T i b,e2];exact u.fst,by rw[T i b,e3];exact u.lst,λhr=>(by rw[k i a,t]at hr;cases hr),λq n=> ?_⟩;rw[k i a,t]at n;cases n
  rw[C];exact⟨e4,Z⟩
 have A:F.par i=some p->(V i).prv=F6 (l1++l2) i:=λt=>by rw[(u.sib p t).1,j]
 have O:F.par i=some p->(V i).nxt=EC (l1++l2) i:=λt=>by rw[(u.sib p t).2,j]
 by_cases f:l1.getLast? =some i
 .rw[AJ f];have hm:=D i f;have t:=r i (.inl hm);obtain⟨m,rfl⟩:∃m,l1=m++[i]:=by
   rcases List.eq_nil_or_concat l1 with e|⟨m,x,e⟩
   .subst e;cases f
   subst e;simp at f;subst f;exact⟨m,by simp⟩
  have e1:m++[i]++l2=m++i::l2:=by simp
  have e2:m++[i]++c::l2=m++i::(c::l2):=by simp
  rw[e1]at s;obtain⟨g,w,_⟩:=CH s;refine v _ t rfl rfl rfl ?_ ?_
  .show(V i).prv=_;rw[A t,e1,CE _ _ _ w,e2,CE _ _ _ (by simp[w,a])]
  show some c=_;rw[e2,Bt _ _ _ g];rfl
 rw[AI f];by_cases d:l2.head? =some i
 .rw[AJ d];have hm:=N i d;have t:=r i (.inr hm);obtain⟨m,rfl⟩:∃m,l2=i::m:=by
   cases l2 with
   |nil=>cases d
   |cons x l=>simp at d;subst d;exact⟨l,rfl⟩
  obtain⟨g,w,_⟩:=CH s;have e2:l1++c::i::m=(l1++[c])++i::m:=by simp
  refine v _ t rfl rfl rfl ?_ ?_
  .show some c=_;rw[e2,CE _ _ _ w];simp
  show(V i).nxt=_;rw[O t,Bt _ _ _ g,e2,Bt _ _ _ (by simp[g,a])]
 rw[AI d];by_cases t:F.par i=some p
 .have hm:i∈l1\/i∈l2:=by
   have:=(o.mem p i).2 t
   rwa [j,AV]at this
  refine v _ t rfl rfl rfl ?_ ?_
  .rw[A t];rcases hm with hm|hm
   .obtain⟨x,y,rfl⟩:=D3 hm;have e1:x++i::y++l2=x++i::(y++l2):=by simp
    have e2:x++i::y++c::l2=x++i::(y++c::l2):=(by simp);rw[e1]at s|-;obtain⟨g,w,_⟩:=CH s;have P:i∉y++c::l2:=by
     rw[AV,BQ];rw[AV]at w;rintro(z|z|z)
     .exact w (.inl z)
     .exact a z
     exact w (.inr z)
    rw[e2,CE _ _ _ P,CE _ _ _ w]
   obtain⟨x,y,rfl⟩:=D3 hm;have e1:l1++(x++i::y)=(l1++x)++i::y:=by simp
   have e2:l1++c::(x++i::y)=(l1++c::x)++i::y:=by simp
   rw[e1]at s|-;obtain⟨g,w,_⟩:=CH s;rw[e2,CE _ _ _ w,CE _ _ _ w];cases x with
   |nil=>exact absurd rfl d
   |cons z J=>rw[List.getLast?_append,List.getLast?_append,List.getLast?_cons_cons]
  rw[O t];rcases hm with hm|hm
  .obtain⟨x,y,rfl⟩:=D3 hm;have e1:x++i::y++l2=x++i::(y++l2):=by simp
   have e2:x++i::y++c::l2=x++i::(y++c::l2):=by simp
   rw[e1]at s|-;obtain⟨g,w,_⟩:=CH s;rw[e2,Bt _ _ _ g,Bt _ _ _ g];cases y with
   |nil=>exact absurd (by simp) f
   |cons z J=>rfl
  obtain⟨x,y,rfl⟩:=D3 hm;have e1:l1++(x++i::y)=(l1++x)++i::y:=by simp
  have e2:l1++c::(x++i::y)=(l1++c::x)++i::y:=by simp
  rw[e1]at s|-;obtain⟨g,w,_⟩:=CH s;have B:i∉l1++c::x:=by
   rw[AV,BQ];rw[AV]at g;rintro(z|z|z)
   .exact g (.inl z)
   .exact a z
   exact g (.inr z)
  rw[e2,Bt _ _ _ B,Bt _ _ _ g]
 exact far t
def QE(t:List Nd)(e a:Nat):Prop:=∀i,e<=i->i<a->2<=(t.getD i default).kind/\(t.getD i default).kind<=5/\((t.getD i default).kind≠3->sz t i=1)
def Wn(w:AB)(e:Bx)(w':AB):Prop:=e= .returned (.bool true)/\AL w.heap.size w w'
theorem Tv(a:Option Ai)(c:Nat)(t:List Nd)(ht:t.length<=200)(d:Nat):∀(l s:Nat) (I J:Int) (w:AB),I=l->J=s->s<=l+d->Gp w w.heap.size a t->s<=t.length->l<=s->Gu t l s->QE t l s->
 AX AC 124 #[.slice a t.length c,.int .i64 I,.int .i64 J] w (Wn w):=by
 induction d with
 |zero=>
  rintro l s I J w rfl rfl hd h B G A N;clear A N;go_enter func124,ntmps124;go_wp2_with fail;refine wp_loop_rounds 1 ?_;rw[rounds_succ];go_wp2;go_ret;exact⟨rfl,AW _ _⟩
 |succ d K=>
  rintro l s I J w rfl rfl hd h B G A N;have Z:=AA K;have W:=AA A;have X:=AA N;have Y:=AA h;clear K A N h;go_enter func124,ntmps124;go_wp2;go_loopw [1] (λx wr=>∃m:Nat,l<=m/\m<=s/\x= .int .i64 m/\AL w.heap.size w wr) (λx _=>s-(Aa x).toNat)
  .exact⟨l,by omega,by omega,rfl,AW _ _⟩
  obtain⟨m,g,hm2,rfl,u⟩:=hrel;by_cases v:m<s
  .have y:m<t.length:=by omega
   obtain⟨b,o,rfl,r,Q⟩:=Y.o.at_ (by omega);obtain⟨D,R,H,S,E,-⟩:=Q m y;clear Q;obtain⟨l1,l2,l3,-⟩:=W.o m g v;obtain⟨F,M,z⟩:=X.o m g v;rw[Ep y l1]at E;rw[Do y]at F M z;replace D:=(u.cell (p:=⟨b,_,none⟩) r).trans D;replace R:=(u.cell (p:=⟨b,_,none⟩) r).trans R;replace H:=(u.cell (p:=⟨b,_,none⟩) r).trans H;replace S:=(u.cell (p:=⟨b,_,none⟩) r).trans S;replace E:=(u.cell (p:=⟨b,_,none⟩) r).trans E;clear l1;obtain⟨x,hx⟩:∃x,x=t[m]:=⟨_,rfl⟩;rw[<-hx]at D R H S F M z;clear hx;have f:∀O,AL w.heap.size w (wr.alloc O):=λO=>u.alloc u.size O;have U:=AA f;have q:Hid (Gu t (m+1) (m+sz t m)):=by
    intro i P T;obtain⟨q1,q2,q3,q4⟩:=W.o i (by omega) (by omega);exact⟨q1,q2,by have:=(W.o m g v).2.2.2 i (by omega) T;omega,q4⟩
   have j:Hid (QE t (m+1) (m+sz t m)):=λi P T=>X.o i (by omega) (by omega);clear f;by_cases L:x.kind=3
   .obtain⟨kd,tag,text,aa,ac,attrs,size⟩:=x;dsimp only at L D R H S F M z;subst L;clear z;go_wp2_with fail;refine(Z.o (m+1) (m+sz t m) _ _ _ (by omega) (by omega) (by omega) (Y.o.up (U.o _)) (by omega) (by omega) q.o j.o).mono ?_;rintro e C ⟨rfl,n⟩;have k:=BT (U.o _) n;have V:C.cell? ⟨wr.heap.size,4,none⟩=some (.int .i64 (sz t m:Int)):=by
     rw[n.cell (p:=⟨wr.heap.size,4,none⟩) (by simp),BI];rfl
    clear n;go_wp2;go_roundw
    .exact⟨m+sz t m,by omega,by omega,by go_num,k⟩
    simp[Aa];omega
   have s1:=z L;have z3:(x.kind==3)=false:=CY.2 L;clear z;rw[s1]at E l2 l3 q j;have S1:=AA s1;clear s1;replace E:wr.cell? ⟨b,o+m*5+4,none⟩=some (.int .i64 1):=E;clear l2;go_wp2_with fail;refine(Z.o (m+1) (m+1) _ _ _ (by omega) (by omega) (by omega) (Y.o.up (U.o _)) (by omega) (by omega) q.o j.o).mono ?_;rintro e C ⟨rfl,n⟩;have k:=BT (U.o _) n;have V:C.cell? ⟨wr.heap.size,4,none⟩=some (.int .i64 1):=by
    rw[n.cell (p:=⟨wr.heap.size,4,none⟩) (by simp),BI];rfl
   clear n;go_wp2;go_roundw
   .exact⟨m+1,by omega,by omega,by go_num,k⟩
   simp[Aa];omega
  go_wp2;go_ret;exact⟨rfl,u⟩
theorem CQ.kids(h:CQ t):QE t 1 t.length:=by
 intro i n e;rw[Do e];have s:=Ep e (h.lam i (by omega) e).1;rcases(h.node i e).kinds with⟨_,r⟩|⟨a,o,_⟩|⟨a,_⟩|⟨a,o⟩
 .omega
 .rw[a];exact⟨by omega,by omega,λ_=>by omega⟩
 .rw[a];exact⟨by omega,by omega,λh=>absurd rfl h⟩
 exact⟨by omega,by omega,λ_=>by omega⟩
theorem Qd(a:Option Ai)(c:Nat)(t:List Nd)(w:AB)(h:Gp w w.heap.size a t)(i:CQ t):
 AX AC 94 #[.slice a t.length c] w (Wn w):=by
 have n:=i.pos;have d:=i.le;obtain⟨b,o,rfl,y,r⟩:=h.at_ n;have f1:=(r 0 n).1;have u:=(r 0 n).2.2.2.2.1;rw[Ep n (i.lam 0 (by omega) n).1,i.top]at u;have s:=i.root;rw[Do n]at s;rw[s]at f1;simp only[Nat.zero_mul,Dj]at f1 u;have g:((t.length:Int)==0)=false:=CY.2 (by omega);have f:=AA h;have m:=AA i;clear r s h i;go_enter func94,ntmps94;go_wp2_with fail;refine(Tv _ _ t d t.length 1 t.length _ _ _ (by rfl) rfl (by omega) f.o (by omega) (by omega) (m.o.lam.from_ (by omega)) m.o.kids).mono ?_;rintro e p ⟨rfl,l⟩;go_wp2;go_ret;exact⟨rfl,l⟩
def Es(ext:Nat->Nat)(a p i:Nat):Prop:=a<=p/\p<i/\i<p+ext p/\∀m,p<m->m<i->m+ext m<=i
theorem Es.uniq{ext:Nat->Nat}{a q:Nat}(h:Es ext a p i)(k:Es ext a q i):p=q:=by
 obtain⟨u,s,l,n⟩:=h;obtain⟨d,o,r,t⟩:=k;rcases Nat.lt_trichotomy p q with e|e|e
 .have:=n q e o;omega
 .exact e
 have:=t p e s;omega
structure N7(ext:Nat->Nat)(a i:Nat)(d:Dn):Prop where
 fst:d.fst=if 1<ext i then some (i+1)else none
 lst0:¬1<ext i->d.lst=none
 lst1:1<ext i->∃k,d.lst=some k/\Es ext a i k/\k+ext k=i+ext i
 root:i=a->d.par=none/\d.prv=none/\d.nxt=none
 kin:i≠a->∃p,Es ext a p i/\d.par=some p/\d.nxt=(if i+ext i<p+ext p then some (i+ext i)else none)/\(i=p+1->d.prv=none)/\
  (i≠p+1->∃q,d.prv=some q/\Es ext a p q/\q+ext q=i)
structure Ex(x:Nd)(d:Dn):Prop where
 typ:d.typ=Ic x.kind
 dat:d.dat=PE x
 ats:d.ats=CU x
def DC(t:List Nd)(a k:Nat)(i:Nat):Nat:=if i=a then k-a else sz t i
theorem CM(t:List Nd)(a k:Nat):DC t a k a=k-a:=by simp[DC]
theorem Cg(t:List Nd)(a k i:Nat)(h:i≠a):DC t a k i=sz t i:=by simp[DC,h]
def Xe(t:List Nd)(a k:Nat)(e:Nat->Dn):Prop:=∀i,a<=i->i<k->N7 (DC t a k) a i (e i)/\Ex (t.getD i default) (e i)
def FU{α:Type}(k:Nat)(f g:Nat->α):Nat->α:=λi=>if i<k then f i else g i
theorem DD{α:Type}{f g:Nat->α}(h:i<k):FU k f g i=f i:=by simp[FU,h]
theorem C8{α:Type}{f g:Nat->α}(h:k<=i):FU k f g i=g i:=by simp[FU];omega
theorem Hm{a s:Nat}(f:k<=s)(c:i<k)(h:Es (DC t a k) a p i):Es (DC t a s) a p i:=by
 obtain⟨u,l,r,d⟩:=h;refine⟨u,l,?_,λm n o=> ?_⟩
 .by_cases e:p=a
  .subst e;rw[CM];omega
  rw[Cg _ _ _ _ e]at r|-;exact r
 have:=d m n o;rw[Cg _ _ _ _ (by omega)]at this|-;exact this
theorem Ge{a j:Nat}(o:a<k)(i:k<=j):DC t a (k+sz t k) j=DC t k (k+sz t k) j:=by
 rw[Cg _ _ _ _ (by omega)];by_cases e:j=k
 .subst e;rw[CM];omega
 rw[Cg _ _ _ _ e]
theorem Jq{a:Nat}(e:a<k)(h:Es (DC t k (k+sz t k)) k p i):Es (DC t a (k+sz t k)) a p i:=by
 obtain⟨l,d,r,s⟩:=h;refine⟨by omega,d,?_,λm n o=> ?_⟩
 .rw[Ge e l];exact r
 have:=s m n o;rw[Ge e (by omega)];exact this
theorem JI{a:Nat}(o:a<k)(i:Gu t (a+1) k)(s:1<=sz t k):Es (DC t a (k+sz t k)) a a k:=by
 refine⟨AG _,o,by rw[CM];omega,λm n e=> ?_⟩;rw[Cg _ _ _ _ (by omega)];exact(i m (by omega) e).2.2.1
theorem Vy(t:List Nd)(a:Nat)(d:Dn)(e:Ex (t.getD a default) d)(l:d.par=none)(r:d.fst=none)(s:d.lst=none)(n:d.prv=none)(o:d.nxt=none):Xe t a (a+1) (λ_=>d):=by
 intro i c u;obtain rfl:i=a:=by omega
 refine⟨⟨?_,λ_=>s,λh=> ?_,λ_=>⟨l,n,o⟩,λh=>absurd rfl h⟩,e⟩
 .rw[CM,r,AI (by omega)]
 rw[CM]at h;omega
theorem UI{a:Nat}{o:Nat->Dn}(s:a<k)(I:Gu t (a+1) k)(M:1<=sz t k)(x:Xe t a k V)(S:Xe t k (k+sz t k) o):
 Xe t a (k+sz t k) (Hd (FU k V o) a k):=by
 have r:=x a (AG _) s;have c:=S k (AG _) (by omega);have T:FU k V o a=V a:=DD s;have L:FU k V o k=o k:=C8 (AG _);obtain⟨r1,r2,r3⟩:=c.1.root rfl;have w:∀i,k<=i->i<k+sz t k->∀d:Dn,d.fst=(o i).fst->d.lst=(o i).lst->
  d.fst=(if 1<DC t a (k+sz t k) i then some (i+1)else none)/\(¬1<DC t a (k+sz t k) i->d.lst=none)/\
  (1<DC t a (k+sz t k) i->∃m,d.lst=some m/\Es (DC t a (k+sz t k)) a i m/\m+DC t a (k+sz t k) m=i+DC t a (k+sz t k) i):=by
  intro i f n d e1 e2;have E:=(S i f n).1;rw[Ge s f,e1,e2];refine⟨E.fst,E.lst0,λhx=> ?_⟩;obtain⟨m,W,O,F⟩:=E.lst1 hx;refine⟨m,W,Jq s O,?_⟩;rw[Ge s (by have:=O.2.1;omega)];exact F
 have low:∀i,a<i->i<k->∀d:Dn,d.fst=(V i).fst->d.lst=(V i).lst->
  d.fst=(if 1<DC t a (k+sz t k) i then some (i+1)else none)/\(¬1<DC t a (k+sz t k) i->d.lst=none)/\
  (1<DC t a (k+sz t k) i->∃m,d.lst=some m/\Es (DC t a (k+sz t k)) a i m/\m+DC t a (k+sz t k) m=i+DC t a (k+sz t k) i):=by
  intro i f n d e1 e2;have E:=(x i (by omega) n).1;have X:DC t a (k+sz t k) i=DC t a k i:=by rw[Cg _ _ _ _ (by omega),Cg _ _ _ _ (by omega)]
  rw[X,e1,e2];refine⟨E.fst,E.lst0,λhx=> ?_⟩;obtain⟨m,W,O,F⟩:=E.lst1 hx;have Q:m<k:=by
   have:=(I i (by omega) n).2.2.1;have J:=O.2.2.1;rw[Cg _ _ _ _ (by omega)]at J;omega
  refine⟨m,W,Hm (by omega) Q O,?_⟩;have em:DC t a (k+sz t k) m=DC t a k m:=by have:=O.2.1;rw[Cg _ _ _ _ (by omega),Cg _ _ _ _ (by omega)]
  rw[em];exact F
 have j:∀i,a<i->i<k->∀p,Es (DC t a k) a p i->p≠a\/i+sz t i<k->(V i).nxt=(if i+DC t a k i<p+DC t a k p then some (i+DC t a k i)else none)->
  (V i).nxt=(if i+DC t a (k+sz t k) i<p+DC t a (k+sz t k) p then some (i+DC t a (k+sz t k) i)else none):=by
  intro i f n p hp P D;rw[Cg _ _ _ _ (show i≠a by omega)]at D|-;rw[D];by_cases e:p=a
  .subst e;rcases P with h|h
   .exact absurd rfl h
   rw[CM,CM,AJ (by omega),AJ (by omega)]
  rw[Cg _ _ _ _ e,Cg _ _ _ _ e]
 have y:∀i p,i<k->(∃q,(V i).prv=some q/\Es (DC t a k) a p q/\q+DC t a k q=i)->∃q,(V i).prv=some q/\Es (DC t a (k+sz t k)) a p q/\q+DC t a (k+sz t k) q=i:=by
  rintro i p hi ⟨q,N,g,A⟩;have v:q≠a:=by have:=g.1;have:=g.2.1;omega
  rw[Cg _ _ _ _ v]at A;refine⟨q,N,Hm (by omega) (by omega) g,by rw[Cg _ _ _ _ v];exact A⟩
 have u:∀i,k<i->i<k+sz t k->∃p,Es (DC t a (k+sz t k)) a p i/\(o i).par=some p/\(o i).nxt=(if i+DC t a (k+sz t k) i<p+DC t a (k+sz t k) p then some (i+DC t a (k+sz t k) i)else none)/\
  (i=p+1->(o i).prv=none)/\(i≠p+1->∃q,(o i).prv=some q/\Es (DC t a (k+sz t k)) a p q/\q+DC t a (k+sz t k) q=i):=by
  intro i f n;obtain⟨p,p1,p2,p3,p4,p5⟩:=(S i (by omega) n).1.kin (by omega);refine⟨p,Jq s p1,p2,?_,p4,λh=> ?_⟩
  .rw[Ge s (by omega),Ge s p1.1];exact p3
  obtain⟨q,N,g,A⟩:=p5 h;refine⟨q,N,Jq s g,?_⟩;rw[Ge s (by have:=g.1;have:=g.2.1;omega)];exact A
 by_cases Y:k=a+1
 .have U:(V a).lst=none:=r.1.lst0 (by rw[CM];omega);intro i f n;unfold Hd;rw[T,U];dsimp only;by_cases e1:i=k
  .subst e1;rw[Dq,Dq,Ch _ _ _ _ (by omega),Ch _ _ _ _ (by omega),L];obtain⟨f1,f2,b⟩:=w i (AG _) (by omega) (((o i).set 0 (some a)).set 3 none) rfl rfl;refine⟨⟨f1,f2,b,λe=>absurd e (by omega),λ_=>⟨a,JI s I M,rfl,?_,λ_=>rfl,λh=>absurd Y h⟩⟩,c.2.typ,c.2.dat,c.2.ats⟩;show(o i).nxt=_;rw[r3,CM,Cg _ _ _ _ (by omega),AI (by omega)]
  rw[Ch _ _ _ _ e1,Ch _ _ _ _ e1];by_cases e2:i=a
  .subst e2;rw[Dq,Dq];refine⟨⟨?_,λh=>absurd (by rw[CM];omega) h,λ_=>⟨k,rfl,JI s I M,?_⟩,λ_=>r.1.root rfl,λh=>absurd rfl h⟩,r.2.typ,r.2.dat,r.2.ats⟩
   .show some k=_;rw[CM,AJ (by omega),Y]
   rw[CM,Cg _ _ _ _ (by omega)];omega
  rw[Ch _ _ _ _ e2,Ch _ _ _ _ e2,C8 (by omega)];obtain⟨f1,f2,b⟩:=w i (by omega) n (o i) rfl rfl;exact⟨⟨f1,f2,b,λe=>absurd e e2,λ_=>u i (by omega) n⟩,(S i (by omega) n).2⟩
 obtain⟨q,N,g,A⟩:=r.1.lst1 (by rw[CM];omega);have v:a<q:=g.2.1;have R:q+sz t q=k:=by rw[CM,Cg _ _ _ _ (by omega)]at A;omega
 have l:q<k:=by have:=g.2.2.1;rw[CM]at this;omega
 have B:FU k V o q=V q:=DD l;have C:(V a).fst=some (a+1):=by rw[r.1.fst,CM,AJ (by omega)]
 intro i f n;unfold Hd;rw[T,N];dsimp only;by_cases e1:i=k
 .subst e1;rw[Dq,Dq,Ch _ _ _ _ (by omega),Ch _ _ _ _ (by omega),L];obtain⟨f1,f2,b⟩:=w i (AG _) (by omega) (((o i).set 0 (some a)).set 3 (some q)) rfl rfl;refine⟨⟨f1,f2,b,λe=>absurd e (by omega),λ_=>⟨a,JI s I M,rfl,?_,λh=>absurd h Y,λ_=>⟨q,rfl,Hm (by omega) l g,?_⟩⟩⟩,c.2.typ,c.2.dat,c.2.ats⟩
  .show(o i).nxt=_;rw[r3,CM,Cg _ _ _ _ (by omega),AI (by omega)]
  rw[Cg _ _ _ _ (by omega)];exact R
 rw[Ch _ _ _ _ e1,Ch _ _ _ _ e1];by_cases e2:i=a
 .subst e2;rw[Dq,Ch _ _ _ _ (by omega),T];refine⟨⟨?_,λh=>absurd (by rw[CM];omega) h,λ_=>⟨k,rfl,JI s I M,?_⟩,λ_=>r.1.root rfl,λh=>absurd rfl h⟩,r.2.typ,r.2.dat,r.2.ats⟩
  .show(V i).fst=_;rw[C,CM,AJ (by omega)]
  rw[CM,Cg _ _ _ _ (by omega)];omega
 rw[Ch _ _ _ _ e2];by_cases G:i=q
 .subst G;rw[Dq,B];obtain⟨f1,f2,b⟩:=low i v l ((V i).set 4 (some k)) rfl rfl;obtain⟨p,p1,p2,p3,p4,p5⟩:=(x i (by omega) l).1.kin (by omega);obtain rfl:p=a:=p1.uniq g;refine⟨⟨f1,f2,b,λe=>absurd e e2,λ_=>⟨p,Hm (by omega) l p1,p2,?_,p4,λh=>y i p l (p5 h)⟩⟩,(x i (by omega) l).2.typ,(x i (by omega) l).2.dat,(x i (by omega) l).2.ats⟩;show some k=_;rw[CM,Cg _ _ _ _ e2,AJ (by omega),R]
 rw[Ch _ _ _ _ G];by_cases z:i<k
 .rw[DD z];obtain⟨f1,f2,b⟩:=low i (by omega) z (V i) rfl rfl;obtain⟨p,p1,p2,p3,p4,p5⟩:=(x i (by omega) z).1.kin e2;refine⟨⟨f1,f2,b,λe=>absurd e e2,λ_=>⟨p,Hm (by omega) z p1,p2,j i (by omega) z p p1 ?_ p3,p4,λh=>y i p z (p5 h)⟩⟩,(x i (by omega) z).2⟩;by_cases K:p=a
  .right;have Z:=(I i (by omega) z).2.2.1;rcases Be (i+sz t i) k with h|h
   .exact h
   exfalso;subst K;rcases Nat.lt_trichotomy i q with H|H|H
   .have:=g.2.2.2 i (by omega) H;rw[Cg _ _ _ _ (by omega)]at this;omega
   .exact G H
   have:=p1.2.2.2 q v H;rw[Cg _ _ _ _ (by omega)]at this;omega
  exact .inl K
 rw[C8 (by omega)];obtain⟨f1,f2,b⟩:=w i (by omega) n (o i) rfl rfl;exact⟨⟨f1,f2,b,λe=>absurd e e2,λ_=>u i (by omega) n⟩,(S i (by omega) n).2⟩
theorem Bf{t e size:Nat}{xs:List AS}(h:w.ownsRow A e size v n xs)(d:t<=A):w.ownsRow t e size v n xs:=by
 refine⟨h.1,?_⟩;rcases h.2 with i|⟨g,cap,a,o,s,r⟩
 .exact .inl i
 exact .inr ⟨g,cap,a,o,by omega,r⟩
theorem BB{e size:Nat}{xs:List AS}(h:w.ownsRow A e size v n xs)(s:∀b,A<=b->b<w.heap.size->N.heap[b]? =w.heap[b]?):N.ownsRow A e size v n xs:=by
 refine⟨h.1,?_⟩;rcases h.2 with d|⟨g,cap,t,i,o,a,r⟩
 .exact .inl d
 refine .inr ⟨g,cap,t,i,o,?_,r⟩;rw[s g o (AE.1 a).1];exact a
theorem FK.kept{w':AB}(h:FK w B S Z V)(n:∀b,B<=b->b<w.heap.size->w'.heap[b]? =w.heap[b]?):FK w' B S Z V:=by
 have hr:∀i,S i->rowAt w' (Z i)=rowAt w (Z i):=λi t=>by
  obtain⟨o,aa,ac,a,e⟩:=h.node i t;exact Ce (n _ o (AE.1 a).1)
 refine⟨λi t=> ?_,h.inj,λi j t r s g=>by rw[hr i t,hr j r];exact h.sep i j t r s g⟩;obtain⟨o,aa,ac,a,e⟩:=h.node i t;exact⟨o,aa,ac,by rw[n _ o (AE.1 a).1];exact a,BB e n⟩
theorem FK.lt(h:FK w B S Z V)(t:S i):Z i<w.heap.size:=by
 obtain⟨o,aa,ac,a,e⟩:=h.node i t;exact(AE.1 a).1
theorem FK.ak(h:FK w B S Z V)(t:S i)(r:Nat)(hr:rowAt w (Z i)=some r):B<=r/\r<w.heap.size:=by
 obtain⟨o,aa,ac,a,e⟩:=h.node i t;rw[E4 a]at hr;exact e.lt r hr
theorem FK.Zd(h:FK w B S Z V)(o:∀i,S i->N.heap[Z i]? =w.heap[Z i]?):∀i j,S i->S j->i≠j->∀g,rowAt N (Z i)=some g->rowAt N (Z j)≠some g:=by
 intro i j a t e g;rw[Ce (o i a),Ce (o j t)];exact h.sep i j a t e g
theorem FK.aV(h:FK w B S Z V)(t:∀b,B<=b->b<w.heap.size->N.heap[b]? =w.heap[b]?)(e:S i)(r:Nat)(hr:rowAt N (Z i)=some r):r<w.heap.size:=by
 rw[Ce (t _ (h.node i e).1 (h.lt e))]at hr;exact(h.ak e r hr).2
structure Dn.In(lo hi:Nat)(d:Dn):Prop where
 par:∀j,d.par=some j->lo<=j/\j<hi
 fst:∀j,d.fst=some j->lo<=j/\j<hi
 lst:∀j,d.lst=some j->lo<=j/\j<hi
 prv:∀j,d.prv=some j->lo<=j/\j<hi
 nxt:∀j,d.nxt=some j->lo<=j/\j<hi
theorem F3{o:Option Nat}(h:∀j,o=some j->C j=Z j):Au C o=Au Z o:=by
 cases o with
 |none=>rfl
 |some j=>simp[Au,h j rfl]
theorem Jh{a o:Nat}{d:Dn}(t:d.In a o)(h:∀j,a<=j->j<o->C j=Z j)(aa:Option Ai)(ac:Nat):El C d aa ac=El Z d aa ac:=by
 unfold El;rw[F3 (λj e=>h j (t.par j e).1 (t.par j e).2),F3 (λj e=>h j (t.fst j e).1 (t.fst j e).2),F3 (λj e=>h j (t.lst j e).1 (t.lst j e).2),
  F3 (λj e=>h j (t.prv j e).1 (t.prv j e).2),F3 (λj e=>h j (t.nxt j e).1 (t.nxt j e).2)]
theorem UH{a:Nat}(c:Gu t (a+1) k)(b:Xe t a k V):∀i,a<=i->i<k->(V i).In a k:=by
 intro i d r;have o:=(b i d r).1;have top:∀p,a<=p->p<k->p+DC t a k p<=k:=by
  intro p l n;by_cases e:p=a
  .subst e;rw[CM];omega
  rw[Cg _ _ _ _ e];exact(c p (by omega) n).2.2.1
 have pos:∀p,a<p->p<k->1<=DC t a k p:=by
  intro p l n;rw[Cg _ _ _ _ (by omega)];exact(c p (by omega) n).2.1
 have z:=top i d r;refine⟨?_,?_,?_,?_,?_⟩
 .intro j e;by_cases h:i=a
  .rw[(o.root h).1]at e;cases e
  obtain⟨p,p1,p2,_⟩:=o.kin h;rw[p2]at e;cases e;exact⟨p1.1,by have:=p1.2.1;omega⟩
 .intro j e;rw[o.fst]at e;by_cases h:1<DC t a k i
  .rw[AJ h]at e;cases e;omega
  rw[AI h]at e;cases e
 .intro j e;by_cases h:1<DC t a k i
  .obtain⟨m,g,y,I⟩:=o.lst1 h;rw[g]at e;cases e;obtain⟨O,A,T,_⟩:=y;exact⟨by omega,by omega⟩
  rw[o.lst0 h]at e;cases e
 .intro j e;by_cases h:i=a
  .rw[(o.root h).2.1]at e;cases e
  obtain⟨p,p1,p2,p3,p4,p5⟩:=o.kin h;by_cases s:i=p+1
  .rw[p4 s]at e;cases e
  obtain⟨q,w,u,E⟩:=p5 s;rw[w]at e;cases e;have x:=u.1;have v:=u.2.1;rcases Be j k with f|f
  .exact⟨by omega,f⟩
  omega
 intro j e;by_cases h:i=a
 .rw[(o.root h).2.2]at e;cases e
 obtain⟨p,p1,p2,p3,p4,p5⟩:=o.kin h;rw[p3]at e;by_cases s:i+DC t a k i<p+DC t a k p
 .rw[AJ s]at e;cases e;have:=top p p1.1 (by have:=p1.2.1;omega);omega
 rw[AI s]at e;cases e
theorem FK.join{g a y:Nat}{f:Nat->Nat}{d:Nat->Dn}(T:a<=k)(b:FK w B (λi=>a<=i/\i<k) Z V)(h:FK w g (λi=>k<=i/\i<y) f d)(E:B<=g)
 (u:∀i,a<=i->i<k->Z i<g)(c:∀i,a<=i->i<k->∀r,rowAt w (Z i)=some r->r<g)(z:∀i,a<=i->i<k->(V i).In a k)(x:∀i,k<=i->i<y->(d i).In k y):
 FK w B (λi=>a<=i/\i<y) (FU k Z f) (FU k V d):=by
 refine⟨λi o=> ?_,λi j o n e=> ?_,λi j o n l r hr t=> ?_⟩
 rotate_left 2
 .by_cases e1:i<k
  .by_cases e2:j<k
   .rw[DD e1]at hr;rw[DD e2]at t;exact b.sep i j ⟨o.1,e1⟩ ⟨n.1,e2⟩ l r hr t
   rw[DD e1]at hr;rw[C8 (by omega)]at t;have q:=c i o.1 e1 r hr;have v:=(h.ak ⟨by omega,n.2⟩ r t).1;omega
  by_cases e2:j<k
  .rw[C8 (by omega)]at hr;rw[DD e2]at t;have q:=c j n.1 e2 r t;have v:=(h.ak ⟨by omega,o.2⟩ r hr).1;omega
  rw[C8 (by omega)]at hr t;exact h.sep i j ⟨by omega,o.2⟩ ⟨by omega,n.2⟩ l r hr t
 .by_cases e:i<k
  .obtain⟨m,aa,ac,p,s⟩:=b.node i ⟨o.1,e⟩;rw[DD e,DD e];exact⟨m,aa,ac,by rw[Jh (z i o.1 e) (λj _ n=>DD n)];exact p,s⟩
  obtain⟨m,aa,ac,p,s⟩:=h.node i ⟨by omega,o.2⟩;rw[C8 (by omega),C8 (by omega)];exact⟨by omega,aa,ac,by rw[Jh (x i (by omega) o.2) (λj n _=>C8 n)];exact p,Bf s E⟩
 by_cases e1:i<k
 .by_cases e2:j<k
  .rw[DD e1,DD e2]at e;exact b.inj i j ⟨o.1,e1⟩ ⟨n.1,e2⟩ e
  rw[DD e1,C8 (by omega)]at e;have q:=u i o.1 e1;have v:=(h.node j ⟨by omega,n.2⟩).1;omega
 by_cases e2:j<k
 .rw[C8 (by omega),DD e2]at e;have q:=u j n.1 e2;have v:=(h.node i ⟨by omega,o.2⟩).1;omega
 rw[C8 (by omega),C8 (by omega)]at e;exact h.inj i j ⟨by omega,o.2⟩ ⟨by omega,n.2⟩ e
theorem MJ(w:AB)(B:Nat)(S:Nat->Prop)(bl:Nat->Nat)(t:Nat->Dn)(h:FK w B S bl t)(p c:Nat)(i:S p)(n:S c)(a:p≠c)
 (d:(t c).par=none)(r:(t c).prv=none)(s:(t c).nxt=none)(o:∀q,(t p).lst=some q->S q/\q≠c/\q≠p):
 AX AC 99 #[.pointer (some ⟨bl p,0,none⟩),.pointer (some ⟨bl c,0,none⟩)] w (Eh S B bl (Hd t p c) w):=by
 cases e:(t p).lst with
 |none=>exact O5 w B S bl t h p c i n a d r s e
 |some q=>exact O6 w B S bl t h p c q i n (o q e).1 a (o q e).2.1 (o q e).2.2 d r s e
theorem SA(t:List Nd)(i:Nat)(o:i<t.length)(h:CQ t)(w:AB)(hx:t[i].Ok w w.heap.size)(s:Int)(a:s=t[i].size):
 AX AC 125 #[.agg #[.int .i64 t[i].kind,.string t[i].tag,.string t[i].text,.slice t[i].aa t[i].attrs.length t[i].ac,.int .i64 s]] w (Kn t[i] w):=by
 subst a;rcases(h.node i o).kinds with⟨e,_⟩|⟨e,_⟩|⟨e,n⟩|⟨e|e,_⟩
 .exact Gv _ _ hx (.inl e)
 .exact Gv _ _ hx (.inr (.inl e))
 .exact Td _ _ hx e n.len
 .exact Gv _ _ hx (.inr (.inr (.inl e)))
 exact Gv _ _ hx (.inr (.inr (.inr e)))
def Wy(bl:Nat->Nat)(a k:Nat)(t e:Array AS):Prop:=
 e.size=t.size/\∀j,j<t.size->e[j]? =if a<=j/\j<k then some (Au bl (some j))else t[j]?
structure VS(t:List Nd)(a k L:Nat)(cur:Array AS)(w wr:AB)(bl:Nat->Nat)(st:Nat->Dn)(cur':Array AS):Prop where
 dom:FK wr w.heap.size (λi=>a<=i/\i<k) bl st
 kin:Xe t a k st
 row:wr.heap[L]? =some (.cells cur' 70 (0,0))
 fill:Wy bl a k cur cur'
 frame:w.grownBy wr (some L)
def TS(t:List Nd)(a L:Nat)(i:Array AS)(w:AB)(e:Bx)(w':AB):Prop:=
 e= .returned (.tuple #[])/\∃s n o,VS t a (a+sz t a) L i w w' s n o
def VT(t:List Nd)(a L:Nat)(o:Array AS)(w:AB)(x:AS)(wr:AB):Prop:=
 ∃(k:Nat) (n:Nat->Nat) (i:Nat->Dn) (e:Array AS),a+1<=k/\k<=a+sz t a/\x= .int .i64 k/\Gu t (a+1) k/\VS t a k L o w wr n i e
theorem Gz{L:Nat}(h:w.grownBy N (some L))(o:B<=L)(a:B<=w.heap.size):AL B w N:=
 ⟨h.os,h.tape,h.output,h.size,λk t=>h.block k (by omega) (λe=>by cases e;omega)⟩
theorem Gu.ZT{n s:Nat}(h:Gu t n s)(r:n<=k)(a:k<s):Gu t k (k+sz t k):=by
 obtain⟨g,y,w,c⟩:=h k r a;intro i m o;obtain⟨u,l,f,d⟩:=h i (by omega) (by omega);refine⟨u,l,?_,d⟩;by_cases e:i=k
 .subst e;exact AG _
 exact c i (by omega) o
theorem T2(ad:Option Ai)(c:Nat)(t:List Nd)(hR:CQ t)(B0 L:Nat)(d:Nat):∀(a:Nat) (I:Int) (s:Array AS) (w:AB),I=a->a<t.length->sz t a<=d->Gp w B0 ad t->B0<=L->L<w.heap.size->
 w.heap[L]? =some (.cells s 70 (0,0))->s.size=t.length->
 AX AC 95 #[.slice ad t.length c,.int .i64 I,.slice (some ⟨L,0,none⟩) t.length t.length] w (TS t a L s w):=by
 induction d with
 |zero=>
  rintro a I s w rfl y hd;have:=(hR.lam a (by omega) y).2.1;omega
 |succ d ih=>
  rintro a I s w rfl y hd h D hLw Y hcs;have hle:=hR.le;have H:=hR.lam a (by omega) y;have hl1:=H.2.1;have hl2:=H.2.2.1;obtain⟨b,o,rfl,ea,hc⟩:=h.at_ (by omega);obtain⟨g1,g2,g3,g4,g5,hok⟩:=hc a y;rw[Ep y H.1]at g5;have HOK:=AA (hok.more (show B0<=w.heap.size by omega));have HC:=AA hc;have HH:=AA h;have HI:=AA ih;have HR:=AA hR;have HCur:=AA Y;have U:=AA hcs;clear hcs H hok hc h ih hR Y;go_enter func95,ntmps95;go_wp2_with fail;refine(SA t a y HR.o _ HOK.o _ (Ep y (HR.o.lam a (by omega) y).1).symm).mono ?_;rintro e u ⟨g,aa,ac,rfl,hg,r,E,P⟩;have R:u.heap[L]? =some (.cells s 70 (0,0)):=(P.block L hLw).trans HCur.o;have hgl:g<u.heap.size:=(AE.1 r).1;have hca:a<s.size:=by rw[U.o];exact y
  have cL:=AZ u L a _ _ _ R;rw[Array.getElem?_eq_getElem hca]at cL;have fL:=A7 u L a _ _ R;have ee:w.grownBy (u.setCell ⟨L,a,none⟩ (.pointer (some ⟨g,0,none⟩))) (some L):=
   ⟨P.os,P.tape,P.output,by simpa [Cb]using P.size,λq N S=>(A8 _ _ _ _ (λe=>S (by rw[e]))).trans (P.block q N)⟩
  have M:VS t a (a+1) L s w (u.setCell ⟨L,a,none⟩ (.pointer (some ⟨g,0,none⟩))) (λ_=>g) (λ_=>⟨none,none,none,none,none,Ic t[a].kind,PE t[a],CU t[a]⟩) (s.setIfInBounds a (.pointer (some ⟨g,0,none⟩))):=by
   refine⟨⟨λi C=>⟨hg,aa,ac,?_,?_⟩,λi j C hj _=>by omega,λi j C hj hne=>by omega⟩,Vy t a _ ⟨by rw[Do y],by rw[Do y],by rw[Do y]⟩ rfl rfl rfl rfl rfl,Ao u L a _ _ _ R,⟨by simp,λj hj=> ?_⟩,ee⟩
   .rw[A8 _ _ _ _ (show g≠L by omega)];exact r
   .exact BS (Bf E (by omega)) (λe=>by have:=(E.lt _ e).1;simp at this;omega) _
   by_cases e:j=a
   .subst e;rw[AJ (by omega)];simp[Au,hj]
   rw[AI (by omega)];rw[Array.getElem?_setIfInBounds_ne (by omega)]
  have l:=AA M;have g5a:(u.setCell ⟨L,a,none⟩ (.pointer (some ⟨g,0,none⟩))).cell? ⟨b,o+a*5+4,none⟩=some (.int .i64 (sz t a:Int)):=
   ((Gz ee D (by omega)).cell (p:=⟨b,_,none⟩) ea).trans g5
  clear M ee R r E P hgl;generalize hcv:s[a]=cv at cL;clear hcv;go_wp2;go_loopw [6] (λx wr=>VT t a L s w x wr) (λx _=>a+sz t a-(Aa x).toNat)
  .exact⟨a+1,_,_,_,by omega,by omega,by go_num,Gu.empty _ _,l.o⟩
  clear cL fL g5a l;obtain⟨k,V,st,A,hk1,hk2,rfl,W,M⟩:=hrel;have O:=AA W;clear W;have T:=Gz M.frame D (by omega);have g5':=(T.cell (p:=⟨b,_,none⟩) ea).trans g5;have hwsz:=M.frame.size;by_cases hlt:k<a+sz t a
  .have v:k<t.length:=by omega
   have J:=HR.o.lam k (by omega) v;have hl3:=J.2.1;have hl4:k+sz t k<=a+sz t a:=(HR.o.lam a (by omega) y).2.2.2 k (by omega) hlt;have g6:=(HC.o k v).2.2.2.2.1;rw[Ep v J.1]at g6;have l:=AA M;have HBEL:=AA T;clear J M T;go_wp2_with fail;refine(HI.o k _ A _ rfl v (by omega) (HH.o.below HBEL.o) D (by omega) l.o.row (l.o.fill.1.trans U.o)).mono ?_;rintro e u ⟨rfl,z,K,G,n⟩;have F:Gu t k (k+sz t k):=HR.o.lam.ZT (AY k) v;have hD:FK u w.heap.size (λi=>a<=i/\i<k+sz t k) (FU k V z) (FU k st K):=by
    refine FK.join (by omega) (l.o.dom.kept (λq hq1 Q=>n.frame.block q Q (λe=>by cases e;omega))) n.dom hwsz (λi Z X=>l.o.dom.lt ⟨Z,X⟩) (λi Z X=>l.o.dom.aV (λq hq1 Q=>n.frame.block q Q (λe=>by cases e;omega)) ⟨Z,X⟩) (UH O.o l.o.kin) (UH (F.from_ (by omega)) n.kin)
   have hK:=UI (by omega) O.o hl3 l.o.kin n.kin;have eo:G.size=t.length:=n.fill.1.trans (l.o.fill.1.trans U.o);have hcs2:A.size=t.length:=l.o.fill.1.trans U.o;have c1:u.cell? ⟨L,a,none⟩=some (.pointer (some ⟨FU k V z a,0,none⟩)):=by
    rw[AZ u L a _ _ _ n.row,n.fill.2 a (by omega),AI (by omega),l.o.fill.2 a hca,AJ (by omega),DD (by omega)];rfl
   have c2:u.cell? ⟨L,k,none⟩=some (.pointer (some ⟨FU k V z k,0,none⟩)):=by
    rw[AZ u L k _ _ _ n.row,n.fill.2 k (by omega),AJ (by omega),C8 (AG _)];rfl
   have hA:=MJ u.drew w.heap.size (λi=>a<=i/\i<k+sz t k) (FU k V z) (FU k st K) (hD.kept (λ_ _ _=>rfl)) a k ⟨AG _,by omega⟩ ⟨by omega,by omega⟩ (by omega)
    (by rw[C8 (AG _)];exact((n.kin k (AG _) (by omega)).1.root rfl).1) (by rw[C8 (AG _)];exact((n.kin k (AG _) (by omega)).1.root rfl).2.1) (by rw[C8 (AG _)];exact((n.kin k (AG _) (by omega)).1.root rfl).2.2)
    (λq N=>by
     rw[DD (by omega)]at N;have h2:=(l.o.kin a (AG _) (by omega)).1;by_cases h1:1<DC t a k a
     .obtain⟨m,m1,m2,_⟩:=h2.lst1 h1;rw[m1]at N;cases N;have h3:=m2.2.1;have h4:=m2.2.2.1;rw[CM]at h4;exact⟨⟨by omega,by omega⟩,by omega,by omega⟩
     rw[h2.lst0 h1]at N;cases N)
   have HA:=AA hA;have HD:=AA hD;have HK:=AA hK;have f:=AA n;clear hA hD hK n F eo hcs2;go_wp2_with fail
   go_still_tail 8,(by kernel_rfl);change wpList _ _ _ _ _ u.drew;go_wp2_with fail;refine HA.o.mono ?_;rintro e w2 ⟨rfl,hD2,B⟩;have r:∀i,(a<=i/\i<k+sz t k)->w.heap.size<=FU k V z i:=λi C=>(HD.o.node i C).1;have et:w.grownBy w2 (some L):=by
    refine⟨B.os.trans (f.o.frame.os.trans l.o.frame.os),B.tape.trans (f.o.frame.tape.trans l.o.frame.tape),B.output.trans (f.o.frame.output.trans l.o.frame.output),?_,λq N S=> ?_⟩
    .have:=f.o.frame.size;have:=B.size;rw[this];show _<=u.heap.size;omega
    rw[B.block q (λi C e=>by have:=r i C;omega)];exact(f.o.frame.block q (by omega) S).trans (l.o.frame.block q N S)
   have hG3:VS t a (k+sz t k) L s w w2 (FU k V z) (Hd (FU k st K) a k) G:=by
    refine⟨hD2,HK.o,?_,⟨f.o.fill.1.trans l.o.fill.1,λj hj=> ?_⟩,et⟩
    .rw[B.block L (λi C e=>by have:=r i C;omega)];exact f.o.row
    rw[f.o.fill.2 j (by rw[l.o.fill.1];exact hj)];by_cases e1:k<=j/\j<k+sz t k
    .rw[AJ e1,AJ (by omega)];simp[Au,C8 e1.1]
    rw[AI e1,l.o.fill.2 j hj];by_cases e2:a<=j/\j<k
    .rw[AJ e2,AJ (by omega)];simp[Au,DD e2.2]
    rw[AI e2,AI (by omega)]
   have g6':=((Gz et D (by omega)).cell (p:=⟨b,_,none⟩) ea).trans g6;have HG3:=AA hG3;have HL3:Hid (Gu t (a+1) (k+sz t k)):=O.o.snoc (HR.o.lam.ZT (AY k) v);clear hD2 B r et hG3;go_wp2;go_roundw
   .exact⟨k+sz t k,_,_,_,by omega,by omega,by go_num,HL3.o,HG3.o⟩
   simp[Aa];omega
  go_wp2_with fail
  go_end0;have e:k=a+sz t a:=by omega
  subst e;exact⟨rfl,V,st,A,M⟩
structure Jm(t:List Nd)(w:AB)(B L:Nat)(bl:Nat->Nat)(st:Nat->Dn):Prop where
 dom:FK w B (λi=>i<t.length) bl st
 kin:∀i (h:i<t.length),N7 (sz t) 0 i (st i)/\Ex t[i] (st i)
 base:B<=L
 row:∃cur,w.heap[L]? =some (.cells cur 70 (0,0))/\cur.size=t.length/\∀j,j<t.length->cur[j]? =some (Au bl (some j))
theorem Jm.kept{w':AB}{L:Nat}(h:Jm t w B L Z V)(o:AL w.heap.size w w'):Jm t w' B L Z V:=by
 obtain⟨a,i,s,n⟩:=h.row;exact⟨h.dom.kept (λb _ e=>o.block b e),h.kin,h.base,a,(o.block L (AE.1 i).1).trans i,s,n⟩
theorem Jm.cell{L:Nat}(h:Jm t w B L Z V)(i:Nat)(e:i<t.length):w.cell? ⟨L,i,none⟩=some (.pointer (some ⟨Z i,0,none⟩)):=by
 obtain⟨n,o,s,a⟩:=h.row;rw[AZ w L i _ _ _ o,a i e];rfl
def R1(t:List Nd)(w:AB)(e:Bx)(w':AB):Prop:=
 ∃L o a,e= .returned (.tuple #[.slice (some ⟨L,0,none⟩) t.length t.length,.bool true])/\AL w.heap.size w w'/\L<w'.heap.size/\Jm t w' w.heap.size L o a
theorem Tryz.ZF:(Tryz.prog.info? 70).map (λi=>(i.zero,i.size,i.bytes))=some (some (.pointer none),1,8):=by kernel_rfl
theorem SQ(a:Option Ai)(c:Nat)(t:List Nd)(w:AB)(h:Gp w w.heap.size a t)(g:CQ t):
 AX AC 72 #[.slice a t.length c] w (R1 t w):=by
 have S:=g.le;have N:=run_make_row' (P:=AC) 63 70 (.pointer none) 8 underlying63 Tryz.ZF rfl .i64 .i64 t.length (by omega) (by omega);have q:=AA h;have m:=AA g;clear h g;go_enter func72,ntmps72;go_wp2_with fail;refine(Qd _ _ t _ q.o m.o).mono ?_;rintro e u ⟨rfl,o⟩;have y:AL w.heap.size w (u.alloc (.cells (DG #[.pointer none] t.length) 70)):=o.alloc o.size _;have d:=AA y;have I:=o.size;clear y o;go_wp2_with fail;have f:sz t 0=t.length:=m.o.top;refine(T2 _ _ t m.o w.heap.size u.heap.size t.length 0 _ (DG #[.pointer none] t.length) _ rfl m.o.pos (by omega) (q.o.below d.o) (by omega) (by simp) (Ah u _) (size_madeCells _ _)).mono ?_;rintro e x ⟨rfl,O,z,k,p⟩;rw[f,By]at p;have s:=AA p;clear p f;go_wp2_with fail;go_ret2;have b:=s.o.frame;have v:AL w.heap.size w x:=d.o.trans (Gz b (by omega) (by simp;omega));have A:w.heap.size<=(u.alloc (.cells (DG #[.pointer none] t.length) 70)).heap.size:=d.o.size;have r:=s.o.row;refine⟨u.heap.size,O,z,rfl,v,(AE.1 r).1,⟨λi n=> ?_,λi j n l e=>s.o.dom.inj i j ⟨AY _,n⟩ ⟨AY _,l⟩ e,λi j n l=>s.o.dom.sep i j ⟨AY _,n⟩ ⟨AY _,l⟩⟩,λi n=> ?_,by omega,k,r,s.o.fill.1.trans (size_madeCells _ _),λj l=> ?_⟩
 .obtain⟨H,aa,ac,T,E⟩:=s.o.dom.node i ⟨AY _,n⟩;exact⟨by omega,aa,ac,T,Bf E A⟩
 .have hx:DC t 0 t.length=sz t:=by
   funext j;by_cases e:j=0
   .subst e;rw[CM,m.o.top];omega
   exact Cg _ _ _ _ e
  have:=s.o.kin i (AY _) n;rw[hx,Do n]at this;exact this
 rw[s.o.fill.2 j (by rw[size_madeCells];exact l),AJ ⟨AY _,l⟩]
structure GX(n:Nat)(l:List Int)(ns:List Nat):Prop where
 eq:l=ns.map λ(k:Nat)=>(k:Int)
 lt:∀k∈ns,k<n
 asc:ns.Nodup
def E3(l:List Int):List AS:=l.map (Value.int .i64)
theorem CL(l:List Int):(E3 l).length=l.length:=by simp[E3]
theorem IK{l:List Int}(h:i<l.length):(E3 l)[i]'(by rw[CL];exact h)= .int .i64 l[i]:=by simp[E3]
structure Kj(w:AB)(B:Nat)(a:Option Ai)(l:List Int):Prop where
 row:B6 w B a (E3 l)
 len:l.length<=maxLen
 rng:∀x∈l,-9223372036854775808<=x/\x<=9223372036854775807
theorem Kj.up{l:List Int}(h:Kj w w.heap.size a l)(e:AL w.heap.size w N):Kj N N.heap.size a l:=⟨h.row.up e,h.len,h.rng⟩
theorem Kj.at_{l:List Int}(h:Kj w B a l)(h0:0<l.length):
 ∃b o,a=some ⟨b,o,none⟩/\b<B/\∀i (e:i<l.length),w.cell? ⟨b,o+i,none⟩=some (.int .i64 l[i]):=by
 obtain⟨b,o,s,n,t⟩:=h.row.at_ (by rw[CL];exact h0);refine⟨b,o,s,n,λi e=> ?_⟩;have:=t i (by rw[CL];exact e);rw[IK e]at this;exact this
def Yk(n:Nat)(l:List Int)(k:Nat):Prop:=∀i (h:i<l.length),i<k->0<=l[i]/\l[i]<n/\∀(e:0<i),l[i-1]'(by omega)<l[i]
theorem Ve{l:List Int}(h:Yk n l l.length):∃ns,GX n l ns:=by
 refine⟨l.map Int.toNat,?_,?_,?_⟩
 .rw[List.map_map];apply List.ext_getElem
  .simp
  intro i s f;have:=(h i s s).1;simp;omega
 .intro k u;obtain⟨x,hx,rfl⟩:=BL.1 u;obtain⟨i,a,rfl⟩:=An hx;have:=h i a a;omega
 refine List.Pairwise.imp (R:=(·<·)) (λh=>Nat.ne_of_lt h) ?_;rw[List.pairwise_iff_getElem];intro i j a o m;rw[List.length_map]at a o;have key:∀d i (t:i+d+1<l.length),l[i]'(by omega)<l[i+d+1]'t:=by
  intro d;induction d with
  |zero=>intro i t;exact(h (i+1) t t).2.2 (by omega)
  |succ d r=>
   intro i t;have w:=r i (by omega);have c:=(h (i+(d+1)+1) t t).2.2 (by omega);have e:i+(d+1)+1-1=i+d+1:=by omega
   simp only[e]at c;omega
 have:=key (j-i-1) i (by omega);have e:i+(j-i-1)+1=j:=by omega
 simp only[e]at this;have p1:=(h i a a).1;have p2:=(h j o o).1;simp;omega
def R9(n:Nat)(l:List Int)(w:AB)(e:Bx)(w':AB):Prop:=∃b q,e= .returned (.bool b)/\(b=true->∃t,GX n l t)/\w'=w.drewN q
theorem Sk(O:Option Ai)(n c:Nat)(a:Option Ai)(c2:Nat)(l:List Int)(D:n<=200)(L:l.length<=2147483647)(w:AB)(h:Kj w w.heap.size a l):
 AX AC 7 #[.slice O n c,.slice a l.length c2] w (R9 n l w):=by
 have N:=AA h;clear h;go_enter func7,ntmps7;go_wp2;go_loopw [5] (λx wr=>∃k q:Nat,k<=l.length/\x= .int .i64 k/\Hid (Yk n l k)/\wr=w.drewN q) (λx _=>l.length-(Aa x).toNat)
 .exact⟨0,0,by omega,rfl,(λi _ r=>by omega),rfl⟩
 obtain⟨k,q,U,rfl,t,rfl⟩:=hrel;by_cases u:k<l.length
 .obtain⟨b,o,rfl,H,d⟩:=N.o.at_ (by omega);have f:=d k u;have S:=AA d;clear d;obtain⟨x,hx⟩:∃x,x=l[k]:=⟨_,rfl⟩;rw[<-hx]at f;have g:=AA hx;clear hx;by_cases c1:x<0
  .have A:decide (x<0)=true:=by simpa using c1
   go_wp2_with fail;go_quiet(fail);go_wp2;go_ret;exact⟨false,_,rfl,by simp,by rw[World.drewN_drewN]⟩
  have A:decide (x<0)=false:=by simpa using c1
  have R:=AA c1;by_cases c2:(n:Int)<=x
  .have T:decide ((n:Int)<=x)=true:=by simpa using c2
   clear c1;go_wp2_with fail;go_quiet(fail);go_wp2;go_ret;exact⟨false,_,rfl,by simp,by rw[World.drewN_drewN]⟩
  have T:decide ((n:Int)<=x)=false:=by simp;omega
  by_cases c3:k=0
  .subst c3;have E:decide ((0:Int)<0)=false:=by decide
   simp only[Dj]at f;go_wp2_with fail;go_quiet(fail);go_wp2;go_roundw
   .refine⟨1,_,by omega,rfl,(λi r m=> ?_),rfl⟩;have e:i=0:=by omega
    subst e;rw[<-g.o];exact⟨by omega,by omega,λp=>absurd p (by omega)⟩
   simp[Aa];omega
  obtain⟨j,rfl⟩:∃j,k=j+1:=⟨k-1,by omega⟩;clear c3;have v:=S.o j (by omega);obtain⟨y,s⟩:∃y,y=l[j]'(by omega):=⟨_,rfl⟩;rw[<-s]at v;have I:=AA s;clear s;have e1:IntKind.i64.wrap (j:Int)=(j:Int):=IntWalk.i64_in _ ⟨by omega,by omega⟩;have e2:(0:Int)<=(j:Int):=by omega
  have C:((j:Int)).toNat=j:=by omega
  have E:decide ((0:Int)<(j:Int)+1)=true:=decide_eq_true (by omega);by_cases c4:x<=y
  .have z:decide (x<=y)=true:=by simpa using c4
   go_wp2_with fail;go_quiet(fail);go_wp2;go_ret;exact⟨false,_,rfl,by simp,by rw[World.drewN_drewN]⟩
  have z:decide (x<=y)=false:=by simp;omega
  go_wp2_with fail;go_quiet(fail);go_wp2;go_roundw
  .refine⟨j+2,_,by omega,by go_num,(λi r m=> ?_),rfl⟩;by_cases e:i=j+1
   .subst e;rw[<-g.o];exact⟨by omega,by omega,λ_=>by show l[j+1-1]<x;simp only[Nat.add_sub_cancel];rw[<-I.o];omega⟩
   exact t.o i r (by omega)
  simp[Aa];omega
 go_wp2;go_ret;have e:k=l.length:=by omega
 subst e;exact⟨true,q,rfl,λ_=>Ve t.o,rfl⟩
def Ad(bl:Nat->Nat)(ns:List Nat):List AS:=ns.map λi=>Value.pointer (some ⟨bl i,0,none⟩)
theorem AM(bl:Nat->Nat)(ns:List Nat):(Ad bl ns).length=ns.length:=by simp[Ad]
theorem A5(h:i<G.length):(Ad Z G)[i]'(by rw[AM];exact h)= .pointer (some ⟨Z G[i],0,none⟩):=by simp[Ad]
theorem K7(bl:Nat->Nat)(ns:List Nat)(i:Nat):Ad bl (ns++[i])=Ad bl ns++[.pointer (some ⟨bl i,0,none⟩)]:=by simp[Ad]
def NO(bl:Nat->Nat)(ns:List Nat)(w:AB)(e:Bx)(w':AB):Prop:=
 ∃a c,e= .returned (.tuple #[.slice a ns.length c,.bool true])/\w'.ownsRow w.heap.size 70 1 (.slice a ns.length c) ns.length (Ad bl ns)/\AL w.heap.size w w'
def O1(L:Nat)(bl:Nat->Nat)(ns:List Nat)(w:AB)(v x:AS)(wr:AB):Prop:=
 ∃k a c,k<=ns.length/\x= .int .i64 (k:Nat)/\v= .slice a k c/\wr.ownsRow w.heap.size 70 1 (.slice a k c) k (Ad bl (ns.take k))/\AL w.heap.size w wr
theorem S7(t:List Nd)(ht:t.length<=200)(B L:Nat)(bl:Nat->Nat)(V:Nat->Dn)(W:Option Ai)(c:Nat)(l:List Int)(ns:List Nat)(T:GX t.length l ns)(Q:l.length<=2147483647)(w:AB)(J:L<w.heap.size)(F:Jm t w B L bl V)(h:Kj w w.heap.size W l):
 AX AC 45 #[.slice (some ⟨L,0,none⟩) t.length t.length,.slice W l.length c] w (NO bl ns w):=by
 have s:l.length=ns.length:=by rw[T.eq];simp
 have P:=AA T;have Z:=AA F;have HH:=AA h;obtain⟨K,z,N,I,O⟩:=D6 Tryz.ZF;rw[s]at Q|-;have r:=AA s;clear T F h s;go_enter func45,ntmps45;go_wp2;go_loopw [6,11] (λv x wr=>O1 L bl ns w v x wr) (λ_ x _=>ns.length-(Aa x).toNat)
 .exact⟨0,none,0,by omega,rfl,rfl,Aw _ _ _ _,AW _ _⟩
 obtain⟨k,a,c1,hk,rfl,rfl,n,y⟩:=hrel;by_cases m:k<ns.length
 .obtain⟨b,o,rfl,S,M⟩:=HH.o.at_ (by rw[r.o];omega);have E:=M k (by rw[r.o];exact m);have hx:l[k]'(by rw[r.o];exact m)=(ns[k]:Int):=by
   have:=P.o.eq;subst this;simp
  rw[hx]at E;replace E:=(y.cell (p:=⟨b,_,none⟩) S).trans E;have C:=P.o.lt ns[k] (AD m);have X:=(y.cell (p:=⟨L,ns[k],none⟩) J).trans (Z.o.cell ns[k] C);obtain⟨j,A⟩:∃j,j=ns[k]:=⟨_,rfl⟩;rw[<-A]at E X C;have HJ:Hid (ns.take (k+1)=ns.take k++[j]):=by
   rw[Hid,AF m,A]
  have G:=AA n;have hsz:=y.size;clear M hx A n;go_wp2_with(at_builtin;refine wpList_append_own _ rfl _ _ 63 rfl w.heap.size 70 K (.pointer none) 1 8 underlying63 z N I O rfl (by decide) _ _ _ rfl (G.o.alloc _) ⟨wr.heap.size,0,none⟩ 1 1 [.pointer (some ⟨bl j,0,none⟩)] rfl rfl ?c1 ?c2 ?c3 ?c4 ?c5 ?_)
  case c1=>
   intro q u f
   match q,f with
   |0,f=>simp at f;subst f;simp[Addr.add]
  case c2=>intro u U;simp at U;subst U;rfl
  case c3=>unfold maxLen;omega
  case c4=>omega
  case c5=>simp;omega
  intro v' D i d _;obtain⟨Y,c2,g⟩:=DA i;rw[g]at i|-;have H:AL w.heap.size w D:=(y.alloc y.size _).grown d (by simp;omega) (λq f=>(G.o.lt q f).1);have R:Hid (D.ownsRow w.heap.size 70 1 (.slice Y (k+1) c2) (k+1) (Ad bl (ns.take (k+1)))):=by
   rw[Hid,HJ.o,K7];exact i
  clear i d g;go_wp2;go_roundw
  .exact⟨k+1,Y,c2,by omega,by go_num,rfl,R.o,H⟩
  simp[Aa];omega
 go_wp2_with fail;go_ret2;have e:k=ns.length:=by omega
 subst e;rw[AU]at n;exact⟨a,c1,rfl,n,y⟩
def DP(w:AB)(g:Nat)(a:Option Ai)(n c:Nat)(t e:Option Ai):Prop:=w.heap[g]? =some (.cells #[.slice a n c,.pointer t,.pointer e] 66 (0,0))
theorem DP.below{e:Option Ai}(h:DP w g a n c L e)(o:AL B w N)(t:g<B):DP N g a n c L e:=(o.block g t).trans h
theorem DP.cells{e:Option Ai}(h:DP w g a n c L e):w.cell? ⟨g,0,none⟩=some (.slice a n c)/\w.cell? ⟨g,1,none⟩=some (.pointer L)/\w.cell? ⟨g,2,none⟩=some (.pointer e):=by
 refine⟨?_,?_,?_⟩;all_goals (rw[AZ w g _ _ _ _ h];rfl)
theorem DP.lt{e:Option Ai}(h:DP w g a n c L e):g<w.heap.size:=(AE.1 h).1
theorem Sg(w:AB)(o1 o2 e:Obj):(((w.alloc o1).alloc o2).alloc e).heap[w.heap.size+2]? =some e:=by
 have:=Ah ((w.alloc o1).alloc o2) e;simpa using this
def VP(w:AB)(e:Bx)(w':AB):Prop:=
 ∃t a o,e= .returned (.pointer (some ⟨t,0,none⟩))/\w'.cell? ⟨t,0,none⟩=some (.pointer (some ⟨a,0,none⟩))/\DP w' a (some ⟨o,0,none⟩) 1 1 (some ⟨t,0,none⟩) none/\AL w.heap.size w w'
theorem Qm(p:Ai)(w:AB):AX AC 73 #[.pointer (some p)] w (VP w):=by
 go_enter func73,ntmps73;go_wp2_with(first|go_in|fail);go_ret;refine⟨w.heap.size,w.heap.size+2,w.heap.size+1,rfl,?_,?_,?_⟩
 .rw[Fv _ _ _ (by simp;omega),Fv _ _ _ (by simp),BI];rfl
 .exact Sg w _ _ _
 exact(((AW _ _).alloc (AG _) _).alloc (by simp) _).alloc (by simp;omega) _
theorem Vq(t o a:Nat)(w:AB)(h:DP w t (some ⟨o,0,none⟩) 1 1 (some ⟨a,0,none⟩) none):
 AX AC 74 #[.pointer (some ⟨t,0,none⟩),.int .i64 1] w λe w'=>e= .returned (.pointer (some ⟨w.heap.size,0,none⟩))/\DP w' w.heap.size none 0 0 (some ⟨a,0,none⟩) none/\AL w.heap.size w w':=by
 obtain⟨i,c1,c2⟩:=h.cells;clear h;go_enter func74,ntmps74;go_wp2_with(first|go_in|fail);go_ret;exact⟨rfl,Ah w _,Ac⟩
theorem Tryz.ZZ:(Tryz.prog.info? 101).map (λi=>i.size)=some 10:=by kernel_rfl
theorem I3(i:Nat)(bl:Nat->Nat)(w:AB):(binOp .eql 70 (.pointer (some ⟨bl i,0,none⟩)) (.pointer (some ⟨bl i,0,none⟩))).run AC w= .ok (.bool true) w:=by
 obtain⟨j,e,_⟩:=Eu.1 Tryz.ZZ;exact run_eql_ptr_same w ⟨bl i,0,none⟩ GA e
theorem Nq(bl:Nat->Nat)(w:AB)(t:bl k≠bl i)(n:∃e,w.heap[bl k]? =some (.cells e 101 (0,0))/\e.size=10)(o:∃e,w.heap[bl i]? =some (.cells e 101 (0,0))/\e.size=10):
 (binOp .eql 70 (.pointer (some ⟨bl k,0,none⟩)) (.pointer (some ⟨bl i,0,none⟩))).run AC w= .ok (.bool false) w:=by
 obtain⟨j,a,s⟩:=Eu.1 Tryz.ZZ;obtain⟨c1,e1,s1⟩:=n;obtain⟨c2,e2,s2⟩:=o;exact run_eql_ptr_other w GA a (by omega) (λh=>t (congrArg Addr.block h)) e1 e2
theorem UB(bl:Nat->Nat)(n:Nat)(s:∀i j,i<n->j<n->bl i=bl j->i=j)(ns:List Nat)(m:∀k∈ns,k<n)(N:ns.length<=100000)(i:Nat)(E:i<n)(a:Option Ai)(c:Nat)(w:AB)(h:B6 w w.heap.size a (Ad bl ns))(r:∀i,i<n->∃A,w.heap[bl i]? =some (.cells A 101 (0,0))/\A.size=10):
 AX AC 98 #[.slice a ns.length c,.pointer (some ⟨bl i,0,none⟩)] w λe w'=>e= .returned (.bool (decide (i∈ns)))/\w=w':=by
 have D:=AA h;have R:=AA s;have I:=AA m;have d:=AA r;clear h s m r;have key:AX AC 127 #[.slice a ns.length c,.pointer (some ⟨bl i,0,none⟩)] w λe w'=>(∃k:Nat,e= .returned (.int .i64 (if i∈ns then(k:Int)else-1))/\k<=100000)/\w=w':=by
  go_enter func127,ntmps127;go_wp2;go_loopw [11] (λx wr=>∃k:Nat,k<=ns.length/\x= .int .i64 k/\Hid (i∉ns.take k)/\w=wr) (λx _=>ns.length-(Aa x).toNat)
  .exact⟨0,by omega,rfl,by simp[Hid],rfl⟩
  obtain⟨k,S,rfl,f,rfl⟩:=hrel;by_cases t:k<ns.length
  .obtain⟨b,o,rfl,U,T⟩:=D.o.at_ (by rw[AM];omega);have q:=T k (by rw[AM];exact t);rw[A5 t]at q;clear T;by_cases e:ns[k]=i
   .have L:Hid (i∈ns):=by rw[Hid,<-e];exact AD t
    rw[e]at q;clear e;have g:=I3 i bl w;go_wp2;go_ret;exact⟨⟨k,rfl,by omega⟩,rfl⟩
   have y:bl ns[k]≠bl i:=λu=>e (R.o _ _ (I.o _ (AD t)) E u);have H:Hid (i∉ns.take (k+1)):=by
    rw[Hid,AF t,AV,AP];rintro(u|u)
    .exact f.o u
    exact e u.symm
   clear e;have g:=Nq bl w y (d.o _ (I.o _ (AD t))) (d.o _ E);obtain⟨O,p⟩:∃O,O=bl ns[k]:=⟨_,rfl⟩;rw[<-p]at q y g;clear p;go_wp2;go_roundw
   .exact⟨k+1,by omega,by go_num,H,by trivial⟩
   simp[Aa];omega
  have L:Hid (i∉ns):=by
   have e:k=ns.length:=by omega
   have:=f.o;rw[e,AU]at this;exact this
  go_wp2;go_ret;exact⟨⟨rfl,0,by omega⟩,rfl⟩
 have v:=AA key;clear key;go_enter func98,ntmps98;go_wp2_with fail;refine v.o.mono ?_;rintro e C ⟨⟨k,rfl,S⟩,rfl⟩;by_cases l:i∈ns
 .rw[AJ l];have z:=AA l;clear l;go_wp2;go_ret;exact⟨Ib (by simp[z.o];omega),rfl⟩
 rw[AI l];have z:=AA l;clear l;go_wp2;go_ret;exact⟨Ib (by simp[z.o]),rfl⟩
structure EA(bl:Nat->Nat)(n:Nat)(w:AB):Prop where
 inj:∀i j,i<n->j<n->bl i=bl j->i=j
 lt:∀i,i<n->bl i<w.heap.size
 blk:∀i,i<n->∃cs,w.heap[bl i]? =some (.cells cs 101 (0,0))/\cs.size=10
theorem EA.kept{w':AB}(h:EA Z n w)(t:AL w.heap.size w w'):EA Z n w':=by
 refine⟨h.inj,λi e=>AR (h.lt i e) t.size,λi e=> ?_⟩;obtain⟨s,o,a⟩:=h.blk i e;exact⟨s,(t.block _ (h.lt i e)).trans o,a⟩
theorem Jm.nodes{L:Nat}(h:Jm t w B L Z V):EA Z t.length w:=by
 refine⟨λi j a r e=>h.dom.inj i j a r e,λi a=> ?_,λi a=> ?_⟩
 .obtain⟨s,aa,ac,o,n⟩:=h.dom.node i a;exact(AE.1 o).1
 obtain⟨s,aa,ac,o,n⟩:=h.dom.node i a;exact⟨_,o,rfl⟩
def VQ(bl:Nat->Nat)(ns:List Nat)(w:AB)(e:Bx)(w':AB):Prop:=
 ∃a c,e= .returned (.slice a ns.length c)/\w'.ownsRow w.heap.size 70 1 (.slice a ns.length c) ns.length (Ad bl ns)/\AL w.heap.size w w'
def Ww(bl:Nat->Nat)(ns:List Nat)(w:AB)(v x:AS)(wr:AB):Prop:=
 ∃k a c,k<=ns.length/\x= .int .i64 (k:Nat)/\v= .slice a k c/\wr.ownsRow w.heap.size 70 1 (.slice a k c) k (Ad bl (ns.take k))/\AL w.heap.size w wr
theorem Vn(bl:Nat->Nat)(n:Nat)(ns:List Nat)(g:∀k∈ns,k<n)(z:ns.Nodup)(J:ns.length<=200)(a:Option Ai)(c:Nat)(w:AB)(h:B6 w w.heap.size a (Ad bl ns))(K:EA bl n w):
 AX AC 76 #[.slice none 0 0,.slice a ns.length c,.map none] w (VQ bl ns w):=by
 have HH:=AA h;have E:=AA g;have W:=AA z;have HN:=AA K;obtain⟨Z,A,D,R,H⟩:=D6 Tryz.ZF;have qm:∀w:AB,(binOp .eql 143 (.map none) (.map none)).run AC w= .ok (.bool true) w:=λw=>run_eql_map_nil w _ _ _ none underlying143;have d0:decide ((ns.length:Int)<1000)=true:=decide_eq_true (by omega);have e0:IntKind.i64.wrap ((ns.length:Int))=(ns.length:Int):=IntWalk.i64_in _ ⟨by omega,by omega⟩;clear h g z K;go_enter func76,ntmps76;go_wp2;go_loopw [0,25] (λv x wr=>Ww bl ns w v x wr) (λ_ x _=>ns.length-(Aa x).toNat)
 .exact⟨0,none,0,by omega,rfl,rfl,Aw _ _ _ _,AW _ _⟩
 obtain⟨k,S,c1,hk,rfl,rfl,i,m⟩:=hrel;by_cases r:k<ns.length
 .obtain⟨b,o,rfl,C,V⟩:=HH.o.at_ (by rw[AM];omega);have I:=V k (by rw[AM];exact r);rw[A5 r]at I;replace I:=(m.cell (p:=⟨b,_,none⟩) C).trans I;have P:=E.o ns[k] (AD r);have d:ns[k]∉ns.take k:=by
   intro hm;obtain⟨j,f,B⟩:=An hm;rw[List.getElem_take]at B;have hj2:j<k:=by simp at f;omega
   have:=(List.getElem_inj W.o).1 B;omega
  obtain⟨j,f⟩:∃j,j=ns[k]:=⟨_,rfl⟩;rw[<-f]at I P d;have HJ:Hid (ns.take (k+1)=ns.take k++[j]):=by
   rw[Hid,AF r,f]
  have U:(ns.take k).length=k:=by simp;omega
  have Y:Hid (AX AC 98 #[.slice S k c1,.pointer (some ⟨bl j,0,none⟩)] wr λe X=>e= .returned (.bool false)/\wr=X):=by
   have T:=HN.o.kept m;obtain⟨N,c2,hv,_,L⟩:=B6.own i;cases hv
   have:=UB bl n T.inj (ns.take k) (λx hx=>E.o x (List.mem_of_mem_take hx)) (by omega) j P S c1 wr L T.blk;rw[U]at this;refine this.mono ?_;rintro e O ⟨rfl,rfl⟩;exact⟨Ib (by simp[d]),rfl⟩
  have Q:=AA i;have hsz:=m.size;clear V f i d;go_wp2_with fail;refine Y.o.mono ?_;rintro e O ⟨rfl,rfl⟩;go_wp2_with(at_builtin;refine wpList_append_own _ rfl _ _ 63 rfl w.heap.size 70 Z (.pointer none) 1 8 underlying63 A D R H rfl (by decide) _ _ _ rfl (Q.o.alloc _) ⟨wr.heap.size,0,none⟩ 1 1 [.pointer (some ⟨bl j,0,none⟩)] rfl rfl ?c1 ?c2 ?c3 ?c4 ?c5 ?_)
  case c1=>
   intro q u l
   match q,l with
   |0,l=>simp at l;subst l;simp[Addr.add]
  case c2=>intro u G;simp at G;subst G;rfl
  case c3=>unfold maxLen;omega
  case c4=>omega
  case c5=>simp;omega
  intro v' O t s _;obtain⟨N,c2,y⟩:=DA t;rw[y]at t|-;have M:AL w.heap.size w O:=(m.alloc m.size _).grown s (by simp;omega) (λq l=>(Q.o.lt q l).1);have F:Hid (O.ownsRow w.heap.size 70 1 (.slice N (k+1) c2) (k+1) (Ad bl (ns.take (k+1)))):=by
   rw[Hid,HJ.o,K7];exact t
  clear t s y;go_wp2;go_roundw
  .exact⟨k+1,N,c2,by omega,by go_num,rfl,F.o,M⟩
  simp[Aa];omega
 go_wp2;go_ret;have e:k=ns.length:=by omega
 subst e;rw[AU]at i;exact⟨S,c1,rfl,i,m⟩
def TY(w:AB)(o:Nat)(t:Option Ai)(a:Option Ai)(n c:Nat)(e:Bx)(w':AB):Prop:=
 e= .returned (.pointer (some ⟨w.heap.size,0,none⟩))/\DP w' w.heap.size a n c t (some ⟨o,0,none⟩)/\AL w.heap.size w w'
theorem KV(o:Nat)(r:Option Ai)(s i:Nat)(e t:Option Ai)(a:Option Ai)(n c:Nat)(w:AB)(h:DP w o r s i e t):
 AX AC 75 #[.pointer (some ⟨o,0,none⟩),.slice a n c] w (TY w o e a n c):=by
 obtain⟨i,c1,c2⟩:=h.cells;clear h;go_enter func75,ntmps75;go_wp2_with(first|go_in|fail);go_ret;exact⟨rfl,Ah w _,Ac⟩
def Fw(bl:Nat->Nat)(ns:List Nat)(B g:Nat)(t:Option Ai)(w:AB):Prop:=
 ∃a c e,DP w g a ns.length c t e/\B<=g/\w.ownsRow B 70 1 (.slice a ns.length c) ns.length (Ad bl ns)/\(∃o,e=some ⟨o,0,none⟩)
def Lz(bl:Nat->Nat)(ns:List Nat)(t:Option Ai)(w:AB)(e:Bx)(w':AB):Prop:=
 ∃g,e= .returned (.pointer (some ⟨g,0,none⟩))/\Fw bl ns w.heap.size g t w'/\AL w.heap.size w w'
theorem J9(bl:Nat->Nat)(n:Nat)(ns:List Nat)(r:∀k∈ns,k<n)(d:ns.Nodup)(m:ns.length<=200)(a:Option Ai)(c:Nat)(g:Nat)(i t:Option Ai)(w:AB)(h:B6 w w.heap.size a (Ad bl ns))(q:EA bl n w)(y:DP w g none 0 0 i t):
 AX AC 46 #[.pointer (some ⟨g,0,none⟩),.slice a ns.length c] w (Lz bl ns i w):=by
 have T:=AA (Vn bl n ns r d m a c w h q);obtain⟨O,c1,c2⟩:=y.cells;have x:=AA y;clear h r d q y;go_enter func46,ntmps46;go_wp2_with fail;refine T.o.mono ?_;rintro e z ⟨j,c3,rfl,o,f⟩;have E:=AA o;have p:=AA f;clear o f;go_wp2_with fail;refine(KV g none 0 0 i t j ns.length c3 z (x.o.below p.o x.o.lt)).mono ?_;rintro e A ⟨rfl,s,l⟩;have v:=AA s;have u:=AA l;clear s l;go_wp2;go_ret;refine⟨_,rfl,⟨j,c3,_,v.o,p.o.size,BB E.o (λb _ f=>u.o.block b f),_,rfl⟩,BT p.o u.o⟩
theorem BH{l:List Nat}(e:l.Nodup)(h:∀x∈l,x<n):l.length<=n:=by
 have t:l.Perm ((BV n).filter λx=>decide (x∈l)):=by
  rw[List.perm_ext_iff_of_nodup e (List.nodup_range.filter _)];intro x;rw[Cd,List.mem_range,decide_eq_true_eq];exact⟨λhx=>⟨h x hx,hx⟩,λhx=>hx.2⟩
 rw[t.length_eq];exact AH (List.length_filter_le _ _) (by simp)
theorem GX.len{l:List Int}(h:GX n l G):G.length<=n:=BH h.asc h.lt
theorem GX.nodup{l:List Int}(h:GX n l G):G.Nodup:=h.asc
theorem Fw.base{t:Nat}(h:Fw Z G B g L w)(o:t<=B):Fw Z G t g L w:=by
 obtain⟨a,c,e,s,r,n,i⟩:=h;exact⟨a,c,e,s,by omega,Bf n o,i⟩
theorem Fw.kept{w':AB}(h:Fw Z G B g L w)(o:AL w.heap.size w w'):Fw Z G B g L w':=by
 obtain⟨a,c,e,i,r,s,n⟩:=h;exact⟨a,c,e,i.below o i.lt,r,BB s (λb _ t=>o.block b t),n⟩
def Oq(ns:List Nat):List Int:=ns.map λ(k:Nat)=>(k:Int)
theorem Jz(ns:List Nat):(Oq ns).length=ns.length:=by simp[Oq]
theorem U3(ns:List Nat)(i:Nat):Oq (ns++[i])=Oq ns++[(i:Int)]:=by simp[Oq]
theorem UC(l:List Int)(i:Int):E3 (l++[i])=E3 l++[.int .i64 i]:=by simp[E3]
theorem XW(h:i<G.length):(Oq G)[i]'(by rw[Jz];exact h)=(G[i]:Int):=by simp[Oq]
def YR(bl:Nat->Nat)(B:Nat)(ns:List Nat)(v:AS)(w:AB):Prop:=∃a c,v= .slice a ns.length c/\w.ownsRow B 70 1 (.slice a ns.length c) ns.length (Ad bl ns)
def Hc(bl:Nat->Nat)(ns:List Nat)(w:AB)(e:Bx)(w':AB):Prop:=∃v,e= .returned v/\YR bl w.heap.size ns v w'/\AL w.heap.size w w'
theorem E_{P:Program}{f:FuncId}{args:Array AS}
 (h:AX P f args (w.drewN n) λe w'=>e= .returned v/\w.drewN n=w'):AX P f args (w.drewN n) λe t=>e= .returned v/\∃m,t=w.drewN m:=
 h.mono λ_ _ ⟨o,a⟩=>⟨o,n,a.symm⟩
def GC(w:AB)(B size:Nat)(A:Option Ai)(n:Nat)(xs:List AS):Prop:=
 xs.length=n*size/\(0<n->∃e,A=some e/\e.block<B/\∀j u,xs[j]? =some u->w.cell? (e.add j)=some u)
theorem B6.reads{w:AB}{xs:List AS}(h:B6 w B a xs):GC w B 1 a xs.length xs:=by
 refine⟨by simp,λr=> ?_⟩;obtain⟨b,o,rfl,s,n⟩:=h.at_ r;refine⟨_,rfl,s,λj u t=> ?_⟩;obtain⟨i,e⟩:=C6.1 t;rw[Ba,n j i,e]
section
variable {P:Program} (w:AB)
theorem KX(base:Nat)(t h e:Dk)(i:TypeInfo)(size:Nat)(ht:P.underlying t=some (.slice e))(s:P.info? e=some i)
 (v:AS)(n:Nat)(xs:List AS)(a:w.ownsRow base e size v n xs)(c:Nat):(Builtin.append_ #[t,t] h #[v,.slice none 0 c]).run P w= .ok v w:=by
 rcases a.2 with⟨rfl,rfl⟩|⟨g,cap,r,rfl,_,_,o,_⟩
 .simp[Builtin.append_,Ez ht,sizeOf,typeInfo,s,Builtin.lenOf,Builtin.firstCells]
 simp[Builtin.append_,Ez ht,sizeOf,typeInfo,s,Builtin.lenOf,Builtin.firstCells,o,storeCells]
theorem Mp(base:Nat)(t p e:Dk)(i:TypeInfo)(z:AS)(size bytes:Nat)(ht:P.underlying t=some (.slice e))(I:P.info? e=some i)(N:i.zero=some z)
 (l:i.size=size)(E:i.bytes=bytes)(q:z.cells.size=size)(x:0<size)
 (v:AS)(n:Nat)(xs:List AS)(o:w.ownsRow base e size v n xs)
 (B:Nat)(A:Option Ai)(m c:Nat)(a:List AS)(hr:GC w B size A m a)(U:∀u∈a,u.oneCell'=true)
 (T:n+m<=maxLen)(r:(n+m)*bytes<=140737488355328)(f:base<=w.heap.size):
 ∃y w',(Builtin.append_ #[t,t] p #[v,.slice A m c]).run P w= .ok y w'/\w'.ownsRow base e size y (n+m) (xs++a)/\w.grownBy w' v.ownBlock/\
  (y.ownBlock=v.ownBlock\/y.ownBlock=some w.heap.size):=by
 rcases A with _|k
 .have S:m=0:=by
   rcases BJ m with d|d
   .exact d
   obtain⟨k,h,_⟩:=hr.2 d;cases h
  subst S;have b:a=[]:=Ag (by simpa using hr.1);subst b;exact⟨v,w,KX w base t p e i size ht I v n xs o c,by simpa using o,World.grownBy.refl w _,.inl rfl⟩
 have s:∀j u,a[j]? =some u->w.cell? (k.add j)=some u:=by
  intro j u O;rcases BJ m with d|d
  .subst d;have b:a=[]:=Ag (by simpa using hr.1);subst b;simp at O
  obtain⟨C,h,_,H⟩:=hr.2 d;injection h with h;subst h;exact H j u O
 obtain⟨y,w',g,L,D,_,R⟩:=run_append_own_at (P:=P) w base t p e i z size bytes ht I N l E q x v n xs o k m c a hr.1 s U T r f;exact⟨y,w',g,L,D,R⟩
theorem EN{o:ER}{a:Act}(s x:Operand)(t:Dk)
 (O:o.op= .call {callee:= .builtin .append,args:= #[s,x],argTypes:= #[t,t]})
 (base:Nat)(e:Dk)(i:TypeInfo)(z:AS)(size bytes:Nat)(ht:P.underlying t=some (.slice e))(I:P.info? e=some i)(E:i.zero=some z)
 (l:i.size=size)(q:i.bytes=bytes)(b:z.cells.size=size)(k:0<size)
 (v:AS)(n:Nat)(xs:List AS)(T:a.eval s=v)(p:w.ownsRow base e size v n xs)
 (B:Nat)(A:Option Ai)(m c:Nat)(r:List AS)(hx:a.eval x= .slice A m c)(hr:GC w B size A m r)(R:∀u∈r,u.oneCell'=true)
 (j:n+m<=maxLen)(d:(n+m)*bytes<=140737488355328)(f:base<=w.heap.size)
 (h:∀y w',w'.ownsRow base e size y (n+m) (xs++r)->w.grownBy w' v.ownBlock->(y.ownBlock=v.ownBlock\/y.ownBlock=some w.heap.size)->K (a.put o.dst y) w'):o.wp P a w K Q:=by
 obtain⟨y,w',g,H,S,N⟩:=Mp (P:=P) w base t o.type e i z size bytes ht I E l q b k v n xs p B A m c r hr R j d f;unfold Oper.wp execOp;simp only[O,resolve,invoke,builtin,Sem.run_bind,Sem.run_pure,Result.andThen_ok,List.map_toArray,Bz,List.map_nil,T,hx,g];exact h y w' H S N
theorem FY{rest:List ER}{o:ER}{a:Act}(k:o.guard=none)(s x:Operand)(t:Dk)
 (I:o.op= .call {callee:= .builtin .append,args:= #[s,x],argTypes:= #[t,t]})
 (base:Nat)(e:Dk)(i:TypeInfo)(z:AS)(size bytes:Nat)(ht:P.underlying t=some (.slice e))(N:P.info? e=some i)(E:i.zero=some z)
 (l:i.size=size)(q:i.bytes=bytes)(p:z.cells.size=size)(b:0<size)
 (v:AS)(n:Nat)(xs:List AS)(O:a.eval s=v)(g:w.ownsRow base e size v n xs)
 (B:Nat)(A:Option Ai)(m c:Nat)(r:List AS)(hx:a.eval x= .slice A m c)(hr:GC w B size A m r)(L:∀u∈r,u.oneCell'=true)
 (j:n+m<=maxLen)(d:(n+m)*bytes<=140737488355328)(f:base<=w.heap.size)
 (h:∀y w',w'.ownsRow base e size y (n+m) (xs++r)->w.grownBy w' v.ownBlock->(y.ownBlock=v.ownBlock\/y.ownBlock=some w.heap.size)->wpList P T Q rest (a.put o.dst y) w'):wpList P T Q (o::rest) a w:=
 wpList_plain k λ_ S=>EN w s x t I base e i z size bytes ht N E l q p b v n xs O g B A m c r hx hr L j d f λy w' D R H=>S _ _ (h y w' D R H)
end
theorem WA(l:List Int):∀u∈E3 l,u.oneCell'=true:=by
 intro u e;obtain⟨x,_,rfl⟩:=BL.1 e;rfl
theorem JM(w:AB)(t:Dk):(w.alloc (.cells #[] t)).drew.ownsRow w.heap.size t 1 (.slice (some ⟨w.heap.size,0,none⟩) 0 0) 0 []:=by
 refine⟨by simp,.inr ⟨w.heap.size,0,#[],rfl,AG _,?_,by omega,by simp[maxLen],rfl,rfl⟩⟩;exact Ah w _
theorem Qe(l m:List Int):E3 (l++m)=E3 l++E3 m:=by simp[E3]
theorem QQ(bl:Nat->Nat)(i:Nat)(w:AB):(Op.equal 70 (.pointer (some ⟨bl i,0,none⟩)) (.pointer (some ⟨bl i,0,none⟩))).run AC w= .ok true w:=by
 obtain⟨j,e,_⟩:=Eu.1 Tryz.ZZ;have h:∀d:Nat,(Op.equalIn (d+1) 70 (.pointer (some ⟨bl i,0,none⟩)) (.pointer (some ⟨bl i,0,none⟩))).run AC w= .ok true w:=λd=>by
  simp[Op.equalIn,Ez GA,sizeOf,typeInfo,e,run_sameAddr_same]
 simp[Op.equal,Op.maxDepth,h 9999]
theorem LP(t:EA Z n w)(l:i<n)(r:k<n)(s:i≠k):(Op.equal 70 (.pointer (some ⟨Z i,0,none⟩)) (.pointer (some ⟨Z k,0,none⟩))).run AC w= .ok false w:=by
 obtain⟨j,c,f⟩:=Eu.1 Tryz.ZZ;obtain⟨c1,e1,s1⟩:=t.blk i l;obtain⟨c2,e2,s2⟩:=t.blk k r;have m:Z i≠Z k:=λe=>s (t.inj i k l r e);have h:∀d:Nat,(Op.equalIn (d+1) 70 (.pointer (some ⟨Z i,0,none⟩)) (.pointer (some ⟨Z k,0,none⟩))).run AC w= .ok false w:=λd=>by
  have o:j.size≠0:=by omega
  have u:=run_sameAddr_other (P:=AC) w (a:=⟨Z i,0,none⟩) (b:=⟨Z k,0,none⟩) (λh=>m (congrArg Addr.block h)) e1 e2;simp[Op.equalIn,Ez GA,sizeOf,typeInfo,c,o,u]
 simp[Op.equal,Op.maxDepth,h 9999]
theorem NA(y:EA Z n w)(f:i<n):∀(o:List MapEntry) (t:List Nat) (k:Nat),o.map (·.key)=Ad Z t->(∀m∈t,m<n)->(∀e∈o,e.val= .bool true)->i∈t->
 ∃j,(Instr.findAsking 70 (.pointer (some ⟨Z i,0,none⟩)) o k).run AC w= .ok (some (j,.bool true)) w:=by
 intro o;induction o with
 |nil=>intro t k h r s a;cases t<;>simp[Ad]at h;simp at a
 |cons e o u=>
  intro t k h r s a;cases t with
  |nil=>simp at a
  |cons m t=>
   simp only[Bz,Ad,List.cons.injEq]at h;obtain⟨l,hr⟩:=h;have d:=r m (by simp);by_cases e1:i=m
   .subst e1;refine⟨k,?_⟩;simp[Instr.findAsking,l,QQ,s e (by simp),Result.andThen]
   obtain⟨j,c⟩:=u t (k+1) hr (λx hx=>r x (by simp[hx])) (λx hx=>s x (by simp[hx])) (by simpa [e1]using a);refine⟨j,?_⟩;simp[Instr.findAsking,l,LP y f d e1,Result.andThen,c]
theorem Iu(c:EA Z n w)(u:i<n):∀(o:List MapEntry) (t:List Nat) (k:Nat),o.map (·.key)=Ad Z t->(∀m∈t,m<n)->i∉t->
 (Instr.findAsking 70 (.pointer (some ⟨Z i,0,none⟩)) o k).run AC w= .ok none w:=by
 intro o;induction o with
 |nil=>intro t k h s a;simp[Instr.findAsking]
 |cons e o d=>
  intro t k h s a;cases t with
  |nil=>simp[Ad]at h
  |cons m t=>
   simp only[Bz,Ad,List.cons.injEq]at h;obtain⟨l,hr⟩:=h;have r:=s m (by simp);have e1:i≠m:=λe1=>a (by simp[e1]);have:=d t (k+1) hr (λx hx=>s x (by simp[hx])) (λhx=>a (by simp[hx]));simp[Instr.findAsking,l,LP c u r e1,Result.andThen,this]
theorem LQ(k:AS)(t:Dk)(e:MapEntry)(a:List MapEntry):Instr.findNow (.pointer t) k (e::a) 0=none:=by
 simp[Instr.findNow,Instr.sameNow]
def Jb(bl:Nat->Nat)(o:List Nat)(i:Nat)(w:AB):Prop:=
 ∃a t,w.heap[i]? =some (.map a t)/\a.toList.map (·.key)=Ad bl o/\∀e∈a.toList,e.val= .bool true
theorem Jb.new(bl:Nat->Nat)(w:AB):Jb bl [] w.heap.size (w.alloc (.map #[] 0)):=⟨#[],0,Ah w _,rfl,λe t=>by simp at t⟩
theorem Jb.lt{t:List Nat}{e:Nat}(h:Jb Z t e w):e<w.heap.size:=by
 obtain⟨o,cl,a,_⟩:=h;exact(AE.1 a).1
theorem Jb.block{t:List Nat}{e:Nat}(h:Jb Z t e w)(a:N.heap[e]? =w.heap[e]?):Jb Z t e N:=by
 obtain⟨n,cl,i,o⟩:=h;exact⟨n,cl,a.trans i,o⟩
theorem Jb.look{a:List Nat}{p:Nat}(h:Jb Z a p w)(g:EA Z n w)(d:∀m∈a,m<n)(c:i<n):
 (Instr.lookup 143 (.map (some p)) (.pointer (some ⟨Z i,0,none⟩)) false).run AC w= .ok (.bool (decide (i∈a))) w:=by
 obtain⟨o,cl,y,u,b⟩:=h;have s:∀em:Bool,(Instr.checkKey em 10000 70 (.pointer (some ⟨Z i,0,none⟩))).run AC w= .ok () w:=λem=>by
  unfold Instr.checkKey;simp[Ez GA]
 have f:(Instr.findKey 70 (.pointer (some ⟨Z i,0,none⟩)) o.toList).run AC w=(Instr.findAsking 70 (.pointer (some ⟨Z i,0,none⟩)) o.toList).run AC w:=by
  unfold Instr.findKey;cases v:o.toList with
  |nil=>simp[Ez GA,Instr.findNow,Instr.findAsking]
  |cons e l=>simp[Ez GA,LQ]
 by_cases t:i∈a
 .obtain⟨j,r⟩:=NA g c o.toList a 0 u d b t;rw[decide_eq_true t];simp[Instr.lookup,Ez underlying143,MapKept.run_getObj_map y,s,f,r,Result.andThen]
 have r:=Iu g c o.toList a 0 u d t;rw[decide_eq_false t];simp[Instr.lookup,Ez underlying143,MapKept.run_getObj_map y,s,f,r,Result.andThen]
theorem Jb.store{o:List Nat}{t:Nat}(h:Jb Z o t w)(j:EA Z n w)(p:∀m∈o,m<n)(v:i<n)(c:i∉o):
 ∃w',(Instr.mapUpdate 143 (.map (some t)) (.pointer (some ⟨Z i,0,none⟩)) (.bool true)).run AC w= .ok () w'/\Jb Z (o++[i]) t w'/\w.grownBy w' (some t):=by
 obtain⟨a,cl,r,y,g⟩:=h;have f:∀em:Bool,(Instr.checkKey em 10000 70 (.pointer (some ⟨Z i,0,none⟩))).run AC w= .ok () w:=λem=>by
  unfold Instr.checkKey;simp[Ez GA]
 have k:(Instr.findKey 70 (.pointer (some ⟨Z i,0,none⟩)) a.toList).run AC w=(Instr.findAsking 70 (.pointer (some ⟨Z i,0,none⟩)) a.toList).run AC w:=by
  unfold Instr.findKey;cases z:a.toList with
  |nil=>simp[Ez GA,Instr.findNow,Instr.findAsking]
  |cons e l=>simp[Ez GA,LQ]
 have b:=Iu j v a.toList o 0 y p c;have u:t<w.heap.size:=(AE.1 r).1;refine⟨{w with heap:=w.heap.setIfInBounds t (.map (a.push {key:= .pointer (some ⟨Z i,0,none⟩),val:= .bool true,born:=cl}) (cl+1))},?_,⟨a.push {key:= .pointer (some ⟨Z i,0,none⟩),val:= .bool true,born:=cl},cl+1,?_,?_,?_⟩,?_⟩
 .simp[Instr.mapUpdate,Ez underlying143,MapKept.run_getObj_map r,f,k,b,MapKept.run_setObj_map _ r,Result.andThen]
 .simp[u]
 .rw[Array.toList_push,List.map_append,y];simp[Ad]
 .intro e s;rw[Array.toList_push,AV,AP]at s;rcases s with s|rfl
  .exact g e s
  rfl
 refine⟨rfl,rfl,rfl,by simp,λq x d=> ?_⟩;show(w.heap.setIfInBounds t _)[q]? =_;rw[Array.getElem?_setIfInBounds_ne (λe=>d (by rw[e]))]
theorem Nk{e size:Nat}{xs:List AS}(h:w.ownsRow A e size v n xs){o:List Nat}{t:Nat}(i:Jb Z o t w):v.ownBlock≠some t:=by
 obtain⟨u,cl,a,_⟩:=i;rcases h.2 with⟨rfl,_⟩|⟨d,cap,l,rfl,_,s,_⟩
 .simp[A6]
 intro r;have e1:d=t:=by simpa [A6]using r
 subst e1;rw[s]at a;simp at a
theorem K_{P:Program}(t k e:Dk)(kd:IntKind)(n:Int)(ht:P.underlying t=some (.map k e))(w:AB):
 (Instr.makeMap t (some (.int kd n))).run P w= .ok (.map (some w.heap.size)) (w.alloc (.map #[] 0)):=by
 simp[Instr.makeMap,Ez ht];rfl
theorem Fs(t:List Nd)(p:Nat):∀(f x:Nat),p+sz t p<=x+f->p<x->x<=p+sz t p->(∀m,p<m->m<x->m+sz t m<=x)->Gu t x (p+sz t p)->
 ((BR t f x (p+sz t p)).length=0↔x=p+sz t p)/\(∀h:0<(BR t f x (p+sz t p)).length,(BR t f x (p+sz t p))[0]=x)/\
 ∀k (h:k<(BR t f x (p+sz t p)).length),Es (sz t) 0 p (BR t f x (p+sz t p))[k]/\
  ((BR t f x (p+sz t p))[k]+sz t (BR t f x (p+sz t p))[k]<p+sz t p↔k+1<(BR t f x (p+sz t p)).length)/\
  ∀o:k+1<(BR t f x (p+sz t p)).length,(BR t f x (p+sz t p))[k+1]=(BR t f x (p+sz t p))[k]+sz t (BR t f x (p+sz t p))[k]:=by
 intro f;induction f with
 |zero=>
  intro x E o z _ _;have e:BR t 0 x (p+sz t p)=[]:=rfl;simp only[e,Ar];exact⟨⟨λ_=>by omega,λ_=>by trivial⟩,λh=>absurd h (by omega),λk h=>absurd h (by omega)⟩
 |succ f b=>
  intro x E o z r d;by_cases hx:x<p+sz t p
  .have e:BR t (f+1) x (p+sz t p)=x::BR t f (x+sz t x) (p+sz t p):=by simp only[BR];rw[AJ hx]
   obtain⟨l1,l2,w,u⟩:=d x (AG _) hx;have i:∀m,p<m->m<x+sz t x->m+sz t m<=x+sz t x:=by
    intro m l a;by_cases c:m<x
    .have:=r m l c;omega
    by_cases c2:m=x
    .subst c2;exact AG _
    exact u m (by omega) a
   obtain⟨s,j,v⟩:=b (x+sz t x) (by omega) (by omega) w i (d.from_ (by omega));simp only[e,Ak];refine⟨⟨λh=>absurd h (by omega),λh=>absurd hx (by omega)⟩,λ_=>rfl,λk h=> ?_⟩;cases k with
   |zero=>
    refine⟨⟨AY _,o,hx,r⟩,?_,λo=> ?_⟩
    .show x+sz t x<p+sz t p↔0+1<_+1;constructor
     .intro q;have:¬(BR t f (x+sz t x) (p+sz t p)).length=0:=λa=>by have:=s.1 a;omega
      omega
     intro q;have:¬x+sz t x=p+sz t p:=λa=>by have:=s.2 a;omega
     omega
    show(BR t f (x+sz t x) (p+sz t p))[0]'(by omega)=_;exact j (by omega)
   |succ k=>
    obtain⟨g,n,y⟩:=v k (by omega);refine⟨g,?_,λo=>y (by omega)⟩;show _<_↔k+1+1<_+1;constructor
    .intro q;have:=n.1 q;omega
    intro q;exact n.2 (by omega)
  have e:BR t (f+1) x (p+sz t p)=[]:=by simp only[BR];rw[AI hx]
  simp only[e,Ar];exact⟨⟨λ_=>by omega,λ_=>by trivial⟩,λh=>absurd h (by omega),λk h=>absurd h (by omega)⟩
theorem Xa{x:Nd}(h:1<=x.kind/\x.kind<=5):Ic x.kind=3↔x.kind=3:=by
 unfold Ic;split
 .omega
 split
 .omega
 split
 .omega
 split<;>omega
theorem CQ.aX(h:CQ t)(i:Nat)(a:i<t.length):1<=t[i].kind/\t[i].kind<=5:=by
 rcases(h.node i a).kinds with⟨e,_⟩|⟨e,_⟩|⟨e,_⟩|⟨e,_⟩<;>omega
structure W7(t:List Nd)(p:Nat)(st:Nat->Dn)(K:List Nat):Prop where
 lt:∀k (h:k<K.length),K[k]<t.length
 fst:(st p).fst=K[0]?
 nxt:∀k (h:k<K.length),(st K[k]).nxt=K[k+1]?
 prv:∀k (h:k<K.length),(st K[k]).prv=(if k=0 then none else K[k-1]?)
 typ:∀k (h:k<K.length),((st K[k]).typ=3↔(t.getD K[k] default).kind=3)
 inj:∀i j (h1:i<K.length) (h2:j<K.length),K[i]=K[j]->i=j
theorem RY(l:CQ t)(g:∀i (h:i<t.length),N7 (sz t) 0 i (V i)/\Ex t[i] (V i))(z:p<t.length):W7 t p V (Bo t p):=by
 have r:=l.lam p (AY _) z;have D:=r.2.1;have O:Gu t (p+1) (p+sz t p):=by
  intro i y f;have w:=l.lam i (AY _) (by omega);exact⟨w.1,w.2.1,r.2.2.2 i (by omega) f,w.2.2.2⟩
 obtain⟨s1,s2,o⟩:=Fs t p (sz t p) (p+1) (by omega) (by omega) (by omega) (λm y f=>by omega) O;have e:Bo t p=BR t (sz t p) (p+1) (p+sz t p):=rfl;rw[<-e]at s1 s2 o;have a:∀k (h:k<(Bo t p).length),(Bo t p)[k]<t.length:=by
  intro k h;have:=(o k h).1.2.2.1;omega
 have s:∀d k (h:k+d+1<(Bo t p).length),(Bo t p)[k]'(by omega)<(Bo t p)[k+d+1]:=by
  intro d;induction d with
  |zero=>
   intro k h;have N:=(o k (by omega)).2.2 (by omega);have I:=(l.lam _ (AY _) (a k (by omega))).2.1;show(Bo t p)[k]<(Bo t p)[k+1];omega
  |succ d A=>
   intro k h;have T:=A k (by omega);have N:=(o (k+d+1) (by omega)).2.2 (by omega);have I:=(l.lam _ (AY _) (a (k+d+1) (by omega))).2.1;show(Bo t p)[k]<(Bo t p)[k+d+1+1];omega
 refine⟨a,?_,λk h=> ?_,λk h=> ?_,λk h=> ?_,λi j y f q=> ?_⟩
 .rw[(g p z).1.fst];by_cases c:1<sz t p
  .have b:0<(Bo t p).length:=by
    have:¬(Bo t p).length=0:=λq=>by have:=s1.1 q;omega
    omega
   rw[AJ c,AK b,s2 b]
  have b:(Bo t p).length=0:=s1.2 (by omega);rw[AI c,F5 (by omega)]
 .have u:(Bo t p)[k]≠0:=by have:=(o k h).1.2.1;omega
  obtain⟨n,p1,_,p3,_,_⟩:=(g _ (a k h)).1.kin u;obtain rfl:n=p:=p1.uniq (o k h).1;rw[p3];by_cases c:k+1<(Bo t n).length
  .rw[AJ ((o k h).2.1.2 c),AK c,(o k h).2.2 c]
  rw[AI (λq=>c ((o k h).2.1.1 q)),F5 (by omega)]
 .have u:(Bo t p)[k]≠0:=by have:=(o k h).1.2.1;omega
  obtain⟨n,p1,_,_,p4,p5⟩:=(g _ (a k h)).1.kin u;obtain rfl:n=p:=p1.uniq (o k h).1;cases k with
  |zero=>rw[AJ rfl];exact p4 (s2 (by omega))
  |succ k=>
   have x:(Bo t n)[k+1]≠n+1:=by
    have T:=s k 0 (by omega);have M:=s2 (by omega);simp only[By]at T;omega
   obtain⟨q,y,f,w⟩:=p5 x;rw[AI (by omega),y,Nat.add_sub_cancel,AK (by omega)];congr 1;have R:=(o k (by omega)).2.2 h;have E:=(o k (by omega)).1;have C:=(l.lam _ (AY _) (a k (by omega))).2.1;have H:=E.2.1;have S:n<q:=f.2.1;have U:q+sz t q=(Bo t n)[k]+sz t (Bo t n)[k]:=w.trans R;have L:q<(Bo t n)[k+1]:=by have:=(l.lam q (AY _) (by have:=a (k+1) h;omega)).2.1;omega
   rcases Nat.lt_trichotomy q (Bo t n)[k]with c|c|c
   .have:=E.2.2.2 q S c;omega
   .exact c
   have:=f.2.2.2 _ H c;omega
 .have v:=a k h;rw[(g _ v).2.typ,Do v];exact Xa (l.aX _ v)
 rcases Nat.lt_trichotomy i j with c|c|c
 .have:=s (j-i-1) i (by omega);have e2:i+(j-i-1)+1=j:=by omega
  simp only[e2]at this;omega
 .exact c
 have:=s (i-j-1) j (by omega);have e2:j+(i-j-1)+1=i:=by omega
 simp only[e2]at this;omega
def Qv:AS->Option Nat
 | .pointer (some a)=>some a.block
 |_=>none
def leftOf(bl:Nat->Nat)(K:List Nat)(v:AS):Nat:=match Qv v with|none=>K.length+1|some b=>K.length-K.findIdx λi=>bl i==b
theorem Sd{K:List Nat}(h:k<K.length)(t:∀i j (n:i<K.length) (o:j<K.length),Z K[i]=Z K[j]->i=j):leftOf Z K (.pointer (some ⟨Z K[k],0,none⟩))=K.length-k:=by
 unfold leftOf Qv;dsimp only;congr 1;rw[List.findIdx_eq h];refine⟨by simp,λj a=> ?_⟩;rw[CY];intro e;have:=t j k (by omega) h e;omega
def Ih(bl:Nat->Nat)(K:List Nat)(k:Nat):AS:= .pointer (K[k]?.map λi=>⟨bl i,0,none⟩)
theorem Ft{bl:Nat->Nat}{K:List Nat}(h:k<K.length):Ih bl K k= .pointer (some ⟨bl K[k],0,none⟩):=by
 unfold Ih;rw[AK h];rfl
theorem KT{bl:Nat->Nat}{K:List Nat}(h:K.length<=k):Ih bl K k= .pointer none:=by
 unfold Ih;rw[F5 h];rfl
def Ll(bl:Nat->Nat)(K:List Nat)(k:Nat):AS:=if k=0 then .pointer none else Ih bl K (k-1)
theorem G8{P:Program}(t e:Dk)(i:TypeInfo)(z:AS)(ht:P.underlying t=some (.slice e))(d:P.info? e=some i)(r:i.zero=some z)
 (o s:IntKind)(n c:Nat)(u:n<=c)(a:i.bytes*c<=281474976710656)(m:c<=9223372036854775807)(w:AB):
 (Instr.makeSlice t (.int o (n:Int)) (.int s (c:Int))).run P w= .ok (.slice (some ⟨w.heap.size,0,none⟩) n c) (w.alloc (.cells (DG z.cells (c*i.size)) e)):=by
 have l:(i.bytes:Int)*(c:Int)<=281474976710656:=by
  have h:((i.bytes*c:Nat):Int)<=281474976710656:=by omega
  rwa [Int.natCast_mul]at h
 have hr:=run_make (P:=P) w t e i z ht d r o s n c (by omega) (by omega) l (by omega);simp only[Int.toNat_natCast]at hr;exact hr
def UW(bl:Nat->Nat)(K:List Nat)(v:AS):Nat:=match Qv v with|none=>0|some b=>K.length-K.findIdx λi=>bl i==b
theorem KO{K:List Nat}(e:∀i j (o:i<K.length) (a:j<K.length),Z K[i]=Z K[j]->i=j)(t:k<=K.length):UW Z K (Ih Z K k)=K.length-k:=by
 by_cases h:k<K.length
 .have:=Sd h e;rw[Ft h];exact this
 rw[KT (by omega)];show 0=_;omega
theorem IL(s:CQ t)(i:Nat)(v:i<t.length):(Bo t i).length<=200/\(Bo t i).Nodup/\∀m∈Bo t i,m<t.length:=by
 have o:=s.lam i (AY _) v;have I:=KM t (i+sz t i) (sz t i) (i+1);have n:∀m∈Bo t i,m<t.length:=by
  intro m p;have:=LU t (i+sz t i) (sz t i) (i+1) m p;omega
 have r:(Bo t i).Nodup:=by
  have q:Gu t (i+1) (i+sz t i):=by
   intro j y w;have c:=s.lam j (AY _) (by omega);exact⟨c.1,c.2.1,o.2.2.2 j (by omega) w,c.2.2.2⟩
  obtain⟨s1,s2,u⟩:=Fs t i (sz t i) (i+1) (by omega) (by have:=o.2.1;omega) (by have:=o.2.1;omega) (λm y w=>by omega) q;have e:Bo t i=BR t (sz t i) (i+1) (i+sz t i):=rfl;rw[<-e]at s1 s2 u;have l:∀d k (h:k+d+1<(Bo t i).length),(Bo t i)[k]'(by omega)<(Bo t i)[k+d+1]:=by
   intro d;induction d with
   |zero=>
    intro k h;have z:=(u k (by omega)).2.2 (by omega);have x:=(s.lam _ (AY _) (n _ (AD (show k<(Bo t i).length by omega)))).2.1;show(Bo t i)[k]<(Bo t i)[k+1];omega
   |succ d g=>
    intro k h;have N:=g k (by omega);have z:=(u (k+d+1) (by omega)).2.2 (by omega);have x:=(s.lam _ (AY _) (n _ (AD (show k+d+1<(Bo t i).length by omega)))).2.1;show(Bo t i)[k]<(Bo t i)[k+d+1+1];omega
  unfold List.Nodup;rw[List.pairwise_iff_getElem];intro a b O A T e2;have:=l (b-a-1) a (by omega);have E:a+(b-a-1)+1=b:=by omega
  simp only[E]at this;omega
 have f:=s.le;exact⟨AH (BH r n) f,r,n⟩
def G7(t:List Nd)(i:Nat):Nat->Option Nat
 |0=>none
 |j+1=>if i<j+sz t j then some j else G7 t i j
theorem Fp:∀{k},G7 t i k=some p->p<k/\i<p+sz t p/\∀m,p<m->m<k->m+sz t m<=i:=by
 intro k;induction k with
 |zero=>intro h;cases h
 |succ j n=>
  intro h;simp only[G7]at h;by_cases c:i<j+sz t j
  .rw[AJ c]at h;cases h;exact⟨by omega,c,λm r a=>by omega⟩
  rw[AI c]at h;obtain⟨r,a,s⟩:=n h;refine⟨by omega,a,λm o d=> ?_⟩;by_cases e:m=j
  .subst e;omega
  exact s m o (by omega)
theorem Sm(o:i<p+sz t p):∀{k},p<k->∃q,G7 t i k=some q:=by
 intro k;induction k with
 |zero=>intro h;omega
 |succ j a=>
  intro h;simp only[G7];by_cases c:i<j+sz t j
  .rw[AJ c];exact⟨_,rfl⟩
  rw[AI c];by_cases e:p=j
  .subst e;exact absurd o c
  exact a (by omega)
theorem IT(h:G7 t i i=some p):Es (sz t) 0 p i:=by
 obtain⟨o,a,e⟩:=Fp h;exact⟨AY _,o,a,e⟩
theorem Jr(h:Es (sz t) 0 p i):G7 t i i=some p:=by
 obtain⟨q,e⟩:=Sm h.2.2.1 h.2.1;rw[e,(IT e).uniq h]
theorem Sn(t:List Nd):G7 t 0 0=none:=rfl
theorem CQ.aw(o:CQ t)(s:p<t.length):Gu t (p+1) (p+sz t p)/\1<=sz t p/\p+sz t p<=t.length:=by
 have e:=o.lam p (AY _) s;refine⟨λi h n=> ?_,e.2.1,e.2.2.1⟩;have a:=o.lam i (AY _) (by have:=e.2.2.1;omega);exact⟨a.1,a.2.1,e.2.2.2 i (by omega) n,a.2.2.2⟩
theorem OS(h:∀m,p<m->m<i->m+sz t m<=i)(d:i<p+sz t p):∀(f x:Nat),p<x->x<=i->p+sz t p<=x+f->Gu t x (p+sz t p)->i∈BR t f x (p+sz t p):=by
 intro f;induction f with
 |zero=>intro x _ s n;omega
 |succ f o=>
  intro x r s n a;simp only[BR];rw[AJ (by omega)];by_cases e:x=i
  .rw[e];simp
  have l:=a x (AG _) (by omega);have:=h x r (by omega);rw[BQ];exact .inr (o (x+sz t x) (by omega) this (by omega) (a.from_ (by omega)))
theorem L4(a:CQ t)(e:p<t.length)(h:Es (sz t) 0 p i):i∈Bo t p:=by
 obtain⟨_,r,n,o⟩:=h;obtain⟨l1,l2,s⟩:=a.aw e;exact OS o n (sz t p) (p+1) (by omega) (by omega) (by omega) l1
def Oo(t:List Nd):Fo:=⟨λi=>if i<t.length then G7 t i i else none,λi=>if i<t.length then Bo t i else[]⟩
theorem Fz(h:i<t.length):(Oo t).kids i=Bo t i:=by show(if i<t.length then _ else _)=_;rw[AJ h]
theorem JE(h:i<t.length):(Oo t).par i=G7 t i i:=by show(if i<t.length then _ else _)=_;rw[AJ h]
theorem Mf(o:CQ t)(s:p<t.length):Gu t (p+1) (p+sz t p):=by
 have e:=o.lam p (AY _) s;intro i h n;have a:=o.lam i (AY _) (by omega);exact⟨a.1,a.2.1,e.2.2.2 i (by omega) n,a.2.2.2⟩
theorem RX(o:CQ t)(a:p<t.length)(h:c∈Bo t p):G7 t c c=some p:=by
 have e:=o.lam p (AY _) a;have d:=e.2.1;obtain⟨s1,s2,i⟩:=Fs t p (sz t p) (p+1) (by omega) (by omega) (by omega) (λm r s=>by omega) (Mf o a);obtain⟨k,n,rfl⟩:=An h;exact Jr (i k n).1
theorem FR(n:CQ t):(Oo t).Ok (λi=>i<t.length) (sz t):=by
 have a:∀c p,(Oo t).par c=some p->c<t.length/\G7 t c c=some p:=by
  intro c p h;change (if c<t.length then G7 t c c else none)=some p at h;by_cases e:c<t.length
  .rw[AJ e]at h;exact⟨e,h⟩
  rw[AI e]at h;cases h
 refine⟨λp=> ?_,λp c=> ?_,λp c h=> ?_,λp c h=> ?_⟩
 .show(if p<t.length then Bo t p else[]).Nodup;by_cases e:p<t.length
  .rw[AJ e];exact(IL n p e).2.1
  rw[AI e];exact List.nodup_nil
 .constructor
  .intro h;change c∈(if p<t.length then Bo t p else[])at h;by_cases e:p<t.length
   .rw[AJ e]at h;rw[JE ((IL n p e).2.2 c h)];exact RX n e h
   rw[AI e]at h;cases h
  intro h;obtain⟨r,o⟩:=a c p h;have s:=(Fp o).1;rw[Fz (by omega)];exact L4 n (by omega) (IT o)
 .obtain⟨r,o⟩:=a c p h;have s:=(Fp o).1;exact⟨by show p<t.length;omega,r⟩
 obtain⟨r,o⟩:=a c p h;obtain⟨s,d,_⟩:=Fp o;have:=(n.lam p (AY _) (by omega)).2.2.2 c s d;omega
theorem Vt(o:CQ t)(v:∀i (h:i<t.length),N7 (sz t) 0 i (V i)/\Ex t[i] (V i))(i:Nat)(a:i<t.length):Il (Oo t) i (V i):=by
 have r:=(v i a).1;have O:=RY o v a;have w:(V i).par=G7 t i i:=by
  by_cases e:i=0
  .subst e;rw[(r.root rfl).1,Sn]
  obtain⟨p,p1,p2,_⟩:=r.kin e;rw[p2,Jr p1]
 refine⟨by rw[JE a];exact w,?_,?_,λh=> ?_,λp h=> ?_⟩
 .rw[Fz a,O.fst,List.head?_eq_getElem?]
 .rw[Fz a];have y:=o.lam i (AY _) a;have S:=y.2.1;obtain⟨s1,s2,j⟩:=Fs t i (sz t i) (i+1) (by omega) (by omega) (by omega) (λm z x=>by omega) (Mf o a);have e:Bo t i=BR t (sz t i) (i+1) (i+sz t i):=rfl;rw[<-e]at s1 s2 j;by_cases c:1<sz t i
  .obtain⟨k,z,x,N⟩:=r.lst1 c;obtain⟨m,E,d⟩:=An (L4 o a x);have l:=(j m E).2.1;rw[d]at l;have s:m+1=(Bo t i).length:=by
    have:¬(m+1<(Bo t i).length):=λq=>by have:=l.2 q;omega
    omega
   rw[z,List.getLast?_eq_getElem?,<-s,Nat.add_sub_cancel,AK E,d]
  have A:Bo t i=[]:=Ag (s1.2 (by omega));rw[r.lst0 c,A];rfl
 .rw[JE a]at h;by_cases e:i=0
  .exact(r.root e).2
  obtain⟨p,p1,_⟩:=r.kin e;rw[Jr p1]at h;cases h
 rw[JE a]at h;have I:=(Fp h).1;have g:p<t.length:=by omega
 have f:=RY o v g;obtain⟨k,n,d⟩:=An (L4 o g (IT h));have u:=(IL o p g).2.1;have b:Bo t p=(Bo t p).take k++i::(Bo t p).drop (k+1):=by
  rw[<-d,<-Ck n,Av]
 rw[Fz g];rw[b]at u;obtain⟨n1,n2,_⟩:=CH u;have l:=f.nxt k n;have T:=f.prv k n;rw[d]at l T;rw[l,T,b,CE _ _ _ n2,Bt _ _ _ n1,<-b,List.head?_drop];refine⟨?_,rfl⟩;cases k with
 |zero=>simp
 |succ k=>
  rw[AI (by omega),Nat.add_sub_cancel,List.getLast?_eq_getElem?,List.length_take,List.getElem?_take];have:min (k+1) (Bo t p).length-1=k:=by omega
  rw[this,AJ (by omega)]
theorem OL(o:CQ t):∀(d i:Nat),sz t i<=d->i<t.length->(Oo t).all (sz t) i=EP i (sz t i):=by
 intro d;induction d with
 |zero=>
  intro i c n;have:=(o.lam i (AY _) n).2.1;omega
 |succ d r=>
  intro i c n;have a:=o.lam i (AY _) n;have p:=a.2.1;have w:=a.2.2.1;rw[Fo.all_eq (FR o),Fz n];have key:∀f k,i<k->k<=i+sz t i->i+sz t i<=k+f->(BR t f k (i+sz t i)).flatMap ((Oo t).all (sz t))=EP k (i+sz t i-k):=by
   intro f;induction f with
   |zero=>
    intro k _ u l;have:i+sz t i-k=0:=(by omega);rw[this];rfl
   |succ f s=>
    intro k m u l;simp only[BR];by_cases e:k<i+sz t i
    .have h:=o.lam k (AY _) (by omega);have g:=h.2.1;have y:=a.2.2.2 k m e;rw[AJ e,A_,r k (by omega) (by omega),s (k+sz t k) (by omega) (by omega) (by omega)];have:i+sz t i-k=sz t k+(i+sz t i-(k+sz t k)):=by omega
     rw[this,List.range'_append_1]
    have:i+sz t i-k=0:=(by omega);rw[AI e,this];rfl
  show i::(BR t (sz t i) (i+1) (i+sz t i)).flatMap _=_;rw[key (sz t i) (i+1) (by omega) (by omega) (by omega)];have:sz t i=(i+sz t i-(i+1))+1:=by omega
  conv=>rhs;rw[this]
  rw[List.range'_succ]
def CJ(l:List At2):List AS:=l.flatMap λx=>[.string x.key,.string x.val]
def Eo(kb:Nat->Nat)(up:Option Nat)(x:Nd)(e:Int)(aa:Option Ai)(ac:Nat)(n:Nat)(a:Option Ai)(t:Nat):Array AS:=
 #[.int .i64 e,.int .i64 x.kind,.string x.tag,.string x.text,.slice aa x.attrs.length ac,.int .i64 x.size,Au kb up,.slice a n t]
structure Ct(F:Fo)(S:Nat->Prop)(nd:Nat->Nd)(pl:Nat->Int)(B:Nat)(kb:Nat->Nat)(w:AB):Prop where
 node:∀i,S i->B<=kb i/\∃aa ac ka kc,w.heap[kb i]? =some (.cells (Eo kb (F.par i) (nd i) (pl i) aa ac (F.kids i).length ka kc) 81 (0,0))/\
  w.ownsRow B 49 2 (.slice aa (nd i).attrs.length ac) (nd i).attrs.length (CJ (nd i).attrs)/\
  w.ownsRow B 57 1 (.slice ka (F.kids i).length kc) (F.kids i).length (Ad kb (F.kids i))
 inj:∀i j,S i->S j->kb i=kb j->i=j
theorem Ct.kept{w':AB}(h:Ct F S H P B O w)(e:∀b,B<=b->b<w.heap.size->w'.heap[b]? =w.heap[b]?):Ct F S H P B O w':=by
 refine⟨λi s=> ?_,h.inj⟩;obtain⟨a,aa,ac,n,o,t,d,r⟩:=h.node i s;exact⟨a,aa,ac,n,o,by rw[e _ a (AE.1 t).1];exact t,BB d e,BB r e⟩
theorem Ct.up(h:Ct F S H P B O w)(e:AL w.heap.size w N):Ct F S H P B O N:=h.kept (λb _ t=>e.block b t)
theorem Ct.lt(h:Ct F S H P B O w)(e:S i):O i<w.heap.size:=by
 obtain⟨n,aa,ac,o,a,t,_⟩:=h.node i e;exact(AE.1 t).1
theorem Ct.cells(h:Ct F S H P B O w)(r:S i):
 (∀j,w.frozen? ⟨O i,j,none⟩=false)/\w.cell? ⟨O i,6,none⟩=some (Au O (F.par i))/\w.cell? ⟨O i,1,none⟩=some (.int .i64 (H i).kind)/\
  ∃a t,w.cell? ⟨O i,7,none⟩=some (.slice a (F.kids i).length t)/\(F.kids i).length<=t/\w.ownsRow B 57 1 (.slice a (F.kids i).length t) (F.kids i).length (Ad O (F.kids i)):=by
 obtain⟨l,aa,ac,a,t,o,u,n⟩:=h.node i r;refine⟨λj=>A7 w _ j _ _ o,?_,?_,a,t,?_,?_,n⟩
 .rw[AZ w _ _ _ _ _ o];rfl
 .rw[AZ w _ _ _ _ _ o];rfl
 .rw[AZ w _ _ _ _ _ o];rfl
 rcases n.2 with⟨e,e2⟩|⟨g,cap,d,e,_,_,s,_⟩
 .omega
 cases e;exact s
theorem Tryz.Z8:(Tryz.prog.info? 81).map (λi=>i.size)=some 8:=by kernel_rfl
theorem Kx(i:Nat)(kb:Nat->Nat)(w:AB):(binOp .eql 57 (.pointer (some ⟨kb i,0,none⟩)) (.pointer (some ⟨kb i,0,none⟩))).run AC w= .ok (.bool true) w:=by
 obtain⟨j,e,_⟩:=Eu.1 Tryz.Z8;exact run_eql_ptr_same w ⟨kb i,0,none⟩ underlying57 e
theorem Ct.other(h:Ct F S H P B O w)(o:S i)(a:S k)(t:k≠i):
 (binOp .eql 57 (.pointer (some ⟨O k,0,none⟩)) (.pointer (some ⟨O i,0,none⟩))).run AC w= .ok (.bool false) w:=by
 obtain⟨j,n,s⟩:=Eu.1 Tryz.Z8;obtain⟨_,_,_,_,_,e1,_⟩:=h.node k a;obtain⟨_,_,_,_,_,e2,_⟩:=h.node i o;exact run_eql_ptr_other w underlying57 n (by omega) (λe=>t (h.inj k i a o (congrArg Addr.block e))) e1 e2
theorem Jw(h:Ct F S H P B O w)(i:Nat)(o:S i)(t:F.par i=none):
 AX AC 63 #[.pointer (some ⟨O i,0,none⟩)] w λe w'=>e= .returned (.int .i64 (-1))/\w=w':=by
 obtain⟨-,a,-⟩:=h.cells o;rw[t]at a;simp only[Au,BF]at a;clear h t;go_enter func63,ntmps63;go_wp2;go_ret;exact⟨rfl,rfl⟩
theorem Ed(o:F.Ok S u)(h:Ct F S H P B O w)(i p:Nat)(c:F.par i=some p)(l1 l2:List Nat)(t:F.kids p=l1++i::l2)(z:(F.kids p).length<=100000):
 AX AC 63 #[.pointer (some ⟨O i,0,none⟩)] w λe w'=>e= .returned (.int .i64 l1.length)/\w=w':=by
 obtain⟨y,d⟩:=o.dom p i c;obtain⟨-,j,-⟩:=h.cells d;obtain⟨-,-,-,W,M,Y,U,a⟩:=h.cells y;rw[c]at j;simp only[Au,As]at j;obtain⟨_,_,E,_,s⟩:=B6.own a;cases E
 have n:=o.nodup p;rw[t]at n;have n1:=(CH n).1;obtain⟨b,D,rfl,C,g⟩:=s.at_ (by rw[AM,t];simp;omega);have R:=AA g;have l:=AA t;have I:=AA n1;have N:=AA (λk t m=>h.other (i:=i) (k:=k) d t m);have A:=AA (λq (T:q∈F.kids p)=>(o.dom p q ((o.mem p q).1 T)).2);have e1:=Kx i O w;have L:l1.length<(F.kids p).length:=by rw[t];simp
 clear h c a s n n1 g t;go_enter func63,ntmps63;go_wp2;go_loopw [3] (λx wr=>∃k:Nat,k<=l1.length/\x= .int .i64 k/\w=wr) (λx _=>l1.length-(Aa x).toNat)
 .exact⟨0,by omega,rfl,rfl⟩
 obtain⟨k,t,rfl,rfl⟩:=hrel;have v:=R.o k (by rw[AM];omega);rw[A5 (by omega)]at v;have f:k<(F.kids p).length:=by omega
 by_cases r:k<l1.length
 .have hx:(F.kids p)[k]=l1[k]:=by
   have:=l.o;simp only[this];rw[List.getElem_append_left r]
  have e2:=N.o (F.kids p)[k] (A.o _ (AD f)) (by rw[hx];exact λe=>I.o (e▸AD r));clear hx;go_wp2;go_roundw
  .exact⟨k+1,by omega,by go_num,by trivial⟩
  simp[Aa];omega
 have hx:(F.kids p)[k]=i:=by
  have:=l.o;simp only[this];rw[List.getElem_append_right (by omega)];have:k-l1.length=0:=by omega
  simp[this]
 rw[hx]at v;clear hx;go_wp2;go_ret;have:k=l1.length:=by omega
 subst this;exact⟨rfl,rfl⟩
theorem Tryz.aI:(Tryz.prog.info? 57).map (λi=>(i.zero,i.size,i.bytes))=some (some (.pointer none),1,8):=by kernel_rfl
theorem LW(bl:Nat->Nat)(l m:List Nat):Ad bl (l++m)=Ad bl l++Ad bl m:=by simp[Ad]
theorem Ni(bl:Nat->Nat)(l:List Nat):∀u∈Ad bl l,u.oneCell'=true:=by
 intro u e;obtain⟨x,_,rfl⟩:=BL.1 e;rfl
section
variable (w:AB)
theorem Ki{o:ER}{a:Act}(s x:Operand)
 (z:o.op= .call {callee:= .builtin .append,args:= #[s,x],argTypes:= #[54,54]})(kb:Nat->Nat)
 (base:Nat)(v:AS)(xs:List Nat)(j:a.eval s=v)(d:w.ownsRow base 57 1 v xs.length (Ad kb xs))
 (A:Option Ai)(m c:Nat)(t:List Nat)(E:m=t.length)(hx:a.eval x= .slice A m c)(hr:B6 w w.heap.size A (Ad kb t))(k:xs.length+t.length<=1000000)(i:base<=w.heap.size)
 (h:∀r n w',w'.ownsRow base 57 1 (.slice r (xs++t).length n) (xs++t).length (Ad kb (xs++t))->w.grownBy w' v.ownBlock->((AO r (xs++t).length n).ownBlock=v.ownBlock\/(AO r (xs++t).length n).ownBlock=some w.heap.size)->K (a.put o.dst (.slice r (xs++t).length n)) w'):
 Oper.wp AC o a w K Q:=by
 subst E;obtain⟨q,l,g,y,f⟩:=D6 Tryz.aI;have p:=hr.reads;rw[AM]at p;refine EN w s x 54 z base 57 q (.pointer none) 1 8 underlying54 l g y f rfl (by decide) v xs.length (Ad kb xs) j d w.heap.size A t.length c (Ad kb t) hx p (Ni kb t) (by unfold maxLen;omega) (by omega) i ?_;intro O w' u T b;obtain⟨r,n,rfl⟩:=DA u;have e:(xs++t).length=xs.length+t.length:=AN;rw[<-LW]at u;rw[<-e]at u b|-;exact h r n w' u T b
theorem Cr{o:ER}{a:Act}{E:Prop}(l:o.guard=none)(s x:Operand)
 (y:o.op= .call {callee:= .builtin .append,args:= #[s,x],argTypes:= #[54,54]})(kb:Nat->Nat)
 (base:Nat)(v:AS)(xs:List Nat)(f:a.eval s=v)(i:w.ownsRow base 57 1 v xs.length (Ad kb xs))
 (A:Option Ai)(m c:Nat)(e:List Nat)(g:m=e.length)(hx:a.eval x= .slice A m c)(hr:B6 w w.heap.size A (Ad kb e))(n:xs.length+e.length<=1000000)(t:base<=w.heap.size)
 (h:∀d r w',w'.ownsRow base 57 1 (.slice d (xs++e).length r) (xs++e).length (Ad kb (xs++e))->w.grownBy w' v.ownBlock->((AO d (xs++e).length r).ownBlock=v.ownBlock\/(AO d (xs++e).length r).ownBlock=some w.heap.size)->K (a.put o.dst (.slice d (xs++e).length r)) w'):
 if Du o (yielded T a.tmps)=true then Oper.wp AC o a w K Q else E:=by
 have u:Du o (yielded T a.tmps)=true:=by simp[Du,l]
 rw[AJ u];exact Ki w s x y kb base v xs f i A m c e g hx hr n t h
theorem Az{rest:List ER}{o:ER}{a:Act}(l:o.guard=none)(s x:Operand)
 (f:o.op= .call {callee:= .builtin .append,args:= #[s,x],argTypes:= #[54,54]})(kb:Nat->Nat)
 (base:Nat)(v:AS)(xs:List Nat)(u:a.eval s=v)(r:w.ownsRow base 57 1 v xs.length (Ad kb xs))
 (A:Option Ai)(m c:Nat)(e:List Nat)(y:m=e.length)(hx:a.eval x= .slice A m c)(hr:B6 w w.heap.size A (Ad kb e))(d:xs.length+e.length<=1000000)(t:base<=w.heap.size)
 (h:∀n i w',w'.ownsRow base 57 1 (.slice n (xs++e).length i) (xs++e).length (Ad kb (xs++e))->w.grownBy w' v.ownBlock->((AO n (xs++e).length i).ownBlock=v.ownBlock\/(AO n (xs++e).length i).ownBlock=some w.heap.size)->wpList AC T Q rest (a.put o.dst (.slice n (xs++e).length i)) w'):
 wpList AC T Q (o::rest) a w:=
 wpList_plain l λ_ g=>Ki w s x f kb base v xs u r A m c e y hx hr d t λn i w' k b p=>g _ _ (h n i w' k b p)
end
def Fo.Ys(F:Fo)(p:Nat)(L:List Nat):Fo:=⟨F.par,λq=>if q=p then L else F.kids q⟩
def Fo.Yt(F:Fo)(i:Nat)(o:Option Nat):Fo:=⟨λq=>if q=i then o else F.par q,F.kids⟩
theorem Ct.Ys{w:AB}(h:Ct F S H P B O w)(n:S p){L:List Nat}(d:w.ownsRow B 57 1 (.slice a L.length c) L.length (Ad O L)):
 Ct (F.Ys p L) S H P B O (w.setCell ⟨O p,7,none⟩ (.slice a L.length c)):=by
 refine⟨λi s=> ?_,h.inj⟩;obtain⟨_,_,_,_,_,t,_,_⟩:=h.node p n;obtain⟨l,aa,ac,g,y,r,m,u⟩:=h.node i s;have o1:=BS m (p:=⟨O p,7,none⟩) (Ax m t (by decide)) (.slice a L.length c);have o2:=BS u (p:=⟨O p,7,none⟩) (Ax u t (by decide)) (.slice a L.length c);have f:=BS d (p:=⟨O p,7,none⟩) (Ax d t (by decide)) (.slice a L.length c);by_cases e:i=p
 .subst e;have o:(F.Ys i L).kids i=L:=by show(if i=i then L else _)=L;rw[AJ rfl]
  rw[o];refine⟨l,aa,ac,a,c,?_,o1,f⟩;exact Ao w (O i) 7 _ _ _ r
 have o:(F.Ys p L).kids i=F.kids i:=by show(if i=p then L else _)=_;rw[AI e]
 rw[o];refine⟨l,aa,ac,g,y,?_,o1,o2⟩;rw[A8 _ _ _ _ (λe2=>e (h.inj i p s n e2))];exact r
theorem Ct.Yt{w:AB}(h:Ct F S H P B O w)(n:S p)(o:Option Nat):
 Ct (F.Yt p o) S H P B O (w.setCell ⟨O p,6,none⟩ (Au O o)):=by
 refine⟨λi s=> ?_,h.inj⟩;obtain⟨_,_,_,_,_,t,_,_⟩:=h.node p n;obtain⟨m,aa,ac,c,u,r,l,d⟩:=h.node i s;have o1:=BS l (p:=⟨O p,6,none⟩) (Ax l t (by decide)) (Au O o);have o2:=BS d (p:=⟨O p,6,none⟩) (Ax d t (by decide)) (Au O o);refine⟨m,aa,ac,c,u,?_,o1,o2⟩;by_cases e:i=p
 .subst e;have a:(F.Yt i o).par i=o:=by show(if i=i then o else _)=o;rw[AJ rfl]
  rw[a];exact Ao w (O i) 6 _ _ _ r
 have a:(F.Yt p o).par i=F.par i:=by show(if i=p then o else _)=_;rw[AI e]
 rw[a,A8 _ _ _ _ (λe2=>e (h.inj i p s n e2))];exact r
structure Al(S:Nat->Prop)(kb:Nat->Nat)(w w':AB):Prop where
 os:w'.os=w.os
 tape:w'.tape=w.tape
 output:w'.output=w.output
 size:w.heap.size<=w'.heap.size
 block:∀b,b<w.heap.size->(∀i,S i->b≠kb i)->w'.heap[b]? =w.heap[b]?
theorem Al.refl(S:Nat->Prop)(kb:Nat->Nat)(w:AB):Al S kb w w:=⟨rfl,rfl,rfl,AG _,λ_ _ _=>rfl⟩
theorem Al.trans{a b c:AB}(h:Al S O a b)(k:Al S O b c):Al S O a c:=
 ⟨k.os.trans h.os,k.tape.trans h.tape,k.output.trans h.output,AH h.size k.size,λq t e=>(k.block q (AR t h.size) e).trans (h.block q t e)⟩
theorem Al.Yq{a b:AB}(h:AL a.heap.size a b):Al S O a b:=⟨h.os,h.tape,h.output,h.size,λq e _=>h.block q e⟩
theorem Al.set{kb:Nat->Nat}{w:AB}(h:Al S kb w N)(t:S i)(j:Nat)(u:AS):Al S kb w (N.setCell ⟨kb i,j,none⟩ u):=
 ⟨h.os,h.tape,h.output,by simpa [Cb]using h.size,λb a e=>(A8 _ _ _ _ (by exact e i t)).trans (h.block b a e)⟩
theorem Al.below{a b:AB}(h:Al S O a b)(s:B<=a.heap.size)(t:∀i,S i->B<=O i):AL B a b:=
 ⟨h.os,h.tape,h.output,h.size,λq n=>h.block q (by omega) (λi o e=>by have:=t i o;omega)⟩
theorem Al.drew{w:AB}(h:Al S O w N):Al S O w N.drew:=⟨h.os,h.tape,h.output,h.size,h.block⟩
theorem Al.own{w:AB}(h:Al S O w N){e size:Nat}{xs:List AS}(o:w.ownsRow A e size v n xs)(d:∀i,S i->v.ownBlock≠some (O i)):N.ownsRow A e size v n xs:=by
 refine⟨o.1,?_⟩;rcases o.2 with c|⟨g,cap,t,a,u,s,r⟩
 .exact .inl c
 refine .inr ⟨g,cap,t,a,u,?_,r⟩;rw[h.block g (AE.1 s).1 (λi l e=>d i l (by rw[a,A6,e]))];exact s
theorem Tryz.infoAt:(Tryz.prog.info? 49).map (λi=>(i.zero,i.size,i.bytes))=some (some (.agg #[.string ⟨#[]⟩,.string ⟨#[]⟩]),2,32):=by kernel_rfl
theorem Hj:∀{i:Nat} (t:i<l.length),(CJ l)[i*2]? =some (.string l[i].key)/\(CJ l)[i*2+1]? =some (.string l[i].val):=by
 induction l with
 |nil=>intro i t;simp at t
 |cons x l a=>
  intro i t;cases i with
  |zero=>exact⟨rfl,rfl⟩
  |succ i=>
   have:=a (i:=i) (by simpa using t);have e:CJ (x::l)= .string x.key:: .string x.val::CJ l:=rfl;have e1:(i+1)*2=i*2+2:=by omega
   rw[e,e1];simpa using this
theorem NW(l:List At2):(CJ l).length=l.length*2:=by
 induction l with
 |nil=>rfl
 |cons x l t=>have e:CJ (x::l)= .string x.key:: .string x.val::CJ l:=rfl;rw[e];simp[t];omega
theorem Sh(l:List At2):∀u∈CJ l,u.oneCell'=true:=by
 intro u e;obtain⟨x,_,hx⟩:=C1.1 e;simp at hx;rcases hx with rfl|rfl<;>rfl
theorem JZ.reads(h:JZ w B a l):GC w B 2 a l.length (CJ l):=by
 refine⟨NW l,λs=> ?_⟩;rcases h.2.2 with e|⟨b,o,rfl,c,d⟩
 .rw[e]at s;simp at s
 refine⟨_,rfl,c,λj u t=> ?_⟩;obtain⟨r,_⟩:=C6.1 t;rw[NW]at r;have n:j/2<l.length:=by omega
 obtain⟨c1,c2⟩:=d (j/2) n;rw[Ae,AK n,BE]at c1 c2;obtain⟨f1,f2⟩:=Hj n;rw[Ba];rcases Nat.mod_two_eq_zero_or_one j with e|e
 .have i:j/2*2=j:=by omega
  rw[i]at c1 f1;rw[f1]at t;cases t;exact c1
 have i:j/2*2+1=j:=by omega
 rw[Nat.add_assoc,i]at c2;rw[i]at f2;rw[f2]at t;cases t;exact c2
def FO(v1 v2:AS):Prop:=∀b,v1.ownBlock=some b->v2.ownBlock≠some b
theorem FO.symm{v1 v2:AS}(h:FO v1 v2):FO v2 v1:=λb e t=>h b t e
theorem FO.nil(n m:Nat)(v:AS):FO (.slice none n m) v:=λb h=>by simp[A6]at h
theorem FO.step{v1 v2 t:AS}(h:FO v1 v2)(i:t.ownBlock=v1.ownBlock\/t.ownBlock=some n)(o:∀k,v2.ownBlock=some k->k<n):FO t v2:=by
 intro b a s;rcases i with e|e
 .exact h b (e▸a) s
 rw[e]at a;cases a
 exact absurd (o _ s) (Nat.lt_irrefl _)
theorem FO.ne{v1 v2:AS}(h:FO v1 v2):v2.ownBlock=none\/v2.ownBlock≠v1.ownBlock:=by
 cases t:v2.ownBlock with
 |none=>exact .inl rfl
 |some b=>exact .inr λe=>h b e.symm t
structure GW(F:Fo)(S:Nat->Prop)(nd:Nat->Nd)(pl:Nat->Int)(B:Nat)(kb:Nat->Nat)(kv:Nat->AS)(w:AB):Prop where
 node:∀i,S i->B<=kb i/\∃aa ac ka kc,kv i= .slice ka (F.kids i).length kc/\w.heap[kb i]? =some (.cells (Eo kb (F.par i) (nd i) (pl i) aa ac (F.kids i).length ka kc) 81 (0,0))/\
  w.ownsRow B 49 2 (.slice aa (nd i).attrs.length ac) (nd i).attrs.length (CJ (nd i).attrs)/\
  w.ownsRow B 57 1 (kv i) (F.kids i).length (Ad kb (F.kids i))
 inj:∀i j,S i->S j->kb i=kb j->i=j
 apt:∀i j,S i->S j->i≠j->FO (kv i) (kv j)
theorem GW.kno{t:Nat->AS}(h:GW F S H P B O t w):Ct F S H P B O w:=by
 refine⟨λi n=> ?_,h.inj⟩;obtain⟨s,aa,ac,o,a,e,l,d,r⟩:=h.node i n;exact⟨s,aa,ac,o,a,l,d,e▸r⟩
theorem GW.kept{a:Nat->AS}{w':AB}(h:GW F S H P B O a w)(t:∀b,B<=b->b<w.heap.size->w'.heap[b]? =w.heap[b]?):GW F S H P B O a w':=by
 refine⟨λi d=> ?_,h.inj,h.apt⟩;obtain⟨n,aa,ac,r,s,e,o,u,l⟩:=h.node i d;exact⟨n,aa,ac,r,s,e,by rw[t _ n (AE.1 o).1];exact o,BB u t,BB l t⟩
theorem GW.grown{o:Nat->AS}(h:GW F S H P B O o w){xs:List AS}(c:w.ownsRow A 57 1 v n xs)(q:∀i,S i->FO v (o i))(r:w.grownBy N v.ownBlock):GW F S H P B O o N:=by
 refine⟨λi m=> ?_,h.inj,h.apt⟩;obtain⟨j,aa,ac,p,y,e,s,f,x⟩:=h.node i m;have l:v.ownBlock≠some (O i):=Ax c s (by decide);refine⟨j,aa,ac,p,y,e,?_,f.kept r ?_,x.kept r (q i m).ne⟩
 .rw[r.block _ (AE.1 s).1 (λe2=>l e2.symm)];exact s
 cases a:(AO aa (H i).attrs.length ac).ownBlock with
 |none=>exact .inl rfl
 |some b=>
  refine .inr λe2=> ?_;obtain⟨g,cap,t,k,_,u,_⟩:∃g cap t,(AO aa (H i).attrs.length ac)= .slice (some ⟨g,0,none⟩) (H i).attrs.length cap/\B<=g/\w.heap[g]? =some (.cells t 49 (0,0))/\True:=by
   rcases f.2 with⟨d,_⟩|⟨g,cap,t,d,E,z,_⟩
   .rw[d]at a;simp[A6]at a
   exact⟨g,cap,t,d,E,z,trivial⟩
  rw[k]at a;simp[A6]at a;subst a;exact Ax c u (by decide) e2.symm
theorem De(w:AB)(t:Dk)(size:Nat):(w.alloc (.cells #[] t)).ownsRow w.heap.size t size (.slice (some ⟨w.heap.size,0,none⟩) 0 0) 0 []:=by
 refine⟨by simp,.inr ⟨w.heap.size,0,#[],rfl,AG _,?_,by omega,by simp[maxLen],by simp,by simp⟩⟩;exact Ah w _
theorem OI(l m:List At2):CJ (l++m)=CJ l++CJ m:=by simp[CJ]
theorem D5{rest:List ER}{o:ER}{a:Act}(p:o.guard=none)(s x:Operand)
 (z:o.op= .call {callee:= .builtin .append,args:= #[s,x],argTypes:= #[39,39]})
 (base:Nat)(v:AS)(xs:List At2)(j:a.eval s=v)(d:w.ownsRow base 49 2 v xs.length (CJ xs))
 (A:Option Ai)(m c:Nat)(t:List At2)(E:m=t.length)(hx:a.eval x= .slice A m c)(hr:JZ w w.heap.size A t)(k:xs.length+t.length<=1000000)(i:base<=w.heap.size)
 (h:∀r n w',w'.ownsRow base 49 2 (.slice r (xs++t).length n) (xs++t).length (CJ (xs++t))->w.grownBy w' v.ownBlock->((AO r (xs++t).length n).ownBlock=v.ownBlock\/(AO r (xs++t).length n).ownBlock=some w.heap.size)->wpList AC T Q rest (a.put o.dst (.slice r (xs++t).length n)) w'):
 wpList AC T Q (o::rest) a w:=by
 subst E;obtain⟨q,l,g,y,f⟩:=D6 Tryz.infoAt;refine FY w p s x 39 z base 49 q (.agg #[.string ⟨#[]⟩,.string ⟨#[]⟩]) 2 32 underlying39 l g y f rfl (by decide) v xs.length (CJ xs) j d w.heap.size A t.length c (CJ t) hx hr.reads (Sh t) (by unfold maxLen;omega) (by omega) i ?_;intro I w' u O b;obtain⟨r,n,rfl⟩:=DA u;have e:(xs++t).length=xs.length+t.length:=AN;rw[<-OI]at u;rw[<-e]at u b|-;exact h r n w' u O b
def O7:Fo:=⟨λ_=>none,λ_=>[]⟩
def ND(t:List Nd)(i:Nat):Nd:=t.getD i default
theorem GW.bR{o:Nat->AS}(h:GW F S H P B O o w){y:Array AS}{T:Dk}(a:w.heap[g]? =some (.cells y T (0,0)))(m:81≠T)(c:49≠T)(l:57≠T)(j:Nat)(u:AS):
 GW F S H P B O o (w.setCell ⟨g,j,none⟩ u):=by
 refine⟨λi r=> ?_,h.inj,h.apt⟩;obtain⟨d,aa,ac,s,n,e,t,o1,o2⟩:=h.node i r;refine⟨d,aa,ac,s,n,e,?_,BS o1 (Ax o1 a c) _,BS o2 (Ax o2 a l) _⟩;rw[A8 _ _ _ _ (λe2=> ?_)]
 .exact t
 have f:O i=g:=e2;rw[f,a]at t;injection t with t;injection t with _ t;exact m t.symm
theorem GW.add{kb2:Nat->Nat}(h:GW O7 (λi=>i<k) H P B O (λ_=> .slice none 0 0) w)(t:∀i,i<k->kb2 i=O i)(a:kb2 k=g)(s:B<=g)(o:∀i,i<k->O i<g){aa:Option Ai}{ac:Nat}
 (m:w.heap[g]? =some (.cells (Eo kb2 none (H k) (P k) aa ac 0 none 0) 81 (0,0)))(l:w.ownsRow B 49 2 (.slice aa (H k).attrs.length ac) (H k).attrs.length (CJ (H k).attrs)):
 GW O7 (λi=>i<k+1) H P B kb2 (λ_=> .slice none 0 0) w:=by
 refine⟨λi u=> ?_,λi j u y e=> ?_,λi j _ _ _=>FO.nil _ _ _⟩
 .by_cases e:i=k
  .subst e;rw[a];exact⟨s,aa,ac,none,0,rfl,m,l,Aw _ _ _ _⟩
  have n:i<k:=by omega
  obtain⟨f,aa,ac,d,r,e1,c,o1,o2⟩:=h.node i n;rw[t i n];exact⟨f,aa,ac,d,r,e1,c,o1,o2⟩
 by_cases e1:i=k
 .by_cases e2:j=k
  .omega
  rw[e1,a,t j (by omega)]at e;have:=o j (by omega);omega
 by_cases e2:j=k
 .rw[e2,a,t i (by omega)]at e;have:=o i (by omega);omega
 rw[t i (by omega),t j (by omega)]at e;exact h.inj i j (by omega) (by omega) e
def Wl(t:List Nd)(w:AB)(x:AS)(wr:AB):Prop:=
 ∃(k:Nat) (e:Nat->Nat) (o:Option Ai) (a:Nat),k<=t.length/\x= .int .i64 k/\GW O7 (λi=>i<k) (ND t) (λi=>(i:Int)) w.heap.size e (λ_=> .slice none 0 0) wr/\
  wr.heap[w.heap.size]? =some (.cells #[.slice o k a,.int .i64 t.length,.bool false] 56 (0,0))/\wr.ownsRow w.heap.size 57 1 (.slice o k a) k (Ad e (BV k))/\AL w.heap.size w wr
theorem Qw{kb2:Nat->Nat}{l:List Nat}(h:∀i∈l,kb2 i=O i):Ad kb2 l=Ad O l:=by
 unfold Ad;exact List.map_congr_left λi e=>by rw[h i e]
theorem T1(V:k<t.length){l:Option Ai}{d:Nat}(C:GW O7 (λi=>i<k) (ND t) (λi=>(i:Int)) w.heap.size O (λ_=> .slice none 0 0) wr)
 (I:wr.heap[w.heap.size]? =some (.cells #[.slice l k d,.int .i64 t.length,.bool false] 56 (0,0)))(u:wr.ownsRow w.heap.size 57 1 (.slice l k d) k (Ad O (BV k)))(m:AL w.heap.size w wr)
 {x:Nd}(hx:x=ND t k){o:AB}{a1:Option Ai}{c1:Nat}{aa:Option Ai}{ac:Nat}
 (v:((wr.alloc (.cells #[.int .i64 (k:Int),.int .i64 x.kind,.string x.tag,.string x.text,.slice aa x.attrs.length ac,.int .i64 x.size,.pointer none,.slice none 0 0] 81)).alloc (.cells #[] 49)).grownBy o (some (wr.heap.size+1)))
 (E:o.ownsRow (wr.heap.size+1) 49 2 (.slice a1 x.attrs.length c1) x.attrs.length (CJ x.attrs)):
 let a:=(o.setCell ⟨wr.heap.size,4,none⟩ (.slice a1 x.attrs.length c1)).alloc (.cells #[.pointer (some ⟨wr.heap.size,0,none⟩)] 57)
 ∃r:Nat->Nat,r k=wr.heap.size/\a.ownsRow w.heap.size 57 1 (.slice l k d) (BV k).length (Ad r (BV k))/\B6 a a.heap.size (some ⟨o.heap.size,0,none⟩) (Ad r [k])/\
  (a.cell? ⟨w.heap.size,0,none⟩=some (.slice l k d)/\a.frozen? ⟨w.heap.size,0,none⟩=false)/\
  ∀h (j:Option Ai) (c2:Nat),a.grownBy h (AO l k d).ownBlock->h.ownsRow w.heap.size 57 1 (.slice j (BV k++[k]).length c2) (BV k++[k]).length (Ad r (BV k++[k]))->
   (h.cell? ⟨w.heap.size,0,none⟩=some (.slice l k d)/\h.frozen? ⟨w.heap.size,0,none⟩=false)/\Wl t w (.int .i64 ((k+1:Nat):Int)) (h.setCell ⟨w.heap.size,0,none⟩ (.slice j (k+1) c2)):=by
 intro a;have z:w.heap.size<wr.heap.size:=(AE.1 I).1;have N:=v.size;simp only[BX]at N;have H:AL wr.heap.size wr o:=(((AW _ _).alloc (AG _) _).alloc (by rw[BX];omega) _).grown v (by rw[BX,BX];omega) (λq e=>by cases e;omega);have T:AL wr.heap.size wr (o.setCell ⟨wr.heap.size,4,none⟩ (.slice a1 x.attrs.length c1)):=H.setCell (by exact AG _) _;have f:(o.setCell ⟨wr.heap.size,4,none⟩ (.slice a1 x.attrs.length c1)).heap.size=o.heap.size:=by simp[Cb]
 have s:AL wr.heap.size wr a:=T.alloc T.size _;have P:a.heap.size=o.heap.size+1:=by show((o.setCell _ _).alloc _).heap.size=_;rw[BX,f]
 have Y:o.heap[wr.heap.size]? =some (.cells #[.int .i64 (k:Int),.int .i64 x.kind,.string x.tag,.string x.text,.slice aa x.attrs.length ac,.int .i64 x.size,.pointer none,.slice none 0 0] 81 (0,0)):=by
  rw[v.block wr.heap.size (by rw[BX,BX];omega) (λe=>by injection e with e;omega),B5 _ _ _ (by rw[BX];omega)];exact Ah wr _
 have W:a.heap[wr.heap.size]? =some (.cells #[.int .i64 (k:Int),.int .i64 x.kind,.string x.tag,.string x.text,.slice a1 x.attrs.length c1,.int .i64 x.size,.pointer none,.slice none 0 0] 81 (0,0)):=by
  show((o.setCell _ _).alloc _).heap[wr.heap.size]? =_;rw[B5 _ _ _ (by rw[f];omega)];exact Ao o wr.heap.size 4 _ _ _ Y
 have F:a.heap[o.heap.size]? =some (.cells #[.pointer (some ⟨wr.heap.size,0,none⟩)] 57 (0,0)):=by
  have:=Ah (o.setCell ⟨wr.heap.size,4,none⟩ (.slice a1 x.attrs.length c1)) (.cells #[.pointer (some ⟨wr.heap.size,0,none⟩)] 57)
  rwa [f]at this
 have M:a.ownsRow w.heap.size 49 2 (.slice a1 x.attrs.length c1) x.attrs.length (CJ x.attrs):=
  Bf ((BS E (λe=>by have:=(E.lt _ e).1;simp at this;omega) _).alloc _) (by omega)
 have A:∀i,i<k->O i<wr.heap.size:=λi c=>C.kno.lt c;refine⟨λi=>if i=k then wr.heap.size else O i,AJ rfl,?_,?_,?_,?_⟩
 .have e:Ad (λi=>if i=k then wr.heap.size else O i) (BV k)=Ad O (BV k):=Qw λi c=>by
   rw[List.mem_range]at c;rw[AI (by omega)]
  rw[e,List.length_range];exact BB u (λb _ m=>s.block b m)
 .refine .inr ⟨o.heap.size,0,rfl,by omega,λi c=> ?_⟩;have e:i=0:=by simp[Ad]at c;omega
  subst e;rw[AZ a _ _ _ _ _ F];simp[Ad]
 .have q:=(s.block _ z).trans I;exact⟨by rw[AZ a _ 0 _ _ _ q];rfl,A7 a _ 0 _ _ q⟩
 intro h j c2 p y;have n:a.ownsRow w.heap.size 57 1 (.slice l k d) k (Ad O (BV k)):=BB u (λb _ m=>s.block b m);have U:=(s.block _ z).trans I;have q:h.heap[w.heap.size]? =some (.cells #[.slice l k d,.int .i64 t.length,.bool false] 56 (0,0)):=by
  rw[p.block w.heap.size (by omega) (λe=>Ax n U (by decide) e.symm)];exact U
 have L:=C.kept (w':=a) (λb _ m=>s.block b m);have D:=L.add (kb2:=λi=>if i=k then wr.heap.size else O i) (g:=wr.heap.size) (λi c=>by rw[AI (by omega)]) (AJ rfl) (by omega) A (aa:=a1) (ac:=c1) (by rw[<-hx];exact W) (by rw[<-hx];exact M);have R:=(D.grown n (λi c=>(FO.nil _ _ _).symm) p).bR q (by decide) (by decide) (by decide) 0 (.slice j (k+1) c2);have G:(BV k++[k]).length=k+1:=by simp
 refine⟨⟨by rw[AZ h _ 0 _ _ _ q];rfl,A7 h _ 0 _ _ q⟩,k+1,_,j,c2,by omega,rfl,R,?_,?_,?_⟩
 .exact Ao h w.heap.size 0 _ _ _ q
 .rw[G]at y;rw[List.range_succ];exact BS y (Ax y q (by decide)) _
 have S:AL w.heap.size w h:=(m.trans (s.mono (by omega))).grown p (by omega) (λq e=>(n.lt q e).1);exact S.setCell (AG _) _
theorem GW.Yt{n:Nat->AS}(h:GW F S H P B O n w)(s:S p)(o:Option Nat):
 GW (F.Yt p o) S H P B O n (w.setCell ⟨O p,6,none⟩ (Au O o)):=by
 refine⟨λi r=> ?_,h.inj,h.apt⟩;obtain⟨_,_,_,_,_,_,t,_,_⟩:=h.node p s;obtain⟨f,aa,ac,m,c,y,d,u,l⟩:=h.node i r;have o1:=BS u (p:=⟨O p,6,none⟩) (Ax u t (by decide)) (Au O o);have o2:=BS l (p:=⟨O p,6,none⟩) (Ax l t (by decide)) (Au O o);refine⟨f,aa,ac,m,c,y,?_,o1,o2⟩;by_cases e:i=p
 .subst e;have a:(F.Yt i o).par i=o:=by show(if i=i then o else _)=o;rw[AJ rfl]
  rw[a];exact Ao w (O i) 6 _ _ _ d
 have a:(F.Yt p o).par i=F.par i:=by show(if i=p then o else _)=_;rw[AI e]
 rw[a,A8 _ _ _ _ (λe2=>e (h.inj i p r s e2))];exact d
def LD(e:Nat->AS)(i:Nat)(v:AS):Nat->AS:=λj=>if j=i then v else e j
theorem GW.ZJ{t:Nat->AS}(h:GW F S H P B O t w)(T:S p){L:List Nat}
 (A:w.grownBy M (t p).ownBlock)(U:M.ownsRow B 57 1 (.slice a L.length c) L.length (Ad O L))(k:(AO a L.length c).ownBlock=(t p).ownBlock\/(AO a L.length c).ownBlock=some w.heap.size):
 GW (F.Ys p L) S H P B O (LD t p (.slice a L.length c)) (M.setCell ⟨O p,7,none⟩ (.slice a L.length c)):=by
 obtain⟨_,_,_,_,_,_,l,_,y⟩:=h.node p T;have d:∀j,S j->(t p).ownBlock≠some (O j):=λj m=>by
  obtain⟨_,_,_,_,_,_,R,_,_⟩:=h.node j m;exact Ax y R (by decide)
 have u:=(A.block _ (AE.1 l).1 (λe=>d p T e.symm)).trans l;refine⟨λi n=> ?_,h.inj,λi j n m r=> ?_⟩
 .obtain⟨C,aa,ac,V,G,X,D,W,Q⟩:=h.node i n;have v:=(A.block _ (AE.1 D).1 (λe=>d i n e.symm)).trans D;have E:M.ownsRow B 49 2 (.slice aa (H i).attrs.length ac) (H i).attrs.length (CJ (H i).attrs):=by
   refine W.kept A ?_;cases f:(AO aa (H i).attrs.length ac).ownBlock with
   |none=>exact .inl rfl
   |some b=>
    refine .inr λe2=> ?_;rcases W.2 with⟨N,_⟩|⟨g,cap,Z,N,e4,J,_⟩
    .rw[N]at f;simp[A6]at f
    rw[N]at f;simp[A6]at f;subst f;exact Ax y J (by decide) e2.symm
  have o1:=BS E (p:=⟨O p,7,none⟩) (Ax E u (by decide)) (.slice a L.length c);have Y:=BS U (p:=⟨O p,7,none⟩) (Ax U u (by decide)) (.slice a L.length c);by_cases e:i=p
  .subst e;have I:(F.Ys i L).kids i=L:=by show(if i=i then L else _)=L;rw[AJ rfl]
   have s:LD t i (.slice a L.length c) i= .slice a L.length c:=AJ rfl;rw[I,s];exact⟨C,aa,ac,a,c,rfl,Ao M (O i) 7 _ _ _ v,o1,Y⟩
  have I:(F.Ys p L).kids i=F.kids i:=by show(if i=p then L else _)=_;rw[AI e]
  have s:LD t p (.slice a L.length c) i=t i:=AI e;rw[I,s];have z:=Q.kept A (h.apt p i T n (B9 e)).ne;refine⟨C,aa,ac,V,G,X,?_,o1,BS z (Ax z u (by decide)) _⟩;rw[A8 _ _ _ _ (λe2=>e (h.inj i p n T e2))];exact v
 have lt:∀q,S q->∀x,(t q).ownBlock=some x->x<w.heap.size:=λq K x hx=>by
  obtain⟨_,_,_,_,_,_,_,_,hr⟩:=h.node q K;exact(hr.lt x hx).2
 by_cases e1:i=p
 .subst e1;have s:LD t i (.slice a L.length c) i= .slice a L.length c:=AJ rfl;have o:LD t i (.slice a L.length c) j=t j:=AI (B9 r);rw[s,o];exact(h.apt i j n m r).step k (lt j m)
 by_cases e2:j=p
 .subst e2;have s:LD t j (.slice a L.length c) j= .slice a L.length c:=AJ rfl;have o:LD t j (.slice a L.length c) i=t i:=AI e1;rw[s,o];exact((h.apt j i m n (B9 r)).step k (lt i n)).symm
 have s:LD t p (.slice a L.length c) i=t i:=AI e1;have o:LD t p (.slice a L.length c) j=t j:=AI e2;rw[s,o];exact h.apt i j n m r
def RT(t:List Nd)(i:Nat)(done:List Nat):Fo:=
 ⟨λc=>if c<t.length then(match G7 t c c with|some p=>if p<i\/(p=i/\c∈done)then some p else none|none=>none)else none,
  λp=>if p<i/\p<t.length then Bo t p else if p=i then done else[]⟩
theorem SN(t:List Nd):RT t 0 []=O7:=by
 refine Fo.Yv (λc=> ?_) (λp=> ?_)
 .show(if c<t.length then _ else none)=none;by_cases e:c<t.length
  .rw[AJ e];cases G7 t c c with
   |none=>rfl
   |some p=>show(if p<0\/(p=0/\c∈[])then some p else none)=none;rw[AI (by simp)]
  rw[AI e]
 show(if p<0/\p<t.length then Bo t p else if p=0 then[]else[])=[];rw[AI (by omega)];split<;>rfl
theorem Vu(a:CQ t):RT t t.length []=Oo t:=by
 refine Fo.Yv (λc=> ?_) (λp=> ?_)
 .show(if c<t.length then _ else none)=(if c<t.length then G7 t c c else none);by_cases e:c<t.length
  .rw[AJ e,AJ e];cases h:G7 t c c with
   |none=>rfl
   |some p=>
    have:=(Fp h).1;show(if p<t.length\/_ then some p else none)=some p;rw[AJ (.inl (by omega))]
  rw[AI e,AI e]
 show(if p<t.length/\p<t.length then Bo t p else if p=t.length then[]else[])=(if p<t.length then Bo t p else[]);by_cases e:p<t.length
 .rw[AJ ⟨e,e⟩,AJ e]
 rw[AI (λh=>e h.1),AI e];split<;>rfl
theorem Ty(n:CQ t)(a:i<t.length):RT t i (Bo t i)=RT t (i+1) []:=by
 refine Fo.Yv (λc=> ?_) (λp=> ?_)
 .show(if c<t.length then _ else none)=(if c<t.length then _ else none);by_cases e:c<t.length
  .rw[AJ e,AJ e];cases h:G7 t c c with
   |none=>rfl
   |some p=>
    show(if p<i\/(p=i/\c∈Bo t i)then some p else none)=(if p<i+1\/(p=i+1/\c∈[])then some p else none);by_cases e2:p<=i
    .rw[AJ (show p<i+1\/_ from .inl (by omega))];rcases Be p i with o|o
     .rw[AJ (.inl o)]
     have:p=i:=(by omega);subst this;rw[AJ (.inr ⟨rfl,L4 n a (IT h)⟩)]
    rw[AI (by omega),AI (by simp;omega)]
  rw[AI e,AI e]
 show(if p<i/\p<t.length then Bo t p else if p=i then Bo t i else[])=(if p<i+1/\p<t.length then Bo t p else if p=i+1 then[]else[]);by_cases e:p<i
 .rw[AJ ⟨e,by omega⟩,AJ ⟨by omega,by omega⟩]
 by_cases e2:p=i
 .subst e2;rw[AI (by omega),AJ rfl,AJ ⟨by omega,a⟩]
 rw[AI (by omega),AI e2,AI (by omega)];split<;>rfl
theorem Tz(n:i<t.length)(o:k<t.length)(a:G7 t k k=some i)(done:List Nat):((RT t i done).Yt k (some i)).Ys i (done++[k])=RT t i (done++[k]):=by
 refine Fo.Yv (λc=> ?_) (λp=> ?_)
 .show(if c=k then some i else if c<t.length then _ else none)=(if c<t.length then _ else none);by_cases e:c=k
  .subst e;rw[AJ rfl,AJ o,a];show some i=(if i<i\/(i=i/\c∈done++[c])then some i else none);rw[AJ (.inr ⟨rfl,by simp⟩)]
  rw[AI e];by_cases e2:c<t.length
  .rw[AJ e2,AJ e2];cases h:G7 t c c with
   |none=>rfl
   |some p=>
    show(if p<i\/(p=i/\c∈done)then some p else none)=(if p<i\/(p=i/\c∈done++[k])then some p else none);have:c∈done++[k]↔c∈done:=(by simp[e]);simp only[this]
  rw[AI e2,AI e2]
 show(if p=i then done++[k]else if p<i/\p<t.length then Bo t p else if p=i then done else[])=(if p<i/\p<t.length then Bo t p else if p=i then done++[k]else[]);by_cases e:p=i
 .subst e;rw[AJ rfl,AI (by omega),AJ rfl]
 rw[AI e];by_cases e2:p<i/\p<t.length
 .rw[AJ e2,AJ e2]
 rw[AI e2,AI e2,AI e,AI e]
structure Ow(t:List Nd)(w:AB)(kb:Nat->Nat)(fa:Nat)(fc:Nat)(F:Fo)(kv:Nat->AS)(wr:AB):Prop where
 kno:GW F (λi=>i<t.length) (ND t) (λi=>(i:Int)) w.heap.size kb kv wr
 apt:∀i,i<t.length->FO (kv i) (.slice (some ⟨fa,0,none⟩) t.length fc)
 fst:wr.heap[w.heap.size]? =some (.cells #[.slice (some ⟨fa,0,none⟩) t.length fc,.int .i64 t.length,.bool false] 56 (0,0))
 row:wr.ownsRow w.heap.size 57 1 (.slice (some ⟨fa,0,none⟩) t.length fc) t.length (Ad kb (BV t.length))
 below:AL w.heap.size w wr
theorem Ow.elem{e n:Nat}{a:Nat->AS}(h:Ow t w O e n F a wr)(o:i<t.length):wr.cell? ⟨e,i,none⟩=some (.pointer (some ⟨O i,0,none⟩)):=by
 have:=h.row.cells (g:=e) rfl i (.pointer (some ⟨O i,0,none⟩)) (by simp[Ad,o]);rw[Ba,By]at this;exact this
theorem Ow.Yt{l d:Nat}{n:Nat->AS}(h:Ow t w O l d F n wr)(s:k<t.length)(o:Option Nat):
 Ow t w O l d (F.Yt k o) n (wr.setCell ⟨O k,6,none⟩ (Au O o)):=by
 obtain⟨u,_,_,_,_,_,r,_,_⟩:=h.kno.node k s;have i:w.heap.size≠O k:=λe=>by
  have a:=h.fst;rw[e,r]at a;injection a with a;injection a with _ a;exact absurd a (by decide)
 exact⟨h.kno.Yt s o,h.apt,by rw[A8 _ _ _ _ (by exact i)];exact h.fst,BS h.row (Ax h.row r (by decide)) _,h.below.setCell (by exact u) _⟩
theorem Ow.kept{s n:Nat}{i:Nat->AS}{e:AB}(h:Ow t w O s n F i wr)(a:AL wr.heap.size wr e):Ow t w O s n F i e:=
 ⟨h.kno.kept (λb _ o=>a.block b o),h.apt,(a.block _ (AE.1 h.fst).1).trans h.fst,BB h.row (λb _ o=>a.block b o),h.below.trans (a.mono h.below.size)⟩
theorem Ow.ZJ{k v:Nat}{n:Nat->AS}(h:Ow t w O k v F n wr)(u:p<t.length){L:List Nat}
 (r:wr.grownBy M (n p).ownBlock)(j:M.ownsRow w.heap.size 57 1 (.slice a L.length c) L.length (Ad O L))(d:(AO a L.length c).ownBlock=(n p).ownBlock\/(AO a L.length c).ownBlock=some wr.heap.size):
 Ow t w O k v (F.Ys p L) (LD n p (.slice a L.length c)) (M.setCell ⟨O p,7,none⟩ (.slice a L.length c)):=by
 obtain⟨z,_,_,_,_,_,l,_,hr⟩:=h.kno.node p u;have f:w.heap.size≠O p:=λe=>by
  have s:=h.fst;rw[e,l]at s;injection s with s;injection s with _ s;exact absurd s (by decide)
 have g:(n p).ownBlock≠some w.heap.size:=Ax hr h.fst (by decide);have o:=h.row.kept r (h.apt p u).ne;have y:=(r.block _ (AE.1 l).1 (λe=>Ax hr l (by decide) e.symm)).trans l;refine⟨h.kno.ZJ u r j d,λi b=> ?_,?_,BS o (Ax o y (by decide)) _,?_⟩
 .by_cases e:i=p
  .subst e;have m:LD n i (.slice a L.length c) i= .slice a L.length c:=AJ rfl;rw[m];exact(h.apt i b).step d (λx hx=>(h.row.lt x hx).2)
  have m:LD n p (.slice a L.length c) i=n i:=AI e;rw[m];exact h.apt i b
 .rw[A8 _ _ _ _ (by exact f),r.block _ (AE.1 h.fst).1 (λe=>g e.symm)];exact h.fst
 exact(h.below.grown r h.below.size (λq e=>(hr.lt q e).1)).setCell (by exact z) _
def QD(t:List Nd)(w:AB)(e:Bx)(w':AB):Prop:=
 e= .returned (.pointer (some ⟨w.heap.size,0,none⟩))/\∃a g o,Ct (Oo t) (λi=>i<t.length) (ND t) (λi=>(i:Int)) w.heap.size a w'/\w'.heap[w.heap.size]? =some (.cells #[.slice (some ⟨g,0,none⟩) t.length o,.int .i64 t.length,.bool false] 56 (0,0))/\
  w'.ownsRow w.heap.size 57 1 (.slice (some ⟨g,0,none⟩) t.length o) t.length (Ad a (BV t.length))/\AL w.heap.size w w'
theorem Qf(ad:Option Ai)(c:Nat)(t:List Nd)(hR:CQ t)(w:AB)(h:Gp w w.heap.size ad t):
 AX AC 20 #[.slice ad t.length c] w (QD t w):=by
 obtain⟨b,o,rfl,I,hc⟩:=h.at_ hR.pos;have hle:=hR.le;have HC:=AA hc;have J:=AA hR;clear hc h hR;go_enter func20,ntmps20;go_wp2;go_loopw [4] (λx wr=>Wl t w x wr) (λx _=>t.length-(Aa x).toNat)
 .refine⟨0,λ_=>0,none,0,by omega,rfl,⟨λi hi=>absurd hi (by omega),λi j hi=>absurd hi (by omega),λi j hi=>absurd hi (by omega)⟩,?_,Aw _ _ _ _,?_⟩
  .exact Ah w _
  exact Ac
 obtain⟨k,n,fa,C,hk,rfl,d,hf,f,Q⟩:=hrel;by_cases s:k<t.length
 .obtain⟨g1,g2,g3,g4,g5,hok⟩:=HC.o k s;replace g1:=(Q.cell (p:=⟨b,_,none⟩) I).trans g1;replace g2:=(Q.cell (p:=⟨b,_,none⟩) I).trans g2;replace g3:=(Q.cell (p:=⟨b,_,none⟩) I).trans g3;replace g4:=(Q.cell (p:=⟨b,_,none⟩) I).trans g4;replace g5:=(Q.cell (p:=⟨b,_,none⟩) I).trans g5;obtain⟨nd,Z⟩:∃nd,nd=t[k]:=⟨_,rfl⟩;rw[<-Z]at g1 g2 g3 g4 g5 hok;obtain⟨kd,tag,text,aa,ac,attrs,size⟩:=nd;dsimp only at g1 g2 g3 g4 g5;have f0:=AZ wr w.heap.size 0 _ _ _ hf;have ff:=A7 wr w.heap.size 0 _ _ hf;simp only[List.getElem?_toArray,List.getElem?_cons_zero]at f0;have HK:=AA d;have HF:=AA hf;have HRow:=AA f;have HB:=AA Q;have HOk:=AA hok;have HNd:=AA Z;have hbw:b<wr.heap.size:=by have:=Q.size;omega
  have hwf:w.heap.size<wr.heap.size:=(AE.1 hf).1;obtain⟨Y,et⟩:∃Y,Y=wr.alloc (.cells #[.int .i64 (k:Int),.int .i64 kd,.string tag,.string text,.slice aa attrs.length ac,.int .i64 size,.pointer none,.slice none 0 0] 81):=⟨_,rfl⟩;have hB0:AL wr.heap.size wr Y:=by rw[et];exact Ac
  have hs0:Y.heap.size=wr.heap.size+1:=by rw[et];simp
  have k0:Y.heap[wr.heap.size]? =some (.cells #[.int .i64 (k:Int),.int .i64 kd,.string tag,.string text,.slice aa attrs.length ac,.int .i64 size,.pointer none,.slice none 0 0] 81 (0,0)):=by rw[et];exact Ah wr _
  have HOwn:Hid ((Y.alloc (.cells #[] 49)).ownsRow (wr.heap.size+1) 49 2 (.slice (some ⟨wr.heap.size+1,0,none⟩) 0 0) 0 []):=by have:=De Y 49 2;rw[hs0]at this;exact this
  have hal:AL wr.heap.size wr (Y.alloc (.cells #[] 49)):=hB0.alloc (by omega) _;have HAsl:Hid (JZ (Y.alloc (.cells #[] 49)) (Y.alloc (.cells #[] 49)).heap.size aa attrs):=((hok.below Q).attrs.more Q.size).below hal|>.more (by simp;omega);have hat:attrs.length<=1000:=by
   have:=(J.o.node k s).tag;have h2:=(J.o.node k s).kinds;rw[<-Z]at this h2;dsimp only at this h2;rcases h2 with⟨h2,_⟩|⟨h2,_⟩|⟨_,h2⟩|⟨h2,_⟩
   .have:=(this (by omega)).2;omega
   .have:=(this (by omega)).2;omega
   .have:=h2.len;omega
   have:=(this (by omega)).2;omega
  have K:Hid (∀z,(Y.alloc (.cells #[] 49)).grownBy z (some (wr.heap.size+1))->z.cell? ⟨wr.heap.size,4,none⟩=some (.slice aa attrs.length ac)/\z.frozen? ⟨wr.heap.size,4,none⟩=false/\wr.heap.size<z.heap.size/\z.cell? ⟨w.heap.size,0,none⟩=some (.slice fa k C)):=by
   intro z X;have hb1:AL Y.heap.size Y z:=((AW _ _).alloc (AG _) _).grown X (by simp) (λq e=>by cases e;omega);have q1:=(hb1.block wr.heap.size (by omega)).trans k0;have q2:=(hb1.block w.heap.size (by omega)).trans ((hB0.block _ hwf).trans hf);exact⟨by rw[AZ z _ 4 _ _ _ q1];rfl,A7 z _ 4 _ _ q1,by have:=hb1.size;omega,by rw[AZ z _ 0 _ _ _ q2];rfl⟩
  have HW:Hid (∀(z:AB) (a1:Option Ai) (c1:Nat),(Y.alloc (.cells #[] 49)).grownBy z (some (wr.heap.size+1))->z.ownsRow (wr.heap.size+1) 49 2 (.slice a1 attrs.length c1) attrs.length (CJ attrs)->_):=λz a1 c1 X ho=>T1 s d hf f Q (x:=⟨kd,tag,text,aa,ac,attrs,size⟩) (by rw[Z];unfold ND;rw[Do s]) (aa:=aa) (ac:=ac) (by rw[et]at X;exact X) ho;have HB0:=AA hB0;have HK0:=AA k0;have Hs0:=AA hs0;clear d hf f Q hok Z hB0 k0 hal hs0;subst et;go_wp2_with(at_builtin;refine D5 rfl (.tmp 26) (.tmp 31) rfl (wr.heap.size+1) (.slice (some ⟨wr.heap.size+1,0,none⟩) 0 0) [] rfl HOwn.o aa attrs.length ac attrs rfl rfl HAsl.o (by simp;omega) (by simp) ?_);intro a1 c1 z F hg1 hat1
  (try simp only[BY]at F hat1|-);obtain⟨d4,f4,hs1,d0w⟩:=K.o z hg1;obtain⟨kb2,hk2,ho2,hr2,⟨d0,f0z⟩,eu⟩:=HW.o z a1 c1 hg1 F;have HO2:=AA ho2;have HR2:=AA hr2;have HN:=AA eu;have hne1:w.heap.size≠wr.heap.size:=by omega
  have hne2:wr.heap.size≠w.heap.size:=by omega
  have hw1f:w.heap.size<z.heap.size:=by omega
  have Hk2:=AA hk2;clear F hg1 hat1 ho2 hr2 eu hk2 HW K d0;go_wp2_with(at_builtin;refine Az _ rfl (.tmp 40) (.tmp 42) rfl kb2 w.heap.size (.slice fa k C) (BV k) rfl HO2.o (some ⟨z.heap.size,0,none⟩) 1 1 [k] rfl rfl HR2.o (by simp;omega) (by simp[Cb];omega) ?_);intro a2 c2 y m ee P;obtain⟨⟨z0,zf⟩,hrel⟩:=HN.o y a2 c2 ee (by rw[show(BV k++[k]).length=k+1 from by simp];exact m);have V:=AA hrel;clear m ee P hrel HN HO2 HR2;go_wp2;go_roundw
  .exact V.o
  simp[Aa];omega
 have e:k=t.length:=by omega
 subst e;obtain⟨g,rfl⟩:∃g,fa=some ⟨g,0,none⟩:=by
  rcases f.2 with⟨_,e0⟩|⟨g,_,_,e0,_⟩
  .have:=J.o.pos;omega
  exact⟨g,by cases e0;rfl⟩
 have N:Ow t w n g C (RT t 0 []) (λ_=> .slice none 0 0) wr:=by
  rw[SN];exact⟨d,λ_ _=>FO.nil _ _ _,hf,f,Q⟩
 have HG0:=AA N;clear d hf f Q N;go_wp2;go_loopw [6] (λx wr=>∃(i:Nat) (kv:Nat->AS),i<=t.length/\x= .int .i64 i/\Ow t w n g C (RT t i []) kv wr) (λx _=>t.length-(Aa x).toNat)
 .exact⟨0,_,by omega,rfl,HG0.o⟩
 clear HG0;obtain⟨i,kv,hi,rfl,A⟩:=hrel;obtain⟨wo,rfl⟩:∃wo:AB,wo=wr:=⟨_,rfl⟩;have HG:=AA A;clear A;by_cases s:i<t.length
 .have G:=J.o.lam i (AY _) s;have hs1:=G.2.1;have hs2:=G.2.2.1;have hl0:=Mf J.o s;have HL:=AA hl0;have HKe:=AA (PV (J.o.lam.ZT (AY i) s) hs1);have g5:=(HC.o i s).2.2.2.2.1;rw[Ep s G.1]at g5;clear G hl0;go_wp2;go_loopw [7] (λx wr=>∃(k:Nat) (done:List Nat) (kv:Nat->AS),i+1<=k/\k<=i+sz t i/\x= .int .i64 k/\Hid (done++BR t (i+sz t i-k) k (i+sz t i)=Bo t i)/\Ow t w n g C (RT t i done) kv wr) (λx _=>i+sz t i-(Aa x).toNat)
  .exact⟨i+1,[],kv,by omega,by omega,by go_num,by unfold Hid;rw[BY,HKe.o],HG.o⟩
  clear HG;obtain⟨k,done,kv,hk1,hk2,rfl,T,A⟩:=hrel;have g5i:=(A.below.cell (p:=⟨b,o+i*5+4,none⟩) I).trans g5;by_cases hlk:k<i+sz t i
  .have u:k<t.length:=by omega
   have E:done++k::BR t (i+sz t i-(k+sz t k)) (k+sz t k) (i+sz t i)=Bo t i:=by rw[<-T.o,Jj (HL.o.from_ hk1) hlk]
   have hkm:k∈Bo t i:=by rw[<-E];simp
   have hpk:=RX J.o s hkm;have hDl:done.length<=200:=by
    have:=(IL J.o i s).1;rw[<-E,AN]at this;omega
   have HDl:=AA hDl;have hkl:=J.o.lam k (AY _) u;have hsk:=hkl.2.1;have hsk2:=(HL.o k hk1 hlk).2.2.1;have g5k:=(A.below.cell (p:=⟨b,o+k*5+4,none⟩) I).trans (HC.o k u).2.2.2.2.1;rw[Ep u hkl.1]at g5k;have f0:=AZ wr w.heap.size 0 _ _ _ A.fst;simp only[List.getElem?_toArray,List.getElem?_cons_zero]at f0;have ek:=A.elem u;have ei:=A.elem s;obtain⟨kf,c6,-⟩:=A.kno.kno.cells u;have kf6:=kf 6;obtain⟨o6,ho6⟩:∃o6,Au n ((RT t i done).par k)= .pointer o6:=⟨_,rfl⟩;rw[ho6]at c6;have HA:Hid (Ow t w n g C ((RT t i done).Yt k (some i)) kv (wr.setCell ⟨n k,6,none⟩ (.pointer (some ⟨n i,0,none⟩))).drew):=(A.Yt u (some i)).kept ((AW _ _).drew);have HKid:Hid ((done++[k])++BR t (i+sz t i-(k+sz t k)) (k+sz t k) (i+sz t i)=Bo t i):=by unfold Hid;rw[<-E];simp
   have HStep:=AA (Tz s u hpk done);clear T A E hkm hpk hkl kf ho6;go_wp2_with fail;refine D' (G3 16 16 16 (λO=>O.cell? ⟨w.heap.size,0,none⟩=some (.slice (some ⟨g,0,none⟩) t.length C)/\O.cell? ⟨g,k,none⟩=some (.pointer (some ⟨n k,0,none⟩))/\O.cell? ⟨g,i,none⟩=some (.pointer (some ⟨n i,0,none⟩))) (λ_=>True) (λ_=>True)) (by kernel_rfl) ?_;have N:G3 16 16 16 (λO=>O.cell? ⟨w.heap.size,0,none⟩=some (.slice (some ⟨g,0,none⟩) t.length C)/\O.cell? ⟨g,k,none⟩=some (.pointer (some ⟨n k,0,none⟩))/\O.cell? ⟨g,i,none⟩=some (.pointer (some ⟨n i,0,none⟩))) (λ_=>True) (λ_=>True) (Array.replicate 17 false) wr.drew:=⟨λ_=>⟨f0,ek,ei⟩,λ_=>trivial,λ_=>trivial⟩;refine DF 0 N λed=> ?_;clear N;simp only[AQ,Cx];refine DF 1 ed λer=> ?_;clear ed;simp only[AQ];refine DF 2 er λl=> ?_;clear er;simp only[AQ];refine tH 3 16 (λ_ _ h g=>g.1 h) l λeh=> ?_;clear l;simp only[AQ];refine DF 4 eh λes=> ?_;clear eh;simp only[AQ];refine DF 5 es λen=> ?_;clear es;simp only[AQ];refine tH 6 16 (λ_ _ h g=>g.1 h) en λeo=> ?_;clear en;simp only[AQ];refine DF 7 eo λea=> ?_;clear eo;simp only[AQ];refine DF 8 ea λr=> ?_;clear ea;simp only[AQ];refine DF 9 r λU=> ?_;clear r;simp only[AQ];refine tH 10 16 (λ_ _ h g=>g.1 h) U λL=> ?_;clear U;simp only[AQ];refine DF 11 L λD=> ?_;clear L;simp only[AQ];refine DF 12 D λR=> ?_;clear D;simp only[AQ];refine tH 13 16 (λ_ _ h g=>g.1 h) R λB=> ?_;clear R;simp only[AQ];clear B;refine Bb (i:=14) (by decide+kernel) rfl (λM d=> ?_);go_simp;refine d.o _ _ ⟨λ_=>⟨f0,ek,ei⟩,λ_=>trivial,λ_=>trivial⟩ (λr=> ?_);clear d M r;refine Bb (i:=15) (by decide+kernel) rfl (λM d=> ?_);go_simp;refine d.o _ _ ⟨λ_=>⟨f0,ek,ei⟩,λ_=>trivial,λ_=>trivial⟩ (λr=> ?_);clear d M r;refine Bb (i:=16) (by decide+kernel) rfl (λM d=> ?_);go_simp;refine d.o _ _ ⟨λh=>absurd h (by decide),λh=>absurd h (by decide),λh=>absurd h (by decide)⟩ (λr=> ?_);clear d M r;refine D_ (by decide+kernel) ?_ _;generalize (wr.setCell ⟨n k,6,none⟩ (.pointer (some ⟨n i,0,none⟩))).drew=wa at HA|-;clear f0 ek ei c6 kf6;have f0:=AZ wa w.heap.size 0 _ _ _ HA.o.fst;simp only[List.getElem?_toArray,List.getElem?_cons_zero]at f0;have ek:=HA.o.elem u;have ei:=HA.o.elem s;obtain⟨hkB,aa,ac,ka,kc,ekv,hki,-,hkr⟩:=HA.o.kno.node i s;have ekd:((RT t i done).Yt k (some i)).kids i=done:=by
    show(if i<i/\i<t.length then Bo t i else if i=i then done else[])=done;rw[AI (by omega),AJ rfl]
   rw[ekd]at ekv hki hkr;have eki:=AZ wa (n i) 7 _ _ _ hki;have eki:wa.cell? ⟨n i,7,none⟩=some (.slice ka done.length kc):=eki;rw[ekv]at hkr;have H:AL wa.heap.size wa (wa.drew.alloc (.cells #[.pointer (some ⟨n k,0,none⟩)] 57)):=((AW _ _).drew).alloc (AG _) _;have l:=HA.o.kept H;have HO1:Hid ((wa.drew.alloc (.cells #[.pointer (some ⟨n k,0,none⟩)] 57)).ownsRow w.heap.size 57 1 (.slice ka done.length kc) done.length (Ad n done)):=BB hkr (λb _ h2=>H.block b h2);have HR1:Hid (B6 (wa.drew.alloc (.cells #[.pointer (some ⟨n k,0,none⟩)] 57)) (wa.drew.alloc (.cells #[.pointer (some ⟨n k,0,none⟩)] 57)).heap.size (some ⟨wa.heap.size,0,none⟩) (Ad n [k])):=by
    refine .inr ⟨wa.heap.size,0,rfl,by simp,λq hq=> ?_⟩;have e:q=0:=(by simp[Ad]at hq;omega);subst e;show World.cell? _ ⟨wa.drew.heap.size,0,none⟩=_;rw[BI];rfl
   have HBs:Hid (w.heap.size<=(wa.drew.alloc (.cells #[.pointer (some ⟨n k,0,none⟩)] 57)).heap.size):=by unfold Hid;have:=HA.o.below.size;have:=H.size;omega
   have HA1:Hid ((wa.drew.alloc (.cells #[.pointer (some ⟨n k,0,none⟩)] 57)).cell? ⟨w.heap.size,0,none⟩=some (.slice (some ⟨g,0,none⟩) t.length C)/\(wa.drew.alloc (.cells #[.pointer (some ⟨n k,0,none⟩)] 57)).cell? ⟨g,k,none⟩=some (.pointer (some ⟨n k,0,none⟩))/\(wa.drew.alloc (.cells #[.pointer (some ⟨n k,0,none⟩)] 57)).cell? ⟨g,i,none⟩=some (.pointer (some ⟨n i,0,none⟩))/\(wa.drew.alloc (.cells #[.pointer (some ⟨n k,0,none⟩)] 57)).cell? ⟨n i,7,none⟩=some (.slice ka done.length kc)):=by
    have hx:∀{p:Ai} {v:AS},wa.cell? p=some v->(wa.drew.alloc (.cells #[.pointer (some ⟨n k,0,none⟩)] 57)).cell? p=some v:=λhp=>(H.cell (World.block_lt_of_cell? wa _ hp)).trans hp;exact⟨hx f0,hx ek,hx ei,hx eki⟩
   have HN:Hid (∀y (a2:Option Ai) (c2:Nat),(wa.drew.alloc (.cells #[.pointer (some ⟨n k,0,none⟩)] 57)).grownBy y (AO ka done.length kc).ownBlock->y.ownsRow w.heap.size 57 1 (.slice a2 (done++[k]).length c2) (done++[k]).length (Ad n (done++[k]))->
    ((AO a2 (done++[k]).length c2).ownBlock=(AO ka done.length kc).ownBlock\/(AO a2 (done++[k]).length c2).ownBlock=some (wa.drew.alloc (.cells #[.pointer (some ⟨n k,0,none⟩)] 57)).heap.size)->
    (y.cell? ⟨w.heap.size,0,none⟩=some (.slice (some ⟨g,0,none⟩) t.length C)/\y.cell? ⟨g,k,none⟩=some (.pointer (some ⟨n k,0,none⟩))/\y.cell? ⟨g,i,none⟩=some (.pointer (some ⟨n i,0,none⟩))/\y.cell? ⟨n i,7,none⟩=some (.slice ka done.length kc))/\y.frozen? ⟨n i,7,none⟩=false/\
    Ow t w n g C (RT t i (done++[k])) (LD kv i (.slice a2 (done++[k]).length c2)) (y.setCell ⟨n i,7,none⟩ (.slice a2 (done++[k]).length c2))):=by
    intro y a2 c2 X ho hat;rw[<-ekv]at X hat;have h4:=l.ZJ s X ho hat;rw[HStep.o]at h4;have hapt:=l.apt i s;have hrne:∀x,(kv i).ownBlock=some x->x≠g:=λx hx e=>hapt x hx (by rw[e];rfl);obtain⟨_,_,_,_,_,_,S,_,el⟩:=l.kno.node i s;have q1:y.heap[w.heap.size]? =_:=(X.block _ (AE.1 l.fst).1 (λe=>Ax el l.fst (by decide) e.symm)).trans l.fst;have q2:y.heap[n i]? =_:=(X.block _ (AE.1 S).1 (λe=>Ax el S (by decide) e.symm)).trans S;have q3:∀(j:Nat) (v:AS),(wa.drew.alloc (.cells #[.pointer (some ⟨n k,0,none⟩)] 57)).cell? ⟨g,j,none⟩=some v->y.cell? ⟨g,j,none⟩=some v:=λj v hv=>X.cell hv (λe=>hrne g e.symm rfl);have q4:=AZ y (n i) 7 _ _ _ q2;refine⟨⟨?_,q3 _ _ HA1.o.2.1,q3 _ _ HA1.o.2.2.1,?_⟩,A7 y _ 7 _ _ q2,h4⟩
    .rw[AZ y _ 0 _ _ _ q1];rfl
    have q5:=HA1.o.2.2.2;rw[World.cell?_of_block (a:=⟨n i,7,none⟩) (X.block _ (AE.1 S).1 (λe=>Ax el S (by decide) e.symm))];exact q5
   have HGb:Hid (∀W kv',Ow t w n g C (RT t i (done++[k])) kv' W->W.cell? ⟨b,o+k*5+4,none⟩=some (.int .i64 (sz t k))):=λW kv' hW=>(hW.below.cell (p:=⟨b,o+k*5+4,none⟩) I).trans (by
    rw[<-Ep u (J.o.lam k (AY _) u).1];exact(HC.o k u).2.2.2.2.1)
   clear l H hki hkr ekv ekd g5i g5k;go_wp2_with fail;refine D' (G3 28 28 28 (λO=>O.cell? ⟨w.heap.size,0,none⟩=some (.slice (some ⟨g,0,none⟩) t.length C)/\O.cell? ⟨g,k,none⟩=some (.pointer (some ⟨n k,0,none⟩))/\O.cell? ⟨g,i,none⟩=some (.pointer (some ⟨n i,0,none⟩))/\O.cell? ⟨n i,7,none⟩=some (.slice ka done.length kc)) (λ_=>True) (λ_=>True)) (by kernel_rfl) ?_;have N:G3 28 28 28 (λO=>O.cell? ⟨w.heap.size,0,none⟩=some (.slice (some ⟨g,0,none⟩) t.length C)/\O.cell? ⟨g,k,none⟩=some (.pointer (some ⟨n k,0,none⟩))/\O.cell? ⟨g,i,none⟩=some (.pointer (some ⟨n i,0,none⟩))/\O.cell? ⟨n i,7,none⟩=some (.slice ka done.length kc)) (λ_=>True) (λ_=>True) (Array.replicate 29 false) wa.drew:=⟨λ_=>⟨f0,ek,ei,eki⟩,λ_=>trivial,λ_=>trivial⟩;refine DF 0 N λed=> ?_;clear N;simp only[AQ,Cx];refine DF 1 ed λer=> ?_;clear ed;simp only[AQ];refine DF 2 er λl=> ?_;clear er;simp only[AQ];refine tH 3 28 (λ_ _ h g=>g.1 h) l λeh=> ?_;clear l;simp only[AQ];refine DF 4 eh λes=> ?_;clear eh;simp only[AQ];refine DF 5 es λen=> ?_;clear es;simp only[AQ];refine tH 6 28 (λ_ _ h g=>g.1 h) en λeo=> ?_;clear en;simp only[AQ];refine DF 7 eo λea=> ?_;clear eo;simp only[AQ];refine DF 8 ea λr=> ?_;clear ea;simp only[AQ];refine DF 9 r λU=> ?_;clear r;simp only[AQ];refine tH 10 28 (λ_ _ h g=>g.1 h) U λL=> ?_;clear U;simp only[AQ];refine DF 11 L λD=> ?_;clear L;simp only[AQ];refine DF 12 D λR=> ?_;clear D;simp only[AQ];refine tH 13 28 (λ_ _ h g=>g.1 h) R λB=> ?_;clear R;simp only[AQ];refine DF 14 B λhG15=> ?_;clear B;simp only[AQ];refine DF 15 hG15 λhG16=> ?_;clear hG15;simp only[AQ];refine tH 16 28 (λ_ _ h g=>g.1 h) hG16 λhG17=> ?_;clear hG16;simp only[AQ];refine DF 17 hG17 λhG18=> ?_;clear hG17;simp only[AQ];refine DF 18 hG18 λhG19=> ?_;clear hG18;simp only[AQ];refine DF 19 hG19 λhG20=> ?_;clear hG19;simp only[AQ];refine tH 20 28 (λ_ _ h g=>g.1 h) hG20 λhG21=> ?_;clear hG20;simp only[AQ];refine DF 21 hG21 λhG22=> ?_;clear hG21;simp only[AQ];refine DF 22 hG22 λhG23=> ?_;clear hG22;simp only[AQ];refine tH 23 28 (λ_ _ h g=>g.1 h) hG23 λhG24=> ?_;clear hG23;simp only[AQ];clear hG24;refine Bb (i:=24) (by decide+kernel) rfl (λM d=> ?_);go_simp;refine d.o _ _ ⟨λ_=>HA1.o,λ_=>trivial,λ_=>trivial⟩ (λr=> ?_);clear d M r;refine Bb (i:=25) (by decide+kernel) rfl (λM d=> ?_);refine Cr _ rfl (.tmp 102) (.tmp 110) rfl n w.heap.size (.slice ka done.length kc) done rfl HO1.o (some ⟨wa.heap.size,0,none⟩) 1 1 [k] rfl rfl HR1.o (by have:=HDl.o;simp;omega) HBs.o ?_;intro a2 c2 y m ee P;obtain⟨hc2,hf7,hrel⟩:=HN.o y a2 c2 ee m P;have V:=AA hrel;clear m ee P hrel HN;refine d.o _ _ ⟨λ_=>hc2,λ_=>trivial,λ_=>trivial⟩ (λr=> ?_);clear d M r;refine Bb (i:=26) (by decide+kernel) rfl (λM d=> ?_);go_simp;refine d.o _ _ ⟨λ_=>hc2,λ_=>trivial,λ_=>trivial⟩ (λr=> ?_);clear d M r;refine Bb (i:=27) (by decide+kernel) rfl (λM d=> ?_);go_simp;refine d.o _ _ ⟨λ_=>hc2,λ_=>trivial,λ_=>trivial⟩ (λr=> ?_);clear d M r;refine Bb (i:=28) (by decide+kernel) rfl (λM d=> ?_);obtain⟨z0,z1,z2,z3⟩:=hc2;go_simp;refine d.o _ _ ⟨λh=>absurd h (by decide),λh=>absurd h (by decide),λh=>absurd h (by decide)⟩ (λr=> ?_);clear d M r;refine D_ (by decide+kernel) ?_ _;have eL:(done++[k]).length=done.length+1:=by simp
   have hgk:=HGb.o _ _ V.o;rw[eL]at hgk;clear eL;go_wp2;go_roundw
   .exact⟨k+sz t k,done++[k],_,by omega,by omega,by go_num,HKid.o,by have:=V.o;simpa using this⟩
   simp[Aa];omega
  have hke:k=i+sz t i:=by omega
  subst hke;have hd:done=Bo t i:=by
   have:=T.o;rw[Nat.sub_self]at this;simpa [BR]using this
  subst hd;rw[Ty J.o s]at A;have HG:=AA A;clear A T;go_wp2;go_roundw
  .exact⟨i+1,kv,by omega,by go_num,HG.o⟩
  simp[Aa];omega
 have e:i=t.length:=by omega
 subst e;have A:=HG.o;rw[Vu J.o]at A;have HG2:=AA A;clear A HG;go_wp2;go_ret;exact⟨rfl,n,g,C,HG2.o.kno.kno,HG2.o.fst,HG2.o.row,HG2.o.below⟩
def EY(x:Nd):List AS:=[.int .i64 x.kind,.string x.tag,.string x.text,.slice x.aa x.attrs.length x.ac,.int .i64 x.size]
def B7(l:List Nd):List AS:=l.flatMap EY
theorem EB(l m:List Nd):B7 (l++m)=B7 l++B7 m:=by simp[B7]
theorem C_(l:List Nd):(B7 l).length=l.length*5:=by
 induction l with
 |nil=>rfl
 |cons x l e=>show(EY x++B7 l).length=_;rw[AN,e];simp[EY];omega
theorem Si(l:List Nd):∀u∈B7 l,u.oneCell'=true:=by
 intro u e;obtain⟨x,_,hx⟩:=C1.1 e;simp[EY]at hx;rcases hx with rfl|rfl|rfl|rfl|rfl<;>rfl
theorem Tryz.aJ:(Tryz.prog.info? 41).map (λi=>(i.zero,i.size,i.bytes))=some (some (.agg #[.int .i64 0,.string ⟨#[]⟩,.string ⟨#[]⟩,.slice none 0 0,.int .i64 0]),5,72):=by kernel_rfl
theorem Oj{o:ER}{a:Act}(s x:Operand)
 (j:o.op= .call {callee:= .builtin .append,args:= #[s,x],argTypes:= #[22,22]})
 (base:Nat)(v:AS)(xs:List Nd)(q:a.eval s=v)(d:w.ownsRow base 41 5 v xs.length (B7 xs))
 (A:Option Ai)(m c:Nat)(t:List Nd)(z:m=t.length)(hx:a.eval x= .slice A m c)(hr:GC w w.heap.size 5 A m (B7 t))(b:xs.length+t.length<=1000000)(i:base<=w.heap.size)
 (h:∀r n w',w'.ownsRow base 41 5 (.slice r (xs++t).length n) (xs++t).length (B7 (xs++t))->w.grownBy w' v.ownBlock->((AO r (xs++t).length n).ownBlock=v.ownBlock\/(AO r (xs++t).length n).ownBlock=some w.heap.size)->K (a.put o.dst (.slice r (xs++t).length n)) w'):
 Oper.wp AC o a w K Q:=by
 subst z;obtain⟨k,l,g,y,f⟩:=D6 Tryz.aJ;refine EN w s x 22 j base 41 k (.agg #[.int .i64 0,.string ⟨#[]⟩,.string ⟨#[]⟩,.slice none 0 0,.int .i64 0]) 5 72 underlying22 l g y f rfl (by decide) v xs.length (B7 xs) q d w.heap.size A t.length c (B7 t) hx hr (Si t) (by unfold maxLen;omega) (by omega) i ?_;intro T w' u E p;obtain⟨r,n,rfl⟩:=DA u;have e:(xs++t).length=xs.length+t.length:=AN;rw[<-EB]at u;rw[<-e]at u p|-;exact h r n w' u E p
theorem Da{rest:List ER}{o:ER}{a:Act}(l:o.guard=none)(s x:Operand)
 (f:o.op= .call {callee:= .builtin .append,args:= #[s,x],argTypes:= #[22,22]})
 (base:Nat)(v:AS)(xs:List Nd)(u:a.eval s=v)(r:w.ownsRow base 41 5 v xs.length (B7 xs))
 (A:Option Ai)(m c:Nat)(e:List Nd)(y:m=e.length)(hx:a.eval x= .slice A m c)(hr:GC w w.heap.size 5 A m (B7 e))(d:xs.length+e.length<=1000000)(t:base<=w.heap.size)
 (h:∀n i w',w'.ownsRow base 41 5 (.slice n (xs++e).length i) (xs++e).length (B7 (xs++e))->w.grownBy w' v.ownBlock->((AO n (xs++e).length i).ownBlock=v.ownBlock\/(AO n (xs++e).length i).ownBlock=some w.heap.size)->wpList AC T Q rest (a.put o.dst (.slice n (xs++e).length i)) w'):
 wpList AC T Q (o::rest) a w:=
 wpList_plain l λ_ g=>Oj s x f base v xs u r A m c e y hx hr d t λn i w' k b p=>g _ _ (h n i w' k b p)
theorem JD(t:List Nd)(x:Nd)(e:List Nd)(s:Int):(B7 (t++x::e)).set (t.length*5+4) (.int .i64 s)=B7 (t++{x with size:=s}::e):=by
 rw[EB,EB];have e1:B7 (x::e)=EY x++B7 e:=rfl;have e2:B7 ({x with size:=s}::e)=EY {x with size:=s}++B7 e:=rfl;rw[e1,e2,List.set_append_right _ _ (by rw[C_];omega),C_];have a:t.length*5+4-t.length*5=4:=by omega
 rw[a];rfl
theorem JN{e size:Nat}{xs:List AS}(h:w.ownsRow B e size (.slice (some ⟨g,0,none⟩) n c) n xs)(j:Nat)(m:j<xs.length)(u:AS):
 (w.setCell ⟨g,j,none⟩ u).ownsRow B e size (.slice (some ⟨g,0,none⟩) n c) n (xs.set j u):=by
 refine⟨by rw[List.length_set];exact h.1,?_⟩;rcases h.2 with⟨t,_⟩|⟨f,cap,a,t,d,r,s,l,i,ht⟩
 .cases t
 cases t
 refine .inr ⟨g,c,a.setIfInBounds j u,rfl,d,Ao w g j _ _ u r,s,l,by simpa using i,?_⟩;have o:=h.1;rw[Array.toList_setIfInBounds,List.take_set,ht]
theorem FW{e size:Nat}{xs:List AS}(h:w.ownsRow B e size v n xs)(a:0<n):∃g c,v= .slice (some ⟨g,0,none⟩) n c:=by
 rcases h.2 with⟨_,t⟩|⟨g,cap,_,t,_⟩
 .omega
 exact⟨g,cap,t⟩
theorem KR{e size:Nat}{xs:List AS}(h:w.ownsRow B e size (.slice (some ⟨g,0,none⟩) n c) n xs):∃t,w.heap[g]? =some (.cells t e (0,0)):=by
 rcases h.2 with⟨a,_⟩|⟨i,cap,t,a,_,o,_⟩
 .cases a
 cases a;exact⟨t,o⟩
structure QF(F:Fo)(S:Nat->Prop)(kd:Nat->Nd)(pl:Nat->Int)(B:Nat)(kb:Nat->Nat)(w:AB):Prop where
 node:∀i,S i->B<=kb i/\∃ka kc,w.heap[kb i]? =some (.cells (Eo kb (F.par i) (kd i) (pl i) (kd i).aa (kd i).ac (F.kids i).length ka kc) 81 (0,0))/\
  w.ownsRow B 49 2 (.slice (kd i).aa (kd i).attrs.length (kd i).ac) (kd i).attrs.length (CJ (kd i).attrs)/\
  w.ownsRow B 57 1 (.slice ka (F.kids i).length kc) (F.kids i).length (Ad kb (F.kids i))
open Classical in
theorem Ct.data(h:Ct F S H P B O w):∃kd:Nat->Nd,QF F S kd P B O w/\∀i,S i->∃aa ac,kd i={H i with aa:=aa,ac:=ac}:=by
 have key:∀i,∃p:Option Ai × Nat,S i->B<=O i/\∃a t,w.heap[O i]? =some (.cells (Eo O (F.par i) (H i) (P i) p.1 p.2 (F.kids i).length a t) 81 (0,0))/\
  w.ownsRow B 49 2 (.slice p.1 (H i).attrs.length p.2) (H i).attrs.length (CJ (H i).attrs)/\
  w.ownsRow B 57 1 (.slice a (F.kids i).length t) (F.kids i).length (Ad O (F.kids i)):=by
  intro i;by_cases e:S i
  .obtain⟨o,aa,ac,a,t,r,s,n⟩:=h.node i e;exact⟨(aa,ac),λ_=>⟨o,a,t,r,s,n⟩⟩
  exact⟨(none,0),λh=>absurd h e⟩
 refine⟨λi=>{H i with aa:=(Classical.choose (key i)).1,ac:=(Classical.choose (key i)).2},⟨λi e=>Classical.choose_spec (key i) e⟩,λi e=>⟨_,_,rfl⟩⟩
structure D8(r:Option Nat)(gat:Nat)(w w':AB):Prop where
 os:w'.os=w.os
 tape:w'.tape=w.tape
 output:w'.output=w.output
 size:w.heap.size<=w'.heap.size
 block:∀b,b<w.heap.size->some b≠r->b≠gat->w'.heap[b]? =w.heap[b]?
theorem D8.refl(r:Option Nat)(e:Nat)(w:AB):D8 r e w w:=⟨rfl,rfl,rfl,AG _,λ_ _ _ _=>rfl⟩
theorem D8.trans{r o:Option Nat}{t:Nat}{a b c:AB}(h:D8 r t a b)(k:D8 o t b c)(hr:o=r\/∃x,o=some x/\a.heap.size<=x):D8 r t a c:=
 ⟨k.os.trans h.os,k.tape.trans h.tape,k.output.trans h.output,AH h.size k.size,λq s n i=>(k.block q (AR s h.size) (by
  rcases hr with e|⟨x,e,hx⟩
  .rw[e];exact n
  rw[e];intro e2;cases e2;omega) i).trans (h.block q s n i)⟩
theorem D8.Yq{r:Option Nat}{e:Nat}{a b:AB}(h:AL a.heap.size a b):D8 r e a b:=⟨h.os,h.tape,h.output,h.size,λq t _ _=>h.block q t⟩
theorem D8.Zv{r:Option Nat}{e:Nat}{a b:AB}(h:a.grownBy b r):D8 r e a b:=⟨h.os,h.tape,h.output,h.size,λq o t _=>h.block q o t⟩
theorem D8.set{r:Option Nat}{t:Nat}{a b:AB}(h:D8 r t a b){p:Ai}(n:p.block=t\/r=some p.block\/a.heap.size<=p.block)(u:AS):D8 r t a (b.setCell p u):=
 ⟨h.os,h.tape,h.output,by simpa [Cb]using h.size,λq s i o=>(A8 _ _ _ _ (by
  rcases n with e|e|e
  .rw[e];exact o
  .intro e2;exact i (by rw[e,e2])
  intro e2;omega)).trans (h.block q s i o)⟩
theorem Nj{r:Option Nat}{a:Nat}(d:D8 r a w N){e size:Nat}{xs:List AS}(s:w.ownsRow B e size v n xs)(t:v.ownBlock=none\/v.ownBlock≠r)(c:v.ownBlock≠some a):N.ownsRow B e size v n xs:=by
 refine⟨s.1,?_⟩;rcases s.2 with u|⟨g,cap,o,i,l,h,r3⟩
 .exact .inl u
 refine .inr ⟨g,cap,o,i,l,?_,r3⟩;have e:v.ownBlock=some g:=by rw[i];rfl
 rw[d.block g (AE.1 h).1 (λe2=>by
  rcases t with t|t
  .rw[e]at t;cases t
  exact t (e.trans e2)) (λe2=>c (by rw[e,e2]))]
 exact h
theorem CC{a b:Nat}{c1 c2:Array AS}{i t2:Dk}(t:w.heap[a]? =some (.cells c1 i (0,0)))(n:w.heap[b]? =some (.cells c2 t2 (0,0)))(o:i≠t2):a≠b:=λe=>by
 rw[e,n]at t;injection t with t;injection t with _ t;exact o t.symm
theorem QF.ZI{kd:Nat->Nd}(h:QF F S kd P B O w){s:Nat}{xs:List AS}(d:D8 v.ownBlock s w N)(y:w.ownsRow B 41 5 v n xs)(t:w.heap[s]? =some (.cells E 3 (0,0))):QF F S kd P B O N:=by
 refine⟨λi j=> ?_⟩;obtain⟨x,k,p,r,u,l⟩:=h.node i j;have o:∀{e size n2:Nat} {v2:AS} {f:List AS},w.ownsRow B e size v2 n2 f->41≠e->v2.ownBlock=none\/v2.ownBlock≠v.ownBlock:=by
  intro e size n2 v2 f q m;cases a:v2.ownBlock with
  |none=>exact .inl rfl
  |some b=>
   refine .inr λe2=> ?_;rcases q.2 with⟨c,_⟩|⟨g,_,T,c,_,z,_⟩
   .rw[c]at a;simp[A6]at a
   rw[c]at a;simp[A6]at a;subst a;exact Ax y z m e2.symm
 refine⟨x,k,p,?_,Nj d u (o u (by decide)) (Ax u t (by decide)),Nj d l (o l (by decide)) (Ax l t (by decide))⟩;rw[d.block _ (AE.1 r).1 (λe=>Ax y r (by decide) e.symm) (CC r t (by decide))];exact r
def D9(F:Fo)(h:Nat->Nat)(kd:Nat->Nd)(y:Nat):Nd:={kd y with size:=((F.all h y).length:Int)}
def Fa(t n:Nat)(P:Nat->Int)(w:AB):Prop:=∃e,w.heap[t]? =some (.cells e 3 (0,0))/\e.size=n/\∀j,j<n->e[j]? =some (.int .i64 (P j))
def J2(L:List Nat)(d:Nat)(P:Nat->Int)(j:Nat):Int:=if j∈L then((d+L.idxOf j:Nat):Int)else P j
theorem MM{a o:List Nat}{d:Nat}{P:Nat->Int}(i:∀j∈o,j∉a):J2 o (d+a.length) (J2 a d P)=J2 (a++o) d P:=by
 funext j;unfold J2;by_cases e:j∈o
 .rw[AJ e,AJ (AV.2 (.inr e)),List.idxOf_append,AI (i j e)];congr 1;omega
 rw[AI e];by_cases t:j∈a
 .rw[AJ t,AJ (AV.2 (.inl t)),List.idxOf_append,AJ t]
 rw[AI t,AI (λh=>(AV.1 h).elim t e)]
theorem Fa.set{t:Nat}{P:Nat->Int}(h:Fa t n P w)(d:Nat):Fa t n (J2 [x] d P) (w.setCell ⟨t,x,none⟩ (.int .i64 (d:Int))):=by
 obtain⟨a,r,s,i⟩:=h;refine⟨a.setIfInBounds x (.int .i64 (d:Int)),Ao w t x _ _ _ r,by simpa using s,λj o=> ?_⟩;unfold J2;by_cases e:j=x
 .subst e;rw[AJ (by simp)];simp[show j<a.size by omega]
 rw[AI (by simpa using e),Array.getElem?_setIfInBounds_ne (B9 e)];exact i j o
theorem Fa.skip{e:Nat}{P:Nat->Int}(h:Fa e n P w)(hx:n<=x)(d:Nat):Fa e n (J2 [x] d P) w:=by
 obtain⟨t,s,i,o⟩:=h;refine⟨t,s,i,λj a=> ?_⟩;unfold J2;rw[AI (by simp;omega)];exact o j a
theorem Fa.ZI{e:Nat}{P:Nat->Int}(h:Fa e n P w)(a:N.heap[e]? =w.heap[e]?):Fa e n P N:=by
 obtain⟨t,s,i,o⟩:=h;exact⟨t,a.trans s,i,o⟩
def Fc(F:Fo)(h:Nat->Nat)(kd:Nat->Nd)(n B a:Nat)(x:Nat)(t:List Nd)(P:Nat->Int)(v:AS)(w:AB)(e:Bx)(w':AB):Prop:=
 ∃i o,e= .returned (.slice i (t++(F.all h x).map (D9 F h kd)).length o)/\w'.ownsRow B 41 5 (.slice i (t++(F.all h x).map (D9 F h kd)).length o) (t++(F.all h x).map (D9 F h kd)).length (B7 (t++(F.all h x).map (D9 F h kd)))/\
  ((AO i (t++(F.all h x).map (D9 F h kd)).length o).ownBlock=v.ownBlock\/∃b,(AO i (t++(F.all h x).map (D9 F h kd)).length o).ownBlock=some b/\w.heap.size<=b)/\Fa a n (J2 (F.all h x) t.length P) w'/\D8 v.ownBlock a w w'
def CR(F:Fo)(h:Nat->Nat)(x j:Nat):List Nat:=((F.kids x).take j).flatMap (F.all h)
def Hb(F:Fo)(h:Nat->Nat)(kd:Nat->Nd)(n B e:Nat)(x:Nat)(t:List Nd)(P:Nat->Int)(v:AS)(w:AB)(o1 o:AS)(wr:AB):Prop:=
 ∃j a c m,j<=(F.kids x).length/\o= .int .i64 (j:Nat)/\o1= .slice a m c/\m=(t++kd x::(CR F h x j).map (D9 F h kd)).length/\wr.ownsRow B 41 5 (.slice a m c) m (B7 (t++kd x::(CR F h x j).map (D9 F h kd)))/\
  ((AO a m c).ownBlock=v.ownBlock\/∃b,(AO a m c).ownBlock=some b/\w.heap.size<=b)/\Fa e n (J2 (x::CR F h x j) t.length P) wr/\D8 v.ownBlock e w wr
theorem Ht(o:F.Ok S h)(x j:Nat):(CR F h x j).length+1<=(F.all h x).length:=by
 rw[F.all_eq o x];have:(CR F h x j).length<=((F.kids x).flatMap (F.all h)).length:=by
  unfold CR;conv=>rhs;rw[<-Av j (F.kids x),C9,AN]
  omega
 rw[Ak];omega
theorem Ef(F:Fo)(h:Nat->Nat)(x j:Nat)(e:j<(F.kids x).length):CR F h x (j+1)=CR F h x j++F.all h (F.kids x)[j]:=by
 unfold CR;rw[AF e,C9];simp
theorem LB(o:F.Ok S h)(x:Nat):x::CR F h x (F.kids x).length=F.all h x:=by
 unfold CR;rw[AU,<-F.all_eq o x]
theorem Lb(o:F.Ok S h)(x j:Nat)(i:j<(F.kids x).length):∀y∈F.all h (F.kids x)[j],y∉x::CR F h x j:=by
 have t:=F.Y9 o _ x (AG _);rw[F.all_eq o x]at t;have e:(F.kids x).flatMap (F.all h)=CR F h x j++(F.all h (F.kids x)[j]++((F.kids x).drop (j+1)).flatMap (F.all h)):=by
  unfold CR;conv=>lhs;rw[<-Av j (F.kids x),Ck i,C9,A_]
 rw[e,B4,BA]at t;intro y a hm;rcases BQ.1 hm with rfl|hm
 .exact t.1 (AV.2 (.inr (AV.2 (.inl a))))
 exact t.2.2.2 y hm y (AV.2 (.inl a)) rfl
theorem PU(w:AB)(T:Dk)(x:Nd)(B:Nat)(a:w.heap.size<B):GC (w.alloc (.cells #[.int .i64 x.kind,.string x.tag,.string x.text,.slice x.aa x.attrs.length x.ac,.int .i64 x.size] T)) B 5 (some ⟨w.heap.size,0,none⟩) 1 (B7 [x]):=by
 refine⟨rfl,λ_=>⟨_,rfl,a,λj u t=> ?_⟩⟩;rw[Ba,BI];have e:B7 [x]=[.int .i64 x.kind,.string x.tag,.string x.text,.slice x.aa x.attrs.length x.ac,.int .i64 x.size]:=rfl;rw[e]at t;rw[By];simpa using t
theorem Iy(o:F.Ok S h)(x:Nat):(F.kids x).length+1<=(F.all h x).length:=by
 rw[F.all_eq o x,Ak];have:∀l:List Nat,l.length<=(l.flatMap (F.all h)).length:=by
  intro l;induction l with
  |nil=>exact AG _
  |cons y l e=>
   rw[A_,AN,F.all_eq o y,Ak,Ak];omega
 have:=this (F.kids x);omega
theorem KN{kd:Nat->Nd}{a:Nat}{t:List Nd}{P:Nat->Int}{d:Option Ai}{s:Nat}{o:AB}(v:D8 (AO d t.length s).ownBlock a w o)(z:o.heap.size=w.heap.size)(q:B<=w.heap.size)
 (p:Fa a n (J2 [x] t.length P) o)(b:o.ownsRow B 41 5 (.slice d t.length s) t.length (B7 t))(a2:Option Ai)(c2:Nat)(c:AB)(r:Array AS)
 (y:c.ownsRow B 41 5 (.slice a2 (t++[kd x]).length c2) (t++[kd x]).length (B7 (t++[kd x])))
 (g:((o.alloc (.cells r 41)).alloc (.cells r 41)).grownBy c (AO d t.length s).ownBlock)
 (u:(AO a2 (t++[kd x]).length c2).ownBlock=(AO d t.length s).ownBlock\/(AO a2 (t++[kd x]).length c2).ownBlock=some ((o.alloc (.cells r 41)).alloc (.cells r 41)).heap.size):
 Hb F h kd n B a x t P (.slice d t.length s) w (.slice a2 (t.length+1) c2) (.int .i64 (0:Int)) c:=by
 have k:(t++[kd x]).length=t.length+1:=by simp
 rw[k]at y u;have i:AL o.heap.size o ((o.alloc (.cells r 41)).alloc (.cells r 41)):=((AW _ _).alloc (AG _) _).alloc (by rw[BX];omega) _;have hA0:=p;obtain⟨j,l,_⟩:=hA0;have f:a<o.heap.size:=(AE.1 l).1;have m:D8 (AO d t.length s).ownBlock a w c:=(v.trans (D8.Yq i) (.inl rfl)).trans (D8.Zv g) (.inl rfl);refine⟨0,a2,c2,t.length+1,by omega,rfl,rfl,by simp[CR],?_,?_,?_,m⟩
 .have e:(t++kd x::(CR F h x 0).map (D9 F h kd))=t++[kd x]:=by simp[CR]
  rw[e];exact y
 .rcases u with e|e
  .exact .inl e
  exact .inr ⟨_,e,by rw[BX,BX];omega⟩
 have e:x::CR F h x 0=[x]:=by simp[CR]
 rw[e];refine p.ZI ?_;rw[g.block a (by rw[BX,BX];omega) (λe=>Ax b l (by decide) e.symm),i.block a f]
theorem PX(o:F.Ok S h){kd:Nat->Nd}{pl:Nat->Int}(n s:Nat)(hpl:∀i,S i->pl i=if i<n then(i:Int)else-1)(hn:n<=100000)(d:Nat)
 (ih:∀(x:Nat) (v:AS) (t:List Nd) (P:Nat->Int) (w:AB),h x<d->S x->
 QF F S kd pl B O w->B<=w.heap.size->w.ownsRow B 41 5 v t.length (B7 t)->Fa s n P w->t.length+(F.all h x).length<=100000->(∃a c,v= .slice a t.length c)->
 AX AC 22 #[.pointer (some ⟨O x,0,none⟩),v,.slice (some ⟨s,0,none⟩) n n] w (Fc F h kd n B s x t P v w)):
 ∀(x:Nat) (v:AS) (t:List Nd) (P:Nat->Int) (w:AB),h x<d+1->S x->
 QF F S kd pl B O w->B<=w.heap.size->w.ownsRow B 41 5 v t.length (B7 t)->Fa s n P w->t.length+(F.all h x).length<=100000->(∃a c,v= .slice a t.length c)->
 AX AC 22 #[.pointer (some ⟨O x,0,none⟩),v,.slice (some ⟨s,0,none⟩) n n] w (Fc F h kd n B s x t P v w):=by
 rintro x v t P w hx hSx hK hBw hv u hlen ⟨av,X,rfl⟩;obtain⟨hB,ka,kc,D,hattr,l⟩:=hK.node x hSx;have c0:w.cell? ⟨O x,0,none⟩=some (.int .i64 (pl x)):=AZ w (O x) 0 _ _ _ D;have c1:w.cell? ⟨O x,1,none⟩=some (.int .i64 (kd x).kind):=AZ w (O x) 1 _ _ _ D;have c2:w.cell? ⟨O x,2,none⟩=some (.string (kd x).tag):=AZ w (O x) 2 _ _ _ D;have c3:w.cell? ⟨O x,3,none⟩=some (.string (kd x).text):=AZ w (O x) 3 _ _ _ D;have c4:w.cell? ⟨O x,4,none⟩=some (.slice (kd x).aa (kd x).attrs.length (kd x).ac):=AZ w (O x) 4 _ _ _ D;have c5:w.cell? ⟨O x,5,none⟩=some (.int .i64 (kd x).size):=AZ w (O x) 5 _ _ _ D;have hp:=hpl x hSx;have hat0:=u;obtain⟨cur,U,ha2,ha3⟩:=hat0;have hne:O x≠s:=CC D U (by decide);have hgl:s<w.heap.size:=(AE.1 U).1;have hkl:O x<w.heap.size:=(AE.1 D).1;have HIh:=AA ih;have HK:=AA hK;have HV:=AA hv;have HPl:=AA hpl;have HAt:=AA u;have HO:=AA o;have HCur:Hid (w.heap[s]? =some (.cells cur 3 (0,0))):=U;have HKid:Hid (∀q (hq:q<(F.kids x).length),S (F.kids x)[q]/\h (F.kids x)[q]<h x):=λq hq=>by
  have:=(o.mem x _).1 (AD hq);exact⟨(o.dom _ _ this).2,o.ht _ _ this⟩
 have HAll:Hid (∀q (hq:q<(F.kids x).length),(CR F h x q).length+(F.all h (F.kids x)[q]).length+1<=(F.all h x).length):=λq hq=>by
  have:=Ht o x (q+1);rw[Ef F h x q hq,AN]at this;omega
 have hds:t.length<=100000:=by omega
 have hkn:(F.kids x).length<=100000:=by have:=Iy o x;omega
 have K:=AA hlen;by_cases hxn:x<n
 .rw[AJ hxn]at hp;rw[hp]at c0;have g0:=AZ w s x _ _ _ U;rw[ha3 x hxn]at g0;have gf:=A7 w s x _ _ U;have hAx:=HAt.o.set (x:=x) t.length;have hl1:D8 (AO av t.length X).ownBlock s w (w.setCell ⟨s,x,none⟩ (.int .i64 (t.length:Int))):=D8.set (p:=⟨s,x,none⟩) (D8.refl (AO av t.length X).ownBlock s w) (.inl rfl) _;have hv1:=BS hv (p:=⟨s,x,none⟩) (Ax hv U (by decide)) (.int .i64 (t.length:Int));have z:=AA (λa2 c2 w2 cs ho hg u=>KN (F:=F) (h:=h) (kd:=kd) hl1 (by simp[Cb]) hBw hAx hv1 a2 c2 w2 cs ho hg u);have HV1:=AA (((hv1).alloc (.cells #[.int .i64 (kd x).kind,.string (kd x).tag,.string (kd x).text,.slice (kd x).aa (kd x).attrs.length (kd x).ac,.int .i64 (kd x).size] 41)).alloc (.cells #[.int .i64 (kd x).kind,.string (kd x).tag,.string (kd x).text,.slice (kd x).aa (kd x).attrs.length (kd x).ac,.int .i64 (kd x).size] 41));have HR1:Hid (GC (((w.setCell ⟨s,x,none⟩ (.int .i64 (t.length:Int))).alloc (.cells #[.int .i64 (kd x).kind,.string (kd x).tag,.string (kd x).text,.slice (kd x).aa (kd x).attrs.length (kd x).ac,.int .i64 (kd x).size] 41)).alloc (.cells #[.int .i64 (kd x).kind,.string (kd x).tag,.string (kd x).text,.slice (kd x).aa (kd x).attrs.length (kd x).ac,.int .i64 (kd x).size] 41)) (((w.setCell ⟨s,x,none⟩ (.int .i64 (t.length:Int))).alloc (.cells #[.int .i64 (kd x).kind,.string (kd x).tag,.string (kd x).text,.slice (kd x).aa (kd x).attrs.length (kd x).ac,.int .i64 (kd x).size] 41)).alloc (.cells #[.int .i64 (kd x).kind,.string (kd x).tag,.string (kd x).text,.slice (kd x).aa (kd x).attrs.length (kd x).ac,.int .i64 (kd x).size] 41)).heap.size 5 (some ⟨w.heap.size+1,0,none⟩) 1 (B7 [kd x])):=by
   have e:((w.setCell ⟨s,x,none⟩ (.int .i64 (t.length:Int))).alloc (.cells #[.int .i64 (kd x).kind,.string (kd x).tag,.string (kd x).text,.slice (kd x).aa (kd x).attrs.length (kd x).ac,.int .i64 (kd x).size] 41)).heap.size=w.heap.size+1:=by simp[Cb]
   have:=PU ((w.setCell ⟨s,x,none⟩ (.int .i64 (t.length:Int))).alloc (.cells #[.int .i64 (kd x).kind,.string (kd x).tag,.string (kd x).text,.slice (kd x).aa (kd x).attrs.length (kd x).ac,.int .i64 (kd x).size] 41)) 41 (kd x) (w.heap.size+2) (by rw[e];omega);rw[e]at this;rw[BX,e];exact this
  clear hp D hattr l U ha3 hK hv u hpl ih o hAx hl1 hv1 hlen;go_enter func22,ntmps22;go_wp2_with(at_builtin;refine Da rfl (.tmp 38) (.tmp 40) rfl B (.slice av t.length X) t rfl HV1.o (some ⟨w.heap.size+1,0,none⟩) 1 1 [kd x] rfl rfl HR1.o (by simp;omega) (by simp[Cb];omega) ?_);intro a9 c9 w9 N hg2 C;have I:=z.o a9 c9 w9 _ (by simpa using N) hg2 (by simpa [Cb]using C);have H:=AA I;clear N hg2 C I z HV1 HR1 c0 c1 c2 c3 c4 c5 g0 gf;go_wp2;go_loopw [1,9] (λo1 xv wr=>Hb F h kd n B s x t P (.slice av t.length X) w o1 xv wr) (λ_ xv _=>(F.kids x).length-(Aa xv).toNat)
  .exact H.o
  clear H;obtain⟨j,a,c,m,hj,rfl,rfl,hm,r,u,Q,J⟩:=hrel;obtain⟨E,L⟩:∃E,E=t++kd x::(CR F h x j).map (D9 F h kd):=⟨_,rfl⟩;rw[<-L]at hm r;subst hm;have R:=HK.o.ZI J HV.o HCur.o;obtain⟨-,ka,kc,D,-,l⟩:=R.node x hSx;have c7:wr.cell? ⟨O x,7,none⟩=some (.slice ka (F.kids x).length kc):=AZ wr (O x) 7 _ _ _ D;obtain⟨_,_,hv0,_,M⟩:=B6.own l;cases hv0
  have V:E.length=t.length+1+(CR F h x j).length:=by rw[L];simp;omega
  have hsf:=Ht HO.o x j;have HEl:=AA V;have HE:=AA L;have HOwn:=AA r;have HBl:=AA u;have HA:=AA Q;have HL:=AA J;have HKr:=AA R;have hE100:E.length<=100000:=by have:=K.o;omega
  have hEd:t.length<E.length:=by omega
  by_cases b:j<(F.kids x).length
  .obtain⟨bk,ok,rfl,hbB,hck⟩:=M.at_ (by rw[AM];omega);have g1:=hck j (by rw[AM];exact b);rw[A5 b]at g1;obtain⟨y,hy⟩:∃y,y=(F.kids x)[j]:=⟨_,rfl⟩;have Y:=HKid.o j b;have hal:=HAll.o j b;rw[<-hy]at g1 Y hal;have HI:=AA (HIh.o y (.slice a E.length c) E (J2 (x::CR F h x j) t.length P) wr (by omega) Y.1 HKr.o (AH hBw HL.o.size) HOwn.o HA.o (by have:=K.o;omega) ⟨a,c,rfl⟩);have HY:=AA hy;clear L r u Q J R D l M hck V Y hal hy;go_wp2_with fail;refine HI.o.mono ?_;rintro e w3 ⟨a3,c3,rfl,W,A,hA3,hl3⟩;have e1:E++(F.all h y).map (D9 F h kd)=t++kd x::(CR F h x (j+1)).map (D9 F h kd):=by
    rw[HE.o,Ef F h x j b,<-HY.o];simp
   have e2:J2 (F.all h y) E.length (J2 (x::CR F h x j) t.length P)=J2 (x::CR F h x (j+1)) t.length P:=by
    have e3:E.length=t.length+(x::CR F h x j).length:=(by rw[HEl.o,Ak];omega);rw[e3,MM (by rw[HY.o];exact Lb HO.o x j b),Ef F h x j b,<-HY.o];rfl
   rw[e1]at W A;rw[e2]at hA3;have HRel:Hid (Hb F h kd n B s x t P (.slice av t.length X) w (.slice a3 (t++kd x::(CR F h x (j+1)).map (D9 F h kd)).length c3) (.int .i64 ((j+1:Nat):Int)) w3):=by
    refine⟨j+1,a3,c3,_,by omega,rfl,rfl,rfl,W,?_,hA3,HL.o.trans hl3 ?_⟩
    .rcases A with f|⟨Z,f,e5⟩
     .rw[f];exact HBl.o
     exact .inr ⟨Z,f,AH HL.o.size e5⟩
    rcases HBl.o with f|⟨Z,f,e5⟩
    .exact .inl f
    exact .inr ⟨Z,f,e5⟩
   rw[e1];clear W A hA3 hl3 e1 e2;go_wp2;go_roundw
   .have:=HRel.o;simpa using this
   simp[Aa];omega
  have e:j=(F.kids x).length:=by omega
  subst e;obtain⟨g,c',hgv⟩:=FW r (by omega);cases hgv
  obtain⟨cu,G⟩:=KR r;have hgg:g≠s:=by
   have ha4:=Q;obtain⟨cu2,h2,_⟩:=ha4;exact CC G h2 (by decide)
  have hix:(B7 E)[t.length*5+4]? =some (.int .i64 (kd x).size):=by
   rw[L,EB,EV (by rw[C_];omega),C_];have e3:t.length*5+4-t.length*5=4:=by omega
   rw[e3];rfl
  have hgc:wr.cell? ⟨g,t.length*5+4,none⟩=some (.int .i64 (kd x).size):=by
   have:=r.cells (g:=g) rfl _ _ hix;rw[Ba,By]at this;exact this
  have hgf:=A7 wr g (t.length*5+4) _ _ G;have k:=LB HO.o x;have hsz:((E.length:Int)-(t.length:Int))=((F.all h x).length:Int):=by
   rw[<-k,Ak];omega
  have T:t++{kd x with size:=((F.all h x).length:Int)}::(CR F h x (F.kids x).length).map (D9 F h kd)=t++(F.all h x).map (D9 F h kd):=by
   conv=>rhs;rw[<-k,Bz]
   rfl
  have HFin:Hid (Fc F h kd n B s x t P (.slice av t.length X) w (.returned (.slice (some ⟨g,0,none⟩) E.length c)) (wr.setCell ⟨g,t.length*5+4,none⟩ (.int .i64 ((E.length:Int)-(t.length:Int))))):=by
   have h1:=JN r (t.length*5+4) (by rw[C_];omega) (.int .i64 ((E.length:Int)-(t.length:Int)));have hel:E.length=(t++(F.all h x).map (D9 F h kd)).length:=by rw[<-T,L];simp
   rw[hsz]at h1|-;have h2:(B7 E).set (t.length*5+4) (.int .i64 ((F.all h x).length:Int))=B7 (t++(F.all h x).map (D9 F h kd)):=by rw[L,JD,T]
   rw[h2,hel]at h1;refine⟨some ⟨g,0,none⟩,c,by rw[hel],h1,?_,?_,?_⟩
   .rcases u with f|f
    .exact .inl f
    exact .inr f
   .rw[k]at Q;exact Q.ZI (A8 _ _ _ _ (B9 hgg))
   refine J.set (p:=⟨g,t.length*5+4,none⟩) ?_ _;rcases u with f|⟨Z,f,e5⟩
   .exact .inr (.inl f.symm)
   refine .inr (.inr ?_);have:g=Z:=by simpa [A6]using f
   show w.heap.size<=g;omega
  clear L r u Q J R D l M V G hix k hsz T hgg;go_wp2;go_ret;exact HFin.o
 rw[AI hxn]at hp;rw[hp]at c0;have hAx:=HAt.o.skip (x:=x) (by omega) t.length;have hl1:D8 (AO av t.length X).ownBlock s w w:=D8.refl _ _ _;have z:=AA (λa2 c2 w2 cs ho hg u=>KN (F:=F) (h:=h) (kd:=kd) hl1 (by simp) hBw hAx hv a2 c2 w2 cs ho hg u);have HV1:=AA (((hv).alloc (.cells #[.int .i64 (kd x).kind,.string (kd x).tag,.string (kd x).text,.slice (kd x).aa (kd x).attrs.length (kd x).ac,.int .i64 (kd x).size] 41)).alloc (.cells #[.int .i64 (kd x).kind,.string (kd x).tag,.string (kd x).text,.slice (kd x).aa (kd x).attrs.length (kd x).ac,.int .i64 (kd x).size] 41));have HR1:Hid (GC (((w).alloc (.cells #[.int .i64 (kd x).kind,.string (kd x).tag,.string (kd x).text,.slice (kd x).aa (kd x).attrs.length (kd x).ac,.int .i64 (kd x).size] 41)).alloc (.cells #[.int .i64 (kd x).kind,.string (kd x).tag,.string (kd x).text,.slice (kd x).aa (kd x).attrs.length (kd x).ac,.int .i64 (kd x).size] 41)) (((w).alloc (.cells #[.int .i64 (kd x).kind,.string (kd x).tag,.string (kd x).text,.slice (kd x).aa (kd x).attrs.length (kd x).ac,.int .i64 (kd x).size] 41)).alloc (.cells #[.int .i64 (kd x).kind,.string (kd x).tag,.string (kd x).text,.slice (kd x).aa (kd x).attrs.length (kd x).ac,.int .i64 (kd x).size] 41)).heap.size 5 (some ⟨w.heap.size+1,0,none⟩) 1 (B7 [kd x])):=by
  have e:((w).alloc (.cells #[.int .i64 (kd x).kind,.string (kd x).tag,.string (kd x).text,.slice (kd x).aa (kd x).attrs.length (kd x).ac,.int .i64 (kd x).size] 41)).heap.size=w.heap.size+1:=by simp
  have:=PU ((w).alloc (.cells #[.int .i64 (kd x).kind,.string (kd x).tag,.string (kd x).text,.slice (kd x).aa (kd x).attrs.length (kd x).ac,.int .i64 (kd x).size] 41)) 41 (kd x) (w.heap.size+2) (by rw[e];omega);rw[e]at this;rw[BX,e];exact this
 clear hp D hattr l U ha3 hK hv u hpl ih o hAx hl1 hlen;go_enter func22,ntmps22;go_wp2_with(at_builtin;refine Da rfl (.tmp 38) (.tmp 40) rfl B (.slice av t.length X) t rfl HV1.o (some ⟨w.heap.size+1,0,none⟩) 1 1 [kd x] rfl rfl HR1.o (by simp;omega) (by simp;omega) ?_);intro a9 c9 w9 N hg2 C;have I:=z.o a9 c9 w9 _ (by simpa using N) hg2 (by simpa [Cb]using C);have H:=AA I;clear N hg2 C I z HV1 HR1 c0 c1 c2 c3 c4 c5;go_wp2;go_loopw [1,9] (λo1 xv wr=>Hb F h kd n B s x t P (.slice av t.length X) w o1 xv wr) (λ_ xv _=>(F.kids x).length-(Aa xv).toNat)
 .exact H.o
 clear H;obtain⟨j,a,c,m,hj,rfl,rfl,hm,r,u,Q,J⟩:=hrel;obtain⟨E,L⟩:∃E,E=t++kd x::(CR F h x j).map (D9 F h kd):=⟨_,rfl⟩;rw[<-L]at hm r;subst hm;have R:=HK.o.ZI J HV.o HCur.o;obtain⟨-,ka,kc,D,-,l⟩:=R.node x hSx;have c7:wr.cell? ⟨O x,7,none⟩=some (.slice ka (F.kids x).length kc):=AZ wr (O x) 7 _ _ _ D;obtain⟨_,_,hv0,_,M⟩:=B6.own l;cases hv0
 have V:E.length=t.length+1+(CR F h x j).length:=by rw[L];simp;omega
 have hsf:=Ht HO.o x j;have HEl:=AA V;have HE:=AA L;have HOwn:=AA r;have HBl:=AA u;have HA:=AA Q;have HL:=AA J;have HKr:=AA R;have hE100:E.length<=100000:=by have:=K.o;omega
 have hEd:t.length<E.length:=by omega
 by_cases b:j<(F.kids x).length
 .obtain⟨bk,ok,rfl,hbB,hck⟩:=M.at_ (by rw[AM];omega);have g1:=hck j (by rw[AM];exact b);rw[A5 b]at g1;obtain⟨y,hy⟩:∃y,y=(F.kids x)[j]:=⟨_,rfl⟩;have Y:=HKid.o j b;have hal:=HAll.o j b;rw[<-hy]at g1 Y hal;have HI:=AA (HIh.o y (.slice a E.length c) E (J2 (x::CR F h x j) t.length P) wr (by omega) Y.1 HKr.o (AH hBw HL.o.size) HOwn.o HA.o (by have:=K.o;omega) ⟨a,c,rfl⟩);have HY:=AA hy;clear L r u Q J R D l M hck V Y hal hy;go_wp2_with fail;refine HI.o.mono ?_;rintro e w3 ⟨a3,c3,rfl,W,A,hA3,hl3⟩;have e1:E++(F.all h y).map (D9 F h kd)=t++kd x::(CR F h x (j+1)).map (D9 F h kd):=by
   rw[HE.o,Ef F h x j b,<-HY.o];simp
  have e2:J2 (F.all h y) E.length (J2 (x::CR F h x j) t.length P)=J2 (x::CR F h x (j+1)) t.length P:=by
   have e3:E.length=t.length+(x::CR F h x j).length:=by rw[HEl.o,Ak];omega
   rw[e3,MM (by rw[HY.o];exact Lb HO.o x j b),Ef F h x j b,<-HY.o];rfl
  rw[e1]at W A;rw[e2]at hA3;have HRel:Hid (Hb F h kd n B s x t P (.slice av t.length X) w (.slice a3 (t++kd x::(CR F h x (j+1)).map (D9 F h kd)).length c3) (.int .i64 ((j+1:Nat):Int)) w3):=by
   refine⟨j+1,a3,c3,_,by omega,rfl,rfl,rfl,W,?_,hA3,HL.o.trans hl3 ?_⟩
   .rcases A with f|⟨Z,f,e5⟩
    .rw[f];exact HBl.o
    exact .inr ⟨Z,f,AH HL.o.size e5⟩
   rcases HBl.o with f|⟨Z,f,e5⟩
   .exact .inl f
   exact .inr ⟨Z,f,e5⟩
  rw[e1];clear W A hA3 hl3 e1 e2;go_wp2;go_roundw
  .have:=HRel.o;simpa using this
  simp[Aa];omega
 have e:j=(F.kids x).length:=by omega
 subst e;obtain⟨g,c',hgv⟩:=FW r (by omega);cases hgv
 obtain⟨cu,G⟩:=KR r;have hgg:g≠s:=by
  have ha4:=Q;obtain⟨cu2,h2,_⟩:=ha4;exact CC G h2 (by decide)
 have hix:(B7 E)[t.length*5+4]? =some (.int .i64 (kd x).size):=by
  rw[L,EB,EV (by rw[C_];omega),C_];have e3:t.length*5+4-t.length*5=4:=by omega
  rw[e3];rfl
 have hgc:wr.cell? ⟨g,t.length*5+4,none⟩=some (.int .i64 (kd x).size):=by
  have:=r.cells (g:=g) rfl _ _ hix;rw[Ba,By]at this;exact this
 have hgf:=A7 wr g (t.length*5+4) _ _ G;have k:=LB HO.o x;have hsz:((E.length:Int)-(t.length:Int))=((F.all h x).length:Int):=by
  rw[<-k,Ak];omega
 have T:t++{kd x with size:=((F.all h x).length:Int)}::(CR F h x (F.kids x).length).map (D9 F h kd)=t++(F.all h x).map (D9 F h kd):=by
  conv=>rhs;rw[<-k,Bz]
  rfl
 have HFin:Hid (Fc F h kd n B s x t P (.slice av t.length X) w (.returned (.slice (some ⟨g,0,none⟩) E.length c)) (wr.setCell ⟨g,t.length*5+4,none⟩ (.int .i64 ((E.length:Int)-(t.length:Int))))):=by
  have h1:=JN r (t.length*5+4) (by rw[C_];omega) (.int .i64 ((E.length:Int)-(t.length:Int)));have hel:E.length=(t++(F.all h x).map (D9 F h kd)).length:=by rw[<-T,L];simp
  rw[hsz]at h1|-;have h2:(B7 E).set (t.length*5+4) (.int .i64 ((F.all h x).length:Int))=B7 (t++(F.all h x).map (D9 F h kd)):=by rw[L,JD,T]
  rw[h2,hel]at h1;refine⟨some ⟨g,0,none⟩,c,by rw[hel],h1,?_,?_,?_⟩
  .rcases u with f|f
   .exact .inl f
   exact .inr f
  .rw[k]at Q;exact Q.ZI (A8 _ _ _ _ (B9 hgg))
  refine J.set (p:=⟨g,t.length*5+4,none⟩) ?_ _;rcases u with f|⟨Z,f,e5⟩
  .exact .inr (.inl f.symm)
  refine .inr (.inr ?_);have:g=Z:=by simpa [A6]using f
  show w.heap.size<=g;omega
 clear L r u Q J R D l M V G hix k hsz T hgg;go_wp2;go_ret;exact HFin.o
theorem Qi(o:F.Ok S h){kd:Nat->Nd}{r:Nat->Int}(n e:Nat)(s:∀i,S i->r i=if i<n then(i:Int)else-1)(u:n<=100000)(d:Nat):
 ∀(x:Nat) (v:AS) (t:List Nd) (P:Nat->Int) (w:AB),h x<d->S x->
 QF F S kd r B O w->B<=w.heap.size->w.ownsRow B 41 5 v t.length (B7 t)->Fa e n P w->t.length+(F.all h x).length<=100000->(∃a c,v= .slice a t.length c)->
 AX AC 22 #[.pointer (some ⟨O x,0,none⟩),v,.slice (some ⟨e,0,none⟩) n n] w (Fc F h kd n B e x t P v w):=by
 induction d with
 |zero=>intro x v t P w hx;omega
 |succ d l=>exact PX o n e s u d l
end Go.Proofs.YtgajepeipddacaaGreat
