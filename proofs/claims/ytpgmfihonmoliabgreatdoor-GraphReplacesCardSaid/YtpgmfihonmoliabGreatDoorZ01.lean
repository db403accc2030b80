import Derived.Test.YtpgmfihonmoliabGreatDoorRows
import Derived.WalkSpells
import Derived.WalkLawsBesides
import Derived.Handy
import Derived.Deep.AppendLies
import Derived.BigQuiet
import Derived.Deep.Fields
import Derived.StillTail
import Derived.Deep.RegionHeld3
import Derived.Shelf.Strings.Trim
import Derived.Shelf.Small.Utf8
import Derived.Shelf.Small.Wraps
import Derived.Shelf.Strconv.Itoa3
import Derived.Shelf.Strconv.ErrVarAll
import Derived.Shelf.Pu.ParseUintPublic10
import Derived.Shelf.Strings.Shaped
import Derived.Shelf.Strings.Runes
import Derived.Shelf.Strings.AsciiSet
import Derived.Shelf.Strings.Repeat
import Derived.Shelf.Unicode.DecodeAny
import Derived.Shelf.Strings.BuilderCap
import Derived.Shelf.Spec.TrailingZeros
open _root_.Array renaming getElem?_eq_some_iff->Y5,getD_eq_getD_getElem?->X6,setIfInBounds_eq_of_size_le->D2,getElem?_eq_getElem->E3,getElem?_eq_none->E8,replicate->J9
open _root_.Go.RowKit.Below renaming refl->W8,heap_setCell->W9
open _root_.Bool renaming and_eq_true->K6,false_eq_true->X1,eq_iff_iff->Z9,and_eq_false_iff->W3,or_eq_false_iff->W4,not_eq_true'->J1,false_xor->L3,true_and->L7,not_true->L8,false_or->L9
open _root_.Go renaming bodyPost_ret->S0
open _root_.Int renaming tmod_eq_emod_of_nonneg->V9,toNat_natCast->J8
open _root_.Go.IntWalk renaming i64_in->J0
open _root_.Go.Lib renaming decDigits->K1,itoa->K5,decDigits_one->Y1,parseUintB->Y8,parseUintM->U9,Utf8Tabs->V7,bitLen->V8,atoiAll->Z2,decDigits_length->W6,TabIs->W7,decodeGo->D6,pow10Tab->F4,decFrom->G3,atoi->G4,nDigits_small->J7,trimPrefix->L5,bytesWorld->L6,digitVal->R3,nDigits->R6,decNat->R8,NumEnd->R9
open _root_.List renaming getElem?_eq_getElem->K0,getD_eq_getElem?_getD->K2,mem_append->K3,replicate->K4,mem_singleton->K7,length_cons->K9,getElem_mem->Q0,all_eq_true->Q1,range->Q3,length_append->Q4,foldl_cons->Q5,mem_range->Q6,take_succ_eq_append_getElem->Q7,foldl_append->Q8,append_assoc->Q9,mem_cons->Y2,eq_nil_of_length_eq_zero->Y3,cons_append->Y4,pairwise_cons->Y6,all_cons->X4,pairwise_append->X7,mem_append_left->X8,dropWhile_cons->U3,nil_append->U4,getElem?_replicate->U5,take_of_length_le->U6,countP_congr->U7,length_drop->V0,reverse_reverse->V1,head?_cons->V3,toArray->V4,reverse_perm->Z0,flatMap_cons->Z1,mem_map->Z5,length_nil->Z7,all_append->Z8,mem_append_right->W1,countP_le_length->W2,getElem?_drop->D1,reverse_cons->D3,takeWhile_append_dropWhile->D5,mem_flatMap->D7,eq_nil_iff_forall_not_mem->D8,nodup_cons->E0,length_zip->E1,foldl_nil->E2,map_cons->E7,map_set->E9,drop_eq_nil_of_le->F0,dropWhile_sublist->F1,mem_of_mem_take->F5,mem_iff_getElem->F6,dropLast_concat->F7,reverse_append->G0,length_pos_iff->G1,getElem?_range->G2,getElem_drop->G7,getElem?_map->G8,flatten_cons->G9,take_length->J3,mem_reverse->J4,getElem_zip->J5,countP_cons->J6,length_set->L1,tail_cons->L2
open _root_.Nat renaming le_refl->K8,two_pow_pos->Q2,le_trans->Y0,eq_zero_or_pos->Y7,pow_succ->Y9,mod_eq_of_lt->X0,lt_of_lt_of_le->X2,min_eq_left->X3,mul_assoc->X5,pow_add->X9,add_mul->U0,shiftLeft_eq->U1,mul_comm->U2,zero_add->U8,pow_le_pow_right->V2,mul_lt_mul_of_pos_right->V5,lt_or_ge->V6,le_mul_of_pos_right->Z4,le_of_lt->Z6,strongRecOn->W0,mul_le_mul_right->W5,add_assoc->D0,add_comm->D4,mul_pos->D9,eq_of_mul_eq_mul_left->E6,mul_zero->F3,one_mul->F8,mul_one->F9,shiftLeft_zero->G6,mul_left_comm->J2,div_eq_of_lt->L0,mul_le_mul->L4,zero_mul->R0,zero_mod->R1,le_of_eq->R2,mod_one->R4,le_log2->R5,not_lt->R7
open _root_.Option renaming map_some->Z3,getD_some->G5
open _root_.Go.World renaming setCell->E4,block_lt_of_cell?->E5,cell?_of_block->F2
namespace Go.Proofs.YtpgmfihonmoliabGreatDoor
open Go.RowKit
theorem qqq {α:Type _}[BEq α][LawfulBEq α]{a b:α}:(a==b)=false<->a≠b:=beq_eq_false_iff_ne
theorem qqk {p:Prop}[Decidable p](a:p):decide p=true:=decide_eq_true a
theorem qqx {p:Prop}[Decidable p](a:¬p):decide p=false:=decide_eq_false a
theorem qqy {p:Prop}[Decidable p](a:decide p=true):p:=of_decide_eq_true a
theorem qqz {p:Prop}[Decidable p](a:decide p=false):¬p:=of_decide_eq_false a
theorem qqv {p:Prop}[Decidable p]:(decide p=true)=p:=decide_eq_true_eq
theorem qkq {α:Type _}[BEq α][LawfulBEq α]{a b:α}:(a==b)=true<->a=b:=beq_iff_eq
theorem zs7 {a b:Bool} (h:a=b):Ending.returned (.bool a)=.returned (.bool b):=by rw[h]
theorem zot {k:IntKind} {a b:Int} (h:a=b):Ending.returned (.int k a)=.returned (.int k b):=by rw[h]
theorem zcu {B:Nat} {w wr w1:World} (h:Below B w wr) (hz:B<=wr.heap.size) (h1:Below wr.heap.size wr w1):Below B w w1:=h.trans (h1.mono hz)
theorem zbi (a:Addr) (n:Nat):(a.add n).block=a.block:=by unfold Addr.add;split<;>rfl
theorem zge (a:Addr) (i j:Nat):(a.add i).add j=a.add (i+j):=by
 unfold Addr.add;by_cases hi:i=0<;>by_cases hj:j=0<;>simp[hi,hj,D0]
def Reads (w:World) (B size:Nat) (A:Option Addr) (n:Nat) (xs:List Value):Prop:=
 xs.length=n*size/\(0<n->∃ad,A=some ad/\ad.block<B/\∀j u,xs[j]? =some u->w.cell? (ad.add j)=some u)
section
variable {w w':World} {B B' size n:Nat} {A:Option Addr} {xs:List Value}
theorem Reads.none_:Reads w B size A 0 []:=⟨by simp,fun h=>absurd h (by omega)⟩
theorem Reads.at_ {k:Nat} (h:Reads w B 1 A n xs) (hk:k<n):∃ad u,A=some ad/\ad.block<B/\xs[k]? =some u/\w.cell? (ad.add k)=some u:=by
 obtain⟨ad,e,hb,hc⟩:=h.2 (by omega);have hl:k<xs.length:=by have:=h.1;omega
 exact⟨ad,xs[k],e,hb,K0 hl,hc k _ (K0 hl)⟩
theorem Reads.keep (h:Reads w B size A n xs) (hk:∀p:Addr,p.block<B->w'.cell? p=w.cell? p):Reads w' B size A n xs:=
 ⟨h.1,fun hn=>by
  obtain⟨ad,e,hb,hc⟩:=h.2 hn;exact⟨ad,e,hb,fun j u hu=>(hk _ (by rw[zbi];exact hb)).trans (hc j u hu)⟩⟩
theorem Reads.more (h:Reads w B size A n xs) (hB:B<=B'):Reads w B' size A n xs:=
 ⟨h.1,fun hn=>by
  obtain⟨ad,e,hb,hc⟩:=h.2 hn;exact⟨ad,e,by omega,hc⟩⟩
theorem Reads.below (h:Reads w B size A n xs) (hb:Below B w w'):Reads w' B size A n xs:=h.keep fun _ hp=>hb.cell hp
theorem Reads.drew (h:Reads w B size A n xs):Reads w.drew B size A n xs:=h
theorem Reads.drewN (h:Reads w B size A n xs) (k:Nat):Reads (w.drewN k) B size A n xs:=h
theorem Reads.alloc (h:Reads w B size A n xs) (hB:B<=w.heap.size) (o:Obj):Reads (w.alloc o) B size A n xs:=h.keep fun p hp=>World.cell?_alloc_lt w o p (by omega)
theorem Reads.setCell (h:Reads w B size A n xs) {p:Addr} (hB:B<=p.block) (u:Value):Reads (w.setCell p u) B size A n xs:=
 h.keep fun q hq=>World.cell?_setCell_other w p q u (fun e=>by subst e;omega)
theorem Reads.grown (h:Reads w B size A n xs) {row:Option Nat} (hg:w.grownBy w' row) (hB:B<=w.heap.size) (hr:∀g,row=some g->B<=g):Reads w' B size A n xs:=
 h.keep fun p hp=>F2 (hg.block p.block (by omega) (fun e=>by have:=hr _ e.symm;omega))
theorem Reads.cut (h:Reads w B size A n xs) {k cap:Nat} (hk:k<=n) (hc:n<=cap):
 Reads w B size (if cap=k then A else A.map (·.add (k*size))) (n-k) (xs.drop (k*size)):=by
 refine⟨by rw[V0,h.1,Nat.sub_mul],fun hn=>?_⟩;obtain⟨ad,rfl,hb,hcell⟩:=h.2 (by omega);rw[if_neg (by omega)];refine⟨ad.add (k*size),rfl,by rw[zbi];exact hb,fun j u hu=>?_⟩;rw[zge];exact hcell _ u (by rw[<-hu,D1])
theorem Reads.of_own {base:Nat} {e:TypeId} {c:Nat} (h:w.ownsRow base e size (.slice A n c) n xs):Reads w w.heap.size size A n xs:=by
 refine⟨h.1,fun hn=>?_⟩;obtain⟨g,cap,hv,_,hlt⟩:=h.form hn;have hA:A=some ⟨g,0,none⟩:=by injection hv
 subst hA;exact⟨_,rfl,hlt,h.cells (g:=g) rfl⟩
end
def Blk (w:World) (g:Nat) (t:TypeId) (cs:Array Value):Prop:=w.heap[g]? =some (.cells cs t (0,0))
section
variable {w w':World} {g:Nat} {t:TypeId} {cs:Array Value}
theorem Blk.lt (h:Blk w g t cs):g<w.heap.size:=by
 rcases V6 g w.heap.size with hlt|hge
 .exact hlt
 .unfold Blk at h;rw[E8 hge]at h;cases h
theorem Blk.cell (h:Blk w g t cs) (i:Nat):w.cell? ⟨g,i,none⟩=cs[i]? :=cell_of_row w g i cs t (0,0) h
theorem Blk.frozen (h:Blk w g t cs) (i:Nat):w.frozen? ⟨g,i,none⟩=false:=by
 unfold Blk at h;simp[World.frozen?,h]
theorem Blk.new (w:World) (t:TypeId) (cs:Array Value):Blk (w.alloc (.cells cs t)) w.heap.size t cs:=heap_alloc_new w _
theorem Blk.drew (h:Blk w g t cs):Blk w.drew g t cs:=h
theorem Blk.drewN (h:Blk w g t cs) (n:Nat):Blk (w.drewN n) g t cs:=h
theorem Blk.alloc (h:Blk w g t cs) (o:Obj):Blk (w.alloc o) g t cs:=(Below.heap_alloc w o g h.lt).trans h
theorem Blk.set_ (h:Blk w g t cs) (i:Nat) (u:Value):Blk (w.setCell ⟨g,i,none⟩ u) g t (cs.setIfInBounds i u):=by
 unfold Blk at h ⊢;simp[E4,Array.getElem?_modify,h]
theorem Blk.far (h:Blk w g t cs) {p:Addr} (hp:g≠p.block) (u:Value):Blk (w.setCell p u) g t cs:=(W9 w p u g hp).trans h
theorem Blk.below {B:Nat} (h:Blk w g t cs) (hb:Below B w w') (hg:g<B):Blk w' g t cs:=(hb.block g hg).trans h
theorem Blk.grown {row:Option Nat} (h:Blk w g t cs) (hb:w.grownBy w' row) (hg:some g≠row):Blk w' g t cs:=(hb.block g h.lt hg).trans h
theorem Blk.ne_ {g':Nat} {t':TypeId} {cs':Array Value} (h:Blk w g t cs) (h':Blk w g' t' cs') (hne:t≠t'):g≠g':=by
 rintro rfl;unfold Blk at h h';rw[h]at h';injection h' with h'
 injection h' with _ ht
 exact hne ht
theorem zb2 {base:Nat} {e:TypeId} {size n:Nat} {v:Value} {xs:List Value} (h:w.ownsRow base e size v n xs) (hg:Blk w g t cs) (hne:e≠t):v.ownBlock≠some g:=by
 rcases h.2 with⟨rfl,_⟩|⟨g',cap,cur,rfl,_,hh,_⟩
 .simp[Value.ownBlock]
 .intro he;have:g'=g:=by simpa[Value.ownBlock]using he
  subst this;exact Blk.ne_ (t:=e) hh hg hne rfl
end
section
variable {P:Program} (w:World)
theorem zdw (base:Nat) (t ty e:TypeId) (i:TypeInfo) (size:Nat) (ht:P.underlying t=some (.slice e)) (hi:P.info? e=some i)
 (v:Value) (n:Nat) (xs:List Value) (hown:w.ownsRow base e size v n xs) (c:Nat):(Builtin.append_ #[t,t] ty #[v,.slice none 0 c]).run P w=.ok v w:=by
 rcases hown.2 with⟨rfl,rfl⟩|⟨g,cap,cur,rfl,_,_,hnc,_⟩
 .simp[Builtin.append_,run_underlying ht,sizeOf,typeInfo,hi,Builtin.lenOf,Builtin.firstCells]
 .simp[Builtin.append_,run_underlying ht,sizeOf,typeInfo,hi,Builtin.lenOf,Builtin.firstCells,hnc,storeCells]
theorem zf7 (base:Nat) (t ty e:TypeId) (i:TypeInfo) (z:Value) (size bytes:Nat) (ht:P.underlying t=some (.slice e)) (hi:P.info? e=some i) (hz:i.zero=some z)
 (hsize:i.size=size) (hby:i.bytes=bytes) (hzs:z.cells.size=size) (hsz:0<size)
 (v:Value) (n:Nat) (xs:List Value) (hown:w.ownsRow base e size v n xs)
 (B:Nat) (A:Option Addr) (m c:Nat) (news:List Value) (hr:Reads w B size A m news) (h1:∀u∈news,u.oneCell'=true)
 (h63:n+m<=maxLen) (hbytes:(n+m)*bytes<=140737488355328) (hbase:base<=w.heap.size):
 ∃v' w',(Builtin.append_ #[t,t] ty #[v,.slice A m c]).run P w=.ok v' w'/\w'.ownsRow base e size v' (n+m) (xs++news)/\w.grownBy w' v.ownBlock/\
  (v'.ownBlock=v.ownBlock\/v'.ownBlock=some w.heap.size):=by
 rcases A with _|ad
 .have hm:m=0:=by
   rcases Y7 m with h0|h0
   .exact h0
   .obtain⟨ad,h,_⟩:=hr.2 h0;cases h
  subst hm;have hn:news=[]:=Y3 (by simpa using hr.1);subst hn;exact⟨v,w,zdw w base t ty e i size ht hi v n xs hown c,by simpa using hown,World.grownBy.refl w _,.inl rfl⟩
 .have hcells:∀j u,news[j]? =some u->w.cell? (ad.add j)=some u:=by
   intro j u hu;rcases Y7 m with h0|h0
   .subst h0;have hn:news=[]:=Y3 (by simpa using hr.1);subst hn;simp at hu
   .obtain⟨ad',h,_,hc⟩:=hr.2 h0;injection h with h
    subst h;exact hc j u hu
  obtain⟨v',w',hrun,h2,h3,_,h5⟩:=run_append_own_at (P:=P) w base t ty e i z size bytes ht hi hz hsize hby hzs hsz v n xs hown ad m c news hr.1 hcells h1 h63 hbytes hbase;exact⟨v',w',hrun,h2,h3,h5⟩
theorem zdi {o:Oper} {a:Act} {K:Act->World->Prop} {Q:Exit->Act->World->Prop} (s x:Operand) (t:TypeId)
 (ho:o.op=.call {callee:=.builtin .append,args:=#[s,x],argTypes:=#[t,t]})
 (base:Nat) (e:TypeId) (i:TypeInfo) (z:Value) (size bytes:Nat) (ht:P.underlying t=some (.slice e)) (hi:P.info? e=some i) (hz:i.zero=some z)
 (hsize:i.size=size) (hby:i.bytes=bytes) (hzs:z.cells.size=size) (hsz:0<size)
 (v:Value) (n:Nat) (xs:List Value) (hs:a.eval s=v) (hown:w.ownsRow base e size v n xs)
 (B:Nat) (A:Option Addr) (m c:Nat) (news:List Value) (hx:a.eval x=.slice A m c) (hr:Reads w B size A m news) (h1:∀u∈news,u.oneCell'=true)
 (h63:n+m<=maxLen) (hbytes:(n+m)*bytes<=140737488355328) (hbase:base<=w.heap.size)
 (h:∀v' w',w'.ownsRow base e size v' (n+m) (xs++news)->w.grownBy w' v.ownBlock->(v'.ownBlock=v.ownBlock\/v'.ownBlock=some w.heap.size)->K (a.put o.dst v') w'):o.wp P a w K Q:=by
 obtain⟨v',w',hrun,h2,h3,h4⟩:=zf7 (P:=P) w base t o.type e i z size bytes ht hi hz hsize hby hzs hsz v n xs hown B A m c news hr h1 h63 hbytes hbase;unfold Oper.wp execOp;simp only[ho,resolve,invoke,builtin,Sem.run_bind,Sem.run_pure,Result.andThen_ok,List.map_toArray,E7,List.map_nil,hs,hx,hrun];exact h v' w' h2 h3 h4
theorem zdx {ops:Array Oper} {rest:List Oper} {o:Oper} {a:Act} {Q:Exit->Act->World->Prop} (hgd:o.guard=none) (s x:Operand) (t:TypeId)
 (ho:o.op=.call {callee:=.builtin .append,args:=#[s,x],argTypes:=#[t,t]})
 (base:Nat) (e:TypeId) (i:TypeInfo) (z:Value) (size bytes:Nat) (ht:P.underlying t=some (.slice e)) (hi:P.info? e=some i) (hz:i.zero=some z)
 (hsize:i.size=size) (hby:i.bytes=bytes) (hzs:z.cells.size=size) (hsz:0<size)
 (v:Value) (n:Nat) (xs:List Value) (hs:a.eval s=v) (hown:w.ownsRow base e size v n xs)
 (B:Nat) (A:Option Addr) (m c:Nat) (news:List Value) (hx:a.eval x=.slice A m c) (hr:Reads w B size A m news) (h1:∀u∈news,u.oneCell'=true)
 (h63:n+m<=maxLen) (hbytes:(n+m)*bytes<=140737488355328) (hbase:base<=w.heap.size)
 (h:∀v' w',w'.ownsRow base e size v' (n+m) (xs++news)->w.grownBy w' v.ownBlock->(v'.ownBlock=v.ownBlock\/v'.ownBlock=some w.heap.size)->wpList P ops Q rest (a.put o.dst v') w'):wpList P ops Q (o::rest) a w:=
 wpList_plain hgd fun _ hK=>zdi w s x t ho base e i z size bytes ht hi hz hsize hby hzs hsz v n xs hs hown B A m c news hx hr h1 h63 hbytes hbase fun v' w' h2 h3 h4=>hK _ _ (h v' w' h2 h3 h4)
theorem ze1 {ops:Array Oper} {o:Oper} {a:Act} {K:Act->World->Prop} {Q:Exit->Act->World->Prop} {E:Prop} (hgd:o.guard=none) (s x:Operand) (t:TypeId)
 (ho:o.op=.call {callee:=.builtin .append,args:=#[s,x],argTypes:=#[t,t]})
 (base:Nat) (e:TypeId) (i:TypeInfo) (z:Value) (size bytes:Nat) (ht:P.underlying t=some (.slice e)) (hi:P.info? e=some i) (hz:i.zero=some z)
 (hsize:i.size=size) (hby:i.bytes=bytes) (hzs:z.cells.size=size) (hsz:0<size)
 (v:Value) (n:Nat) (xs:List Value) (hs:a.eval s=v) (hown:w.ownsRow base e size v n xs)
 (B:Nat) (A:Option Addr) (m c:Nat) (news:List Value) (hx:a.eval x=.slice A m c) (hr:Reads w B size A m news) (h1:∀u∈news,u.oneCell'=true)
 (h63:n+m<=maxLen) (hbytes:(n+m)*bytes<=140737488355328) (hbase:base<=w.heap.size)
 (h:∀v' w',w'.ownsRow base e size v' (n+m) (xs++news)->w.grownBy w' v.ownBlock->(v'.ownBlock=v.ownBlock\/v'.ownBlock=some w.heap.size)->K (a.put o.dst v') w'):
 if Region.wanted o (yielded ops a.tmps)=true then Oper.wp P o a w K Q else E:=by
 have hw:Region.wanted o (yielded ops a.tmps)=true:=by simp[Region.wanted,hgd]
 rw[if_pos hw];exact zdi w s x t ho base e i z size bytes ht hi hz hsize hby hzs hsz v n xs hs hown B A m c news hx hr h1 h63 hbytes hbase h
end
theorem ex {α:Sort _} (a:α):∃q,a=q:=⟨a,rfl⟩
namespace Gr
inductive Reach (sc:Nat->List Nat):Nat->Nat->Prop
 |refl (a:Nat):Reach sc a a
 |step {a b c:Nat}:b∈sc a->Reach sc b c->Reach sc a c
theorem Reach.one {sc:Nat->List Nat} {a b:Nat} (h:b∈sc a):Reach sc a b:=.step h (.refl b)
theorem Reach.trans {sc:Nat->List Nat} {a b c:Nat} (h:Reach sc a b) (h2:Reach sc b c):Reach sc a c:=by
 induction h with
 |refl=>exact h2
 |step h1 _ ih=>exact .step h1 (ih h2)
theorem Reach.closed {sc:Nat->List Nat} {p:Nat->Prop} (hp:∀a,p a->∀b∈sc a,p b) {a b:Nat} (h:Reach sc a b) (ha:p a):p b:=by
 induction h with
 |refl=>exact ha
 |step h1 _ ih=>exact ih (hp _ ha _ h1)
theorem za6 {α:Type} (l:List α) (v:Nat) (a d:α) (h:v<l.length):(l.set v a).getD v d=a:=by
 grind
theorem getD_set_ne {α:Type} (l:List α) (u v:Nat) (a d:α) (h:u≠v):(l.set u a).getD v d=l.getD v d:=by
 grind
structure TS where
 idx:List Nat
 low:List Nat
 inn:List Int
 sizes:List Nat
 stk:List Nat
 on:List Bool
 next:Nat
def TS.ix (s:TS) (v:Nat):Nat:=s.idx.getD v 0
def TS.lw (s:TS) (v:Nat):Nat:=s.low.getD v 0
def TS.cn (s:TS) (v:Nat):Int:=s.inn.getD v (-1)
def TS.onn (s:TS) (v:Nat):Bool:=s.on.getD v false
def TS.push (s:TS) (v:Nat):TS:=
 {s with next:=s.next+1,idx:=s.idx.set v (s.next+1),low:=s.low.set v (s.next+1),stk:=s.stk++[v],on:=s.on.set v true}
def TS.lower (s:TS) (v m:Nat):TS:={s with low:=s.low.set v (min (s.lw v) m)}
def TS.drop1 (s:TS) (x:Nat):TS:={s with stk:=s.stk.dropLast,on:=s.on.set x false,inn:=s.inn.set x s.sizes.length}
def TS.popL (v:Nat):List Nat->Nat->TS->TS×Nat
 | [],k,s=>(s,k)
 |x::r,k,s=>if x=v then(s.drop1 x,k+1)else TS.popL v r (k+1) (s.drop1 x)
def TS.close (s:TS) (v:Nat):TS:={(TS.popL v s.stk.reverse 0 s).1 with sizes:=s.sizes++[(TS.popL v s.stk.reverse 0 s).2]}
def tstep (vis:TS->Nat->TS) (v:Nat) (s:TS) (x:Nat):TS:=
 if s.ix x=0 then(vis s x).lower v ((vis s x).lw x)else if s.onn x then s.lower v (s.ix x)else s
def tfin (s:TS) (v:Nat):TS:=if s.lw v=s.ix v then s.close v else s
def tvisit (sc:Nat->List Nat):Nat->TS->Nat->TS
 | 0,s,_=>s
 |f+1,s,v=>tfin ((sc v).foldl (tstep (tvisit sc f) v) (s.push v)) v
def unv (n:Nat) (s:TS):Nat:=(Q3 n).countP (fun i=>s.ix i==0)
theorem ze2 {α:Type} (p q:α->Bool) (l:List α) (h:∀x∈l,p x=true->q x=true):l.countP p<=l.countP q:=by
 induction l with
 |nil=>simp
 |cons a l ih=>
  grind
theorem zdj {α:Type} (p q:α->Bool) (l:List α) (h:∀x∈l,p x=true->q x=true) (a:α) (ha:a∈l) (hp:p a=false) (hq:q a=true):l.countP p<l.countP q:=by
 induction l with
 |nil=>cases ha
 |cons b l ih=>
  simp only[J6];rcases Y2.1 ha with rfl|hm
  .have:=ze2 p q l (fun x c=>h x (.tail _ c));simp[hp,hq];omega
  .grind
theorem zmi (l:List Nat) (a:Nat) (p:Nat->Bool) (hn:l.Nodup) (ha:a∈l) (hp:p a=false):l.countP (fun i=>i==a || p i)=l.countP p+1:=by
 induction l with
 |nil=>cases ha
 |cons b l ih=>
  simp only[J6];have c:=E0.1 hn;rcases Y2.1 ha with rfl|hm
  .have:l.countP (fun i=>i==a || p i)=l.countP p:=by
    apply U7;intro x d;have:x≠a:=fun e=>c.1 (e▸d)
    simp[this]
   rw[this];simp[hp]
  .grind
theorem zdy (n:Nat) (C:List Nat) (hn:C.Nodup) (hC:∀x∈C,x<n):(Q3 n).countP (fun i=>decide (i∈C))=C.length:=by
 induction C with
 |nil=>simp
 |cons a C ih=>
  have h:=E0.1 hn;have e:(Q3 n).countP (fun i=>decide (i∈a::C))=(Q3 n).countP (fun i=>i==a || decide (i∈C)):=by
   grind
  rw[e,zmi _ _ _ List.nodup_range (Q6.2 (hC a (.head _))) (by simp[h.1]),ih h.2 (fun x b=>hC x (.tail _ b))];rfl
structure Inv (sc:Nat->List Nat) (n:Nat) (G:Nat->Prop) (s:TS):Prop where
 li:s.idx.length=n
 ll:s.low.length=n
 lc:s.inn.length=n
 lo:s.on.length=n
 nx:∀v,s.ix v<=s.next
 inj:∀u v,s.ix u≠0->s.ix u=s.ix v->u=v
 mem:∀v,s.onn v=true↔v∈s.stk
 stv:∀v∈s.stk,v<n/\s.ix v≠0
 ord:s.stk.Pairwise (fun a b=>s.ix a<s.ix b)
 don:∀v,s.cn v≠-1↔s.ix v≠0/\v∉s.stk
 rng:∀v,s.cn v≠-1->0<=s.cn v/\s.cn v<s.sizes.length
 suc:∀v,s.cn v≠-1->∀x∈sc v,s.cn x≠-1/\s.cn x<=s.cn v
 cmp:∀u v,s.cn u≠-1->s.cn v≠-1->(s.cn u=s.cn v↔Reach sc u v/\Reach sc v u)
 cnt:∀c:Nat,c<s.sizes.length->s.sizes.getD c 0=(Q3 n).countP (fun i=>s.cn i==(c:Int))
 gst:∀g,G g->g∈s.stk
 gfw:∀g y,G g->y∈s.stk->s.ix g<=s.ix y->Reach sc g y
 gbk:∀y∈s.stk,∃g,G g/\s.ix g<=s.ix y/\Reach sc y g
 blk:∀v,s.ix v≠0->¬G v->∀x∈sc v,s.ix x≠0
 bn:s.next+unv n s<=n
 bz:s.sizes.length+s.stk.length+unv n s<=n
structure Post (sc:Nat->List Nat) (s s':TS) (v:Nat) (T:List Nat):Prop where
 stk:s'.stk=s.stk++T
 kix:∀u,s.ix u≠0->s'.ix u=s.ix u
 klw:∀u,s.ix u≠0->s'.lw u=s.lw u
 kcn:∀u,s.cn u≠-1->s'.cn u=s.cn u
 nxt:s.next<=s'.next
 vis:s'.ix v≠0
 new:∀u,s.ix u=0->s'.ix u≠0->s.next<s'.ix u
 rch:∀u,s.ix u=0->s'.ix u≠0->Reach sc v u
 out:v∉T->T=[]/\s'.lw v=s'.ix v
 att:v∈T->∃z∈s.stk,s.ix z=s'.lw v/\Reach sc v z
 edg:v∈T->∀y∈T,∀z∈sc y,z∈s.stk->s'.lw v<=s.ix z
section
variable {sc:Nat->List Nat} {n:Nat} {G:Nat->Prop} {s s':TS} {v:Nat}
theorem zj3 (h:v<s.idx.length) (u:Nat):(s.push v).ix u=if u=v then s.next+1 else s.ix u:=by
 unfold TS.ix TS.push;simp only;split
 .grind
 .grind
theorem zwb (h:v<s.low.length) (u:Nat):(s.push v).lw u=if u=v then s.next+1 else s.lw u:=by
 unfold TS.lw TS.push;simp only;split
 .grind
 .grind
theorem zs8 (h:v<s.on.length) (u:Nat):(s.push v).onn u=if u=v then true else s.onn u:=by
 unfold TS.onn TS.push;simp only;split
 .grind
 .grind
theorem zk6 (h:v<s.low.length) (m u:Nat):(s.lower v m).lw u=if u=v then min (s.lw v) m else s.lw u:=by
 unfold TS.lower;show(s.low.set v _).getD u 0=_;split
 .grind
 .exact getD_set_ne _ _ _ _ _ (Ne.symm ‹_›)
theorem Inv.lower (h:Inv sc n G s) (m:Nat):Inv sc n G (s.lower v m):=
 ⟨h.li,by unfold TS.lower;simp[h.ll],h.lc,h.lo,h.nx,h.inj,h.mem,h.stv,h.ord,h.don,h.rng,h.suc,h.cmp,h.cnt,h.gst,h.gfw,h.gbk,h.blk,h.bn,h.bz⟩
theorem Inv.push (h:Inv sc n G s) (hv:v<n) (h0:s.ix v=0) (hg:∀g,G g->Reach sc g v):Inv sc n (fun u=>G u\/u=v) (s.push v):=by
 have c:=zj3 (s:=s) (v:=v) (by rw[h.li];exact hv);have o:=zs8 (s:=s) (v:=v) (by rw[h.lo];exact hv);have r:v∉s.stk:=fun E=>(h.stv v E).2 h0
 have t:∀u,(s.push v).cn u=s.cn u:=fun u=>rfl
 have f:(s.push v).stk=s.stk++[v]:=rfl;have q:(s.push v).sizes=s.sizes:=rfl;have d:∀u∈s.stk,u≠v:=fun u j e=>r (e▸j)
 have hup:unv n (s.push v)<unv n s:=by
  refine zdj _ _ _ (fun u _ j=>?_) v (Q6.2 hv) ?_ (by simpa using h0)
  .grind
  .rw[c,if_pos rfl];simp
 refine⟨by simp[TS.push,h.li],by simp[TS.push,h.ll],h.lc,by simp[TS.push,h.lo],?_,?_,?_,?_,?_,?_,h.rng,h.suc,h.cmp,h.cnt,?_,?_,?_,?_,?_,?_⟩
 .intro u;rw[c];have:=h.nx u;show _<=s.next+1;split<;>omega
 .intro u w;rw[c,c];have:=h.nx u;have:=h.nx w;have:=h.inj u w;split<;>split<;>intros<;>first|omega| (subst_vars;rfl)| (apply h.inj<;>assumption)
 .intro u;rw[o,f,K3,K7];split
  .simp[*]
  .rw[h.mem];simp[*]
 .intro u j;rw[f,K3,K7]at j;rw[c];rcases j with j|rfl
  .rw[if_neg (d u j)];exact h.stv u j
  .simp[hv]
 .rw[f,X7];refine⟨?_,by simp,?_⟩
  .exact h.ord.imp_of_mem (fun p l z=>by rw[c,c,if_neg (d _ p),if_neg (d _ l)];exact z)
  .intro a p b l;rw[K7]at l;subst l;rw[c,c,if_neg (d a p),if_pos rfl];have:=h.nx a;omega
 .intro u;rw[t,c,f,K3,K7,h.don];split
  .subst u;simp[h0]
  .simp[*]
 .intro g k;rw[f,K3,K7];rcases k with k|rfl
  .exact .inl (h.gst g k)
  .exact .inr rfl
 .intro g y k i;rw[f,K3,K7]at i;rw[c,c];rcases k with k|rfl
  .have B:=d g (h.gst g k);rw[if_neg B];rcases i with i|rfl
   .rw[if_neg (d y i)];exact h.gfw g y k i
   .intro _;exact hg g k
  .rw[if_pos rfl];rcases i with i|rfl
   .rw[if_neg (d y i)];have:=h.nx y;intro;omega
   .intro _;exact .refl _
 .intro y i;rw[f,K3,K7]at i;rcases i with i|rfl
  .obtain⟨g,C,D,F⟩:=h.gbk y i;refine⟨g,.inl C,?_,F⟩;rw[c,c,if_neg (d y i),if_neg (d g (h.gst g C))];exact D
  .exact⟨y,.inr rfl,K8 _,.refl _⟩
 .intro u j k x H;rw[c]at j ⊢;have A:u≠v:=fun e=>k (.inr e)
  rw[if_neg A]at j;have:=h.blk u j (fun e=>k (.inl e)) x H;split<;>omega
 .have:=h.bn;show s.next+1+_<=n;omega
 .have:=h.bz;rw[f,q,Q4];simp only[K9,Z7];omega
end
section
variable {sc:Nat->List Nat} {n:Nat} {G:Nat->Prop} {s s':TS} {v:Nat}
theorem zk7 (x:Nat) (h:x<s.inn.length) (u:Nat):(s.drop1 x).cn u=if u=x then(s.sizes.length:Int)else s.cn u:=by
 unfold TS.cn TS.drop1;simp only;split
 .grind
 .grind
theorem zib (x:Nat) (h:x<s.on.length) (u:Nat):(s.drop1 x).onn u=if u=x then false else s.onn u:=by
 unfold TS.onn TS.drop1;simp only;split
 .grind
 .grind
structure Popped (s s':TS) (A C:List Nat):Prop where
 idx:s'.idx=s.idx
 low:s'.low=s.low
 next:s'.next=s.next
 sizes:s'.sizes=s.sizes
 stk:s'.stk=A
 lc:s'.inn.length=s.inn.length
 lo:s'.on.length=s.on.length
 cn:∀u,s'.cn u=if u∈C then(s.sizes.length:Int)else s.cn u
 onn:∀u,s'.onn u=if u∈C then false else s.onn u
theorem zou (v:Nat) (A:List Nat):∀(R rest:List Nat) (k:Nat) (s:TS),v∉R->s.stk=A++v::R.reverse->(∀x∈v::R,x<s.inn.length/\x<s.on.length)->
 Popped s (TS.popL v (R++v::rest) k s).1 A (v::R)/\(TS.popL v (R++v::rest) k s).2=k+R.length+1:=by
 intro R
 induction R with
 |nil=>
  intro rest k s _ h c;have c:=c v (.head _);simp only[U4,TS.popL,if_true,Z7,Nat.add_zero,and_true];refine⟨rfl,rfl,rfl,rfl,?_,by simp[TS.drop1],by simp[TS.drop1],?_,?_⟩
  .show s.stk.dropLast=A;rw[h];simp
  .intro u;rw[zk7 _ c.1];simp
  .intro u;rw[zib _ c.2];simp
 |cons x R ih=>
  intro rest k s i h c;have f:x≠v:=fun e=>i (e▸.head _)
  have d:=c x (.tail _ (.head _));simp only[Y4,TS.popL,if_neg f];have g:(s.drop1 x).stk=A++v::R.reverse:=by
   show s.stk.dropLast=_;rw[h];simp only[D3,<-Y4,<-Q9,F7]
  obtain⟨b,j⟩:=ih rest (k+1) (s.drop1 x) (fun e=>i (.tail _ e)) g (fun y hy=>by
   have:y∈v::x::R:=by
    grind
   have:=c y this;simpa[TS.drop1]using this)
  refine⟨⟨b.idx,b.low,b.next,b.sizes,b.stk,by rw[b.lc];simp[TS.drop1],by rw[b.lo];simp[TS.drop1],?_,?_⟩,by rw[j];simp;omega⟩
  .intro u;rw[b.cn,zk7 _ d.1];show(if u∈v::R then(s.sizes.length:Int)else _)=_;by_cases e:u=x<;>by_cases e2:u∈v::R<;>simp_all
  .intro u;rw[b.onn,zib _ d.2];by_cases e:u=x<;>by_cases e2:u∈v::R<;>simp_all
theorem zwc (v:Nat):∀(R rest:List Nat) (k:Nat) (s:TS),v∉R->TS.popL v (R++v::rest) k s=((R.foldl TS.drop1 s).drop1 v,k+R.length+1):=by
 intro R
 induction R with
 |nil=>intro rest k s _;simp[TS.popL]
 |cons x R ih=>
  intro rest k s c;have b:x≠v:=fun e=>c (e▸.head _)
  simp only[Y4,TS.popL,if_neg b,Q5,K9];rw[ih rest (k+1) _ (fun e=>c (.tail _ e))]
  congr 1
  omega
theorem zs9 {s:TS} {A T:List Nat} {v:Nat} (hs:s.stk=A++v::T) (hv:v∉T):s.close v={(T.reverse.foldl TS.drop1 s).drop1 v with sizes:=s.sizes++[T.length+1]}:=by
 have b:s.stk.reverse=T.reverse++v::A.reverse:=by rw[hs];simp
 unfold TS.close;rw[b,zwc v T.reverse A.reverse 0 s (by simpa using hv)];simp
theorem zta {s:TS} {A T:List Nat} {v:Nat} (hs:s.stk=A++v::T):∀k,k<=T.length->((T.reverse.take k).foldl TS.drop1 s).stk=A++v::T.take (T.length-k)/\((T.reverse.take k).foldl TS.drop1 s).sizes=s.sizes/\
 ((T.reverse.take k).foldl TS.drop1 s).on.length=s.on.length/\((T.reverse.take k).foldl TS.drop1 s).inn.length=s.inn.length:=by
 intro k
 induction k with
 |zero=>intro _;simp[hs]
 |succ k ih=>
  intro hk;obtain⟨c,g,d,f⟩:=ih (by omega);have b:k<T.reverse.length:=by simp;omega
  rw[Q7 b,Q8];simp only[Q5,E2];refine⟨?_,g,?_,?_⟩
  .show List.dropLast _=_;rw[c];have e:T.take (T.length-k)=T.take (T.length-(k+1))++[T[T.length-(k+1)]'(by omega)]:=by
    have:=Q7 (l:=T) (i:=T.length-(k+1)) (by omega);rw[show T.length-(k+1)+1=T.length-k from by omega]at this;exact this
   rw[e,<-Y4,<-Q9,F7]
  .show(List.set _ _ _).length=_;rw[L1];exact d
  .show(List.set _ _ _).length=_;rw[L1];exact f
theorem zeh {l:List Nat} {f:Nat->Nat} (h:l.Pairwise (fun a b=>f a<f b)):l.Nodup:=
 h.imp (fun c e=>by rw[e]at c;omega)
structure Loop (sc:Nat->List Nat) (n:Nat) (G:Nat->Prop) (s0 s:TS) (v:Nat) (T P:List Nat):Prop where
 inv:Inv sc n (fun u=>G u\/u=v) s
 stk:s.stk=s0.stk++v::T
 kix:∀u,s0.ix u≠0->s.ix u=s0.ix u
 klw:∀u,s0.ix u≠0->s.lw u=s0.lw u
 kcn:∀u,s0.cn u≠-1->s.cn u=s0.cn u
 nxt:s0.next<s.next
 ixv:s.ix v=s0.next+1
 new:∀u,s0.ix u=0->s.ix u≠0->s0.next<s.ix u
 rch:∀u,s0.ix u=0->s.ix u≠0->Reach sc v u
 prc:∀x∈P,s.ix x≠0
 lwv:s.lw v<=s.ix v
 att:s.lw v=s.ix v\/∃z∈s0.stk,s0.ix z=s.lw v/\Reach sc v z
 ed1:∀y∈T,∀z∈sc y,z∈s0.stk->s.lw v<=s0.ix z
 ed2:∀x∈P,x∈s0.stk->s.lw v<=s0.ix x
theorem Loop.close {s0:TS} {T:List Nat} (h0:Inv sc n G s0) (hv:v<n) (hv0:s0.ix v=0) (h:Loop sc n G s0 s v T (sc v)) (hl:s.lw v=s.ix v):
 Inv sc n G (s.close v)/\Post sc s0 (s.close v) v []:=by
 have f:=h.inv;have V:s.stk.Nodup:=zeh f.ord;rw[h.stk,List.nodup_append]at V;obtain⟨_,I,P⟩:=V;have U:v∉T:=(E0.1 I).1;have j:∀u,u∈s.stk↔u∈s0.stk\/u∈v::T:=fun u=>by rw[h.stk,K3]
 have H:∀x∈v::T,x<n/\s.ix x≠0:=fun x o=>f.stv x ((j x).2 (.inr o))
 have Q:s.stk.reverse=T.reverse++v::s0.stk.reverse:=by rw[h.stk];simp
 obtain⟨D,hk⟩:=zou v s0.stk T.reverse s0.stk.reverse 0 s (by simpa using U) (by rw[h.stk];simp) (fun x o=>by
  have:x∈v::T:=by simpa using o
  have:=(H x this).1;exact⟨by rw[f.lc];exact this,by rw[f.lo];exact this⟩)
 rw[<-Q]at D hk;obtain⟨c,B⟩:∃c,s.close v=c:=⟨_,rfl⟩
 have S:∀u,u∈v::T.reverse↔u∈v::T:=fun u=>by simp
 have d:∀u,c.ix u=s.ix u:=fun u=>by rw[<-B];show(TS.popL v s.stk.reverse 0 s).1.idx.getD u 0=_;rw[D.idx];rfl
 have ah:∀u,c.lw u=s.lw u:=fun u=>by rw[<-B];show(TS.popL v s.stk.reverse 0 s).1.low.getD u 0=_;rw[D.low];rfl
 have z:∀u,c.cn u=if u∈v::T then(s.sizes.length:Int)else s.cn u:=fun u=>by
  rw[<-B];show(TS.popL v s.stk.reverse 0 s).1.cn u=_;rw[D.cn];simp only[S]
 have ad:∀u,c.onn u=if u∈v::T then false else s.onn u:=fun u=>by
  rw[<-B];show(TS.popL v s.stk.reverse 0 s).1.onn u=_;rw[D.onn];simp only[S]
 have q:c.stk=s0.stk:=by rw[<-B];exact D.stk
 have M:c.sizes=s.sizes++[(v::T).length]:=by rw[<-B];show s.sizes++[_]=_;rw[hk];simp
 have J:c.next=s.next:=by rw[<-B];exact D.next
 have X:c.idx.length=n:=by rw[<-B];show(TS.popL v s.stk.reverse 0 s).1.idx.length=n;rw[D.idx];exact f.li
 have ac:c.low.length=n:=by rw[<-B];show(TS.popL v s.stk.reverse 0 s).1.low.length=n;rw[D.low];exact f.ll
 have ae:c.inn.length=n:=by rw[<-B];show(TS.popL v s.stk.reverse 0 s).1.inn.length=n;rw[D.lc];exact f.lc
 have aa:c.on.length=n:=by rw[<-B];show(TS.popL v s.stk.reverse 0 s).1.on.length=n;rw[D.lo];exact f.lo
 rw[B];have t:∀x∈v::T,s.cn x=-1:=fun x o=>by
  apply Classical.byContradiction;intro ag;exact((f.don x).1 ag).2 ((j x).2 (.inr o))
 have hd:∀x∈v::T,x∉s0.stk:=fun x o h1=>P x h1 x o rfl
 have l:∀u,c.cn u≠-1↔u∈v::T\/s.cn u≠-1:=fun u=>by
  grind
 have K:∀y∈v::T,∀x∈sc y,x∈v::T\/s.cn x≠-1:=by
  intro y E x o;have ab:s.ix x≠0:=by
   rcases Y2.1 E with rfl|hyT
   .exact h.prc x o
   .refine f.blk y (H y E).2 ?_ x o;rintro(hg|rfl)
    .exact hd y E (h0.gst y hg)
    .exact U hyT
  by_cases hxs:x∈s.stk
  .rcases(j x).1 hxs with hx0|hxC
   .exfalso;have h1:s.lw v<=s0.ix x:=by
     rcases Y2.1 E with rfl|hyT
     .exact h.ed2 x o hx0
     .exact h.ed1 y hyT x o hx0
    have r:=h0.nx x;have L:=h.ixv;omega
   .exact .inl hxC
  .exact .inr ((f.don x).2 ⟨ab,hxs⟩)
 have A:∀u∈v::T,Reach sc v u/\Reach sc u v:=by
  intro u hu;have W:u∈s.stk:=(j u).2 (.inr hu);have F:s.ix v<=s.ix u:=by
   rcases Y2.1 hu with rfl|huT
   .exact K8 _
   .have:=f.ord;rw[h.stk,X7]at this;exact Z6 ((Y6.1 this.2.1).1 u huT)
  refine⟨f.gfw v u (.inr rfl) W F,?_⟩;obtain⟨g,hg,h1,r⟩:=f.gbk u W;rcases hg with hg|rfl
  .refine r.trans (f.gfw g v (.inl hg) ((j v).2 (.inr (.head _))) ?_);have L:=h0.stv g (h0.gst g hg);rw[h.kix g L.2];have:=h0.nx g;have:=h.ixv;omega
  .exact r
 have R:unv n c=unv n s:=by
  unfold unv;apply U7;intro i _;rw[d]
 refine⟨⟨X,ac,ae,aa,?_,?_,?_,?_,?_,?_,?_,?_,?_,?_,?_,?_,?_,?_,?_,?_⟩,⟨?_,?_,?_,?_,?_,?_,?_,?_,?_,?_,?_⟩⟩
 .intro u;rw[d,J];exact f.nx u
 .intro u w;rw[d,d];exact f.inj u w
 .intro u;rw[ad,q];split
  .have:=hd u ‹_›;simp[this]
  .rw[f.mem,j];simp_all
 .intro u hu;rw[q]at hu;rw[d];exact f.stv u ((j u).2 (.inl hu))
 .rw[q];have:=f.ord;rw[h.stk,X7]at this;exact this.1.imp (fun af=>by rw[d,d];exact af)
 .intro u;rw[l,d,q];constructor
  .rintro(h1|h1)
   .exact⟨(H u h1).2,hd u h1⟩
   .have:=(f.don u).1 h1;exact⟨this.1,fun r=>this.2 ((j u).2 (.inl r))⟩
  .rintro⟨h1,r⟩;by_cases L:u∈v::T
   .exact .inl L
   .exact .inr ((f.don u).2 ⟨h1,fun h4=>((j u).1 h4).elim r L⟩)
 .intro u;rw[l,z,M,Q4];intro h1;split
  .simp;omega
  .have:=f.rng u (by simp_all);simp;omega
 .intro u hu x o;rw[l]at hu;rw[l,z,z];rcases hu with hu|hu
  .rw[if_pos hu];rcases K u hu x o with h1|h1
   .grind
   .refine⟨.inr h1,?_⟩;have:=f.rng x h1;split<;>omega
  .have h1:=f.suc u hu x o;have C:u∉v::T:=fun e=>hu (t u e)
   have Z:x∉v::T:=fun e=>h1.1 (t x e)
   rw[if_neg C,if_neg Z];exact⟨.inr h1.1,h1.2⟩
 .intro u w hu hw;rw[l]at hu hw;rw[z,z];have key:∀u w,u∈v::T->s.cn w≠-1->¬(Reach sc w u):=by
   intro u w hu hw hr;have:=hr.closed (p:=fun a=>s.cn a≠-1) (fun a ha b hb=>(f.suc a ha b hb).1) hw;exact this (t u hu)
  rcases hu with hu|hu<;>rcases hw with hw|hw
  .rw[if_pos hu,if_pos hw];simp only[true_iff];exact⟨(A u hu).2.trans (A w hw).1,(A w hw).2.trans (A u hu).1⟩
  .have O:w∉v::T:=fun e=>hw (t w e)
   rw[if_pos hu,if_neg O];have:=f.rng w hw;constructor
   .intro;omega
   .grind
  .have C:u∉v::T:=fun e=>hu (t u e)
   rw[if_neg C,if_pos hw];have:=f.rng u hu;constructor
   .intro;omega
   .grind
  .have C:u∉v::T:=fun e=>hu (t u e)
   have O:w∉v::T:=fun e=>hw (t w e)
   rw[if_neg C,if_neg O];exact f.cmp u w hu hw
 .intro k N;rw[M]at N ⊢;rw[Q4]at N;simp only[K9,Z7,U8]at N;by_cases hks:k<s.sizes.length
  .have:(s.sizes++[(v::T).length]).getD k 0=s.sizes.getD k 0:=by
    grind
   rw[this,f.cnt k hks];apply U7;intro i _;rw[z];split
   .grind
   .rfl
  .have Y:k=s.sizes.length:=by omega
   subst Y;have:(s.sizes++[(v::T).length]).getD s.sizes.length 0=(v::T).length:=by
    grind
   rw[this,<-zdy n (v::T) I (fun x o=>(H x o).1)];apply U7;intro i _;rw[z];split
   .simp_all
   .have h1:s.cn i≠(s.sizes.length:Int):=by
     intro e;by_cases r:s.cn i=-1
     .omega
     .have:=f.rng i r;omega
    simp_all
 .intro g hg;rw[q];exact h0.gst g hg
 .intro g y hg E F;rw[q]at E;rw[d,d]at F;exact f.gfw g y (.inl hg) ((j y).2 (.inl E)) F
 .intro y E;rw[q]at E;obtain⟨g,h1,r,L⟩:=h0.gbk y E;refine⟨g,h1,?_,L⟩;rw[d,d,h.kix y (h0.stv y E).2,h.kix g (h0.stv g (h0.gst g h1)).2];exact r
 .intro u hu hG x o;rw[d]at hu ⊢;by_cases huv:u=v
  .subst huv;exact h.prc x o
  .exact f.blk u hu (fun e=>e.elim hG huv) x o
 .rw[J,R];exact f.bn
 .rw[M,q,R];have:=f.bz;rw[h.stk]at this;simp only[Q4,K9,Z7]at *;omega
 .rw[q];simp
 .intro u hu;rw[d];exact h.kix u hu
 .intro u hu;rw[ah];exact h.klw u hu
 .intro u hu;rw[z];split
  .rename_i hm;exfalso;have:=h.kcn u hu;rw[t u hm]at this;exact hu this.symm
  .exact h.kcn u hu
 .rw[J];exact Z6 h.nxt
 .rw[d,h.ixv];omega
 .intro u h1 r;rw[d]at r ⊢;exact h.new u h1 r
 .intro u h1 r;rw[d]at r;exact h.rch u h1 r
 .grind
 .intro e;cases e
 .intro e;cases e
end
section
variable {sc:Nat->List Nat} {n:Nat} {G:Nat->Prop} {s s':TS} {v:Nat}
theorem Loop.stay {s0:TS} {T:List Nat} (h0:Inv sc n G s0) (h:Loop sc n G s0 s v T (sc v)) (hl:s.lw v≠s.ix v):
 Inv sc n G s/\Post sc s0 s v (v::T):=by
 have b:=h.inv;have d:∀u,u∈s.stk↔u∈s0.stk\/u∈v::T:=fun u=>by rw[h.stk,K3]
 obtain⟨z,t,q,f⟩:=h.att.resolve_left hl;obtain⟨k,i,hgz,p⟩:=h0.gbk z t;have hlt:s0.ix z<s.ix v:=by have:=h.ixv;have:=h0.nx z;omega
 refine⟨⟨b.li,b.ll,b.lc,b.lo,b.nx,b.inj,b.mem,b.stv,b.ord,b.don,b.rng,b.suc,b.cmp,b.cnt,?_,?_,?_,?_,b.bn,b.bz⟩,⟨h.stk,h.kix,h.klw,h.kcn,Z6 h.nxt,?_,h.new,h.rch,?_,?_,?_⟩⟩
 .intro g o;exact(d g).2 (.inl (h0.gst g o))
 .intro g y o;exact b.gfw g y (.inl o)
 .intro y r;obtain⟨g,l,D,A⟩:=b.gbk y r;rcases l with l|rfl
  .exact⟨g,l,D,A⟩
  .refine⟨k,i,?_,A.trans (f.trans p)⟩;rw[h.kix k (h0.stv k (h0.gst k i)).2];omega
 .intro u C E x B;by_cases huv:u=v
  .subst huv;exact h.prc x B
  .exact b.blk u C (fun e=>e.elim E huv) x B
 .rw[h.ixv];omega
 .grind
 .intro _;exact⟨z,t,q,f⟩
 .intro _ y r w c j;rcases Y2.1 r with rfl|hyT
  .exact h.ed2 w c j
  .exact h.ed1 y hyT w c j
theorem Loop.start (h0:Inv sc n G s) (hv:v<n) (hv0:s.ix v=0) (hg:∀g,G g->Reach sc g v):Loop sc n G s (s.push v) v [] []:=by
 have b:=zj3 (s:=s) (v:=v) (by rw[h0.li];exact hv);have hlw:=zwb (s:=s) (v:=v) (by rw[h0.ll];exact hv);refine⟨h0.push hv hv0 hg,rfl,?_,?_,fun _ _=>rfl,Nat.lt_succ_self _,?_,?_,?_,?_,?_,?_,?_,?_⟩
 .grind
 .grind
 .rw[b,if_pos rfl]
 .grind
 .intro u e c;rw[b]at c;split at c
  .subst u;exact .refl _
  .exact absurd e c
 .intro x d;cases d
 .grind
 .grind
 .intro y f;cases f
 .intro x d;cases d
theorem Loop.lowered {s0:TS} {T P:List Nat} (_h0:Inv sc n G s0) (hv:v<n) (hv0:s0.ix v=0) (h:Loop sc n G s0 s v T P) (x m:Nat) (hx:s.ix x≠0)
 (hm:s.lw v<=m\/∃z∈s0.stk,s0.ix z=m/\Reach sc v z) (hx0:x∈s0.stk->m<=s0.ix x):Loop sc n G s0 (s.lower v m) v T (P++[x]):=by
 have c:=zk6 (s:=s) (v:=v) (by rw[h.inv.ll];exact hv) m;have b:(s.lower v m).lw v=min (s.lw v) m:=by rw[c,if_pos rfl]
 refine⟨h.inv.lower m,h.stk,h.kix,?_,h.kcn,h.nxt,h.ixv,h.new,h.rch,?_,?_,?_,?_,?_⟩
 .intro u g;rw[c,if_neg (fun(e:u=v)=>g (by rw[e];exact hv0))];exact h.klw u g
 .intro y hy;rcases K3.1 hy with hy|hy
  .exact h.prc y hy
  .rw[K7]at hy;subst hy;exact hx
 .rw[b];have:=h.lwv;show _<=s.ix v;omega
 .rw[b];rcases hm with hm|⟨z,h1,h2,h3⟩
  .rw[X3 hm];exact h.att
  .by_cases hle:s.lw v<=m
   .rw[X3 hle];exact h.att
   .grind
 .intro y hy z i f;rw[b];have:=h.ed1 y hy z i f;omega
 .intro y hy d;rw[b];rcases K3.1 hy with hy|hy
  .have:=h.ed2 y hy d;omega
  .grind
theorem Loop.old {s0:TS} {T P:List Nat} (h0:Inv sc n G s0) (hv:v<n) (hv0:s0.ix v=0) (h:Loop sc n G s0 s v T P) (vis:TS->Nat->TS) (x:Nat) (hxs:x∈sc v) (hx:s.ix x≠0):
 Loop sc n G s0 (tstep vis v s x) v T (P++[x]):=by
 unfold tstep;rw[if_neg hx];have b:∀u,u∈s.stk↔u∈s0.stk\/u∈v::T:=fun u=>by rw[h.stk,K3]
 by_cases hon:s.onn x=true
 .rw[if_pos hon];have c:=(h.inv.mem x).1 hon;refine h.lowered h0 hv hv0 x _ hx ?_ ?_
  .rcases(b x).1 c with h1|h1
   .exact .inr ⟨x,h1,(h.kix x (h0.stv x h1).2).symm,.one hxs⟩
   .left;have hle:s.ix v<=s.ix x:=by
     rcases Y2.1 h1 with rfl|h2
     .exact K8 _
     .have:=h.inv.ord;rw[h.stk,X7]at this;exact Z6 ((Y6.1 this.2.1).1 x h2)
    have:=h.lwv;omega
  .intro h1;rw[h.kix x (h0.stv x h1).2];exact K8 _
 .rw[if_neg hon];have c:x∉s.stk:=fun e=>hon ((h.inv.mem x).2 e)
  refine⟨h.inv,h.stk,h.kix,h.klw,h.kcn,h.nxt,h.ixv,h.new,h.rch,?_,h.lwv,h.att,h.ed1,?_⟩
  .intro y hy;rcases K3.1 hy with hy|hy
   .exact h.prc y hy
   .grind
  .intro y hy d;rcases K3.1 hy with hy|hy
   .exact h.ed2 y hy d
   .grind
theorem Loop.fresh {s0:TS} {T P T2:List Nat} (h0:Inv sc n G s0) (hv:v<n) (hv0:s0.ix v=0) (h:Loop sc n G s0 s v T P) (vis:TS->Nat->TS) (x:Nat) (hxs:x∈sc v) (hx:s.ix x=0)
 (hI:Inv sc n (fun u=>G u\/u=v) (vis s x)) (hP:Post sc s (vis s x) x T2):Loop sc n G s0 (tstep vis v s x) v (T++T2) (P++[x]):=by
 unfold tstep;rw[if_pos hx];obtain⟨q,B⟩:∃q,vis s x=q:=⟨_,rfl⟩
 rw[B]at hI hP ⊢;have i:∀u,u∈s.stk↔u∈s0.stk\/u∈v::T:=fun u=>by rw[h.stk,K3]
 have t:s.ix v≠0:=by rw[h.ixv];omega
 have k:∀u,s0.ix u≠0->s.ix u≠0:=fun u c=>by rw[h.kix u c];exact c
 have g:q.lw v=s.lw v:=hP.klw v t;have j:q.ix v=s.ix v:=hP.kix v t;have A:q.lw v<=q.lw x\/∃z∈s0.stk,s0.ix z=q.lw x/\Reach sc v z:=by
  by_cases hm:x∈T2
  .obtain⟨z,w,b,d⟩:=hP.att hm;rcases(i z).1 w with h3|h3
   .exact .inr ⟨z,h3,by rw[<-b,h.kix z (h0.stv z h3).2],.step hxs d⟩
   .left;rw[g,<-b];have r:s.ix v<=s.ix z:=by
     rcases Y2.1 h3 with rfl|h4
     .exact K8 _
     .have:=h.inv.ord;rw[h.stk,X7]at this;exact Z6 ((Y6.1 this.2.1).1 z h4)
    have:=h.lwv;omega
  .left;have b:=(hP.out hm).2;have d:=hP.new x hx hP.vis;have h3:=h.inv.nx v;have:=h.lwv;rw[g,b];omega
 have o:=zk6 (s:=q) (v:=v) (by rw[hI.ll];exact hv) (q.lw x);have f:(q.lower v (q.lw x)).lw v=min (s.lw v) (q.lw x):=by rw[o,if_pos rfl,g]
 refine⟨hI.lower _,by show q.stk=_;rw[hP.stk,h.stk];simp,?_,?_,?_,X2 h.nxt hP.nxt,by rw[<-h.ixv];exact j,?_,?_,?_,?_,?_,?_,?_⟩
 .intro u c;show q.ix u=_;rw[hP.kix u (k u c)];exact h.kix u c
 .intro u c;rw[o,if_neg (fun(e:u=v)=>c (by rw[e];exact hv0)),hP.klw u (k u c)];exact h.klw u c
 .intro u c;have:=h.kcn u c;show q.cn u=_;rw[hP.kcn u (by rw[this];exact c)];exact this
 .intro u b d;have d:q.ix u≠0:=d;show s0.next<q.ix u;by_cases h3:s.ix u=0
  .have:=hP.new u h3 d;have:=h.nxt;omega
  .rw[hP.kix u h3];exact h.new u b h3
 .intro u b d;have d:q.ix u≠0:=d;by_cases h3:s.ix u=0
  .exact .step hxs (hP.rch u h3 d)
  .exact h.rch u b h3
 .intro y hy;show q.ix y≠0;rcases K3.1 hy with hy|hy
  .have:=h.prc y hy;rw[hP.kix y this];exact this
  .rw[K7]at hy;subst hy;exact hP.vis
 .rw[f];have:=h.lwv;show _<=q.ix v;rw[j];omega
 .rw[f];show _=q.ix v\/_;rw[j];rcases A with b|⟨z,b,d,h3⟩
  .rw[g]at b;rw[X3 b];exact h.att
  .by_cases r:s.lw v<=q.lw x
   .rw[X3 r];exact h.att
   .grind
 .intro y hy z w l;rw[f];rcases K3.1 hy with hy|hy
  .have:=h.ed1 y hy z w l;omega
  .have hm:x∈T2:=Classical.byContradiction (fun e=>by rw[(hP.out e).1]at hy;cases hy);have b:=hP.edg hm y hy z w ((i z).2 (.inl l));rw[h.kix z (h0.stv z l).2]at b;omega
 .intro y hy p;rw[f];rcases K3.1 hy with hy|hy
  .have:=h.ed2 y hy p;omega
  .rw[K7]at hy;subst hy;exact absurd hx (k y (h0.stv y p).2)
theorem zk8 (h:∀u,s.ix u≠0->s'.ix u≠0):unv n s'<=unv n s:=by
 refine ze2 _ _ _ (fun u _ b=>?_);have b:s'.ix u=0:=by simpa using b
 have:s.ix u=0:=Classical.byContradiction (fun e=>h u e b);simpa using this
theorem zeo (h0:Inv sc n G s) (hv:v<n) (hv0:s.ix v=0):unv n (s.push v)<unv n s:=by
 have b:=zj3 (s:=s) (v:=v) (by rw[h0.li];exact hv);refine zdj _ _ _ (fun u _ hu=>?_) v (Q6.2 hv) ?_ (by simpa using hv0)
 .grind
 .rw[b,if_pos rfl];simp
theorem zg0 (hsc:∀a,∀b∈sc a,b<n):∀(f:Nat) (s:TS) (v:Nat) (G:Nat->Prop),Inv sc n G s->v<n->s.ix v=0->(∀g,G g->Reach sc g v)->unv n s<=f->
 ∃T,Inv sc n G (tvisit sc f s v)/\Post sc s (tvisit sc f s v) v T:=by
 intro f
 induction f with
 |zero=>
  intro s v G h i c _ j;exfalso;have:=zeo h i c;omega
 |succ f ih=>
  intro s0 v G k i c y j;have hup:=zeo k i c;have r:∀(L P:List Nat) (s:TS) (T:List Nat),sc v=P++L->unv n s<=f->Loop sc n G s0 s v T P->∃T',Loop sc n G s0 (L.foldl (tstep (tvisit sc f) v) s) v T' (sc v):=by
   intro L
   induction L with
   |nil=>
    grind
   |cons x L ihL=>
    intro P s T t e h;have d:x∈sc v:=by rw[t];simp
    have l:sc v=(P++[x])++L:=by rw[t];simp
    rw[Q5];by_cases hx:s.ix x=0
    .have p:∀g,(G g\/g=v)->Reach sc g x:=by
      rintro g (h1|rfl)
      .exact(y g h1).trans (.one d)
      .exact .one d
     obtain⟨z,B,w⟩:=ih s x (fun u=>G u\/u=v) h.inv (hsc v x d) hx p e;refine ihL (P++[x]) _ (T++z) l ?_ (h.fresh k i c _ x d hx B w);refine Y0 (zk8 (fun u j=>?_)) e;unfold tstep;rw[if_pos hx];show(tvisit sc f s x).ix u≠0;rw[w.kix u j];exact j
    .refine ihL (P++[x]) _ T l ?_ (h.old k i c _ x d hx);refine Y0 (zk8 (fun u j=>?_)) e;unfold tstep;rw[if_neg hx];split<;>exact j
  obtain⟨T,o⟩:=r (sc v) [] (s0.push v) [] rfl (by omega) (Loop.start k i c y);obtain⟨q,A⟩:∃q,(sc v).foldl (tstep (tvisit sc f) v) (s0.push v)=q:=⟨_,rfl⟩
  show∃T,Inv sc n G (tfin _ v)/\Post sc s0 (tfin _ v) v T;rw[A]at o ⊢;unfold tfin;by_cases hl:q.lw v=q.ix v
  .rw[if_pos hl];exact⟨[],o.close k i c hl⟩
  .rw[if_neg hl];exact⟨v::T,o.stay k hl⟩
theorem zei (hsc:∀a,∀b∈sc a,b<n) (f:Nat) (s0:TS) (v:Nat) (h0:Inv sc n G s0) (hv:v<n) (hv0:s0.ix v=0) (hg:∀g,G g->Reach sc g v) (hu:unv n s0<=f+1):
 ∀k,k<=(sc v).length->∃T,Loop sc n G s0 (((sc v).take k).foldl (tstep (tvisit sc f) v) (s0.push v)) v T ((sc v).take k)/\unv n (((sc v).take k).foldl (tstep (tvisit sc f) v) (s0.push v))<=f:=by
 intro k
 induction k with
 |zero=>
  intro _;have:=zeo h0 hv hv0;exact⟨[],Loop.start h0 hv hv0 hg,by simp only[List.take_zero,E2];omega⟩
 |succ k ih=>
  intro hk;obtain⟨T,h,d⟩:=ih (by omega);have e:k<(sc v).length:=by omega
  obtain⟨x,l⟩:∃x,(sc v)[k]=x:=⟨_,rfl⟩
  have c:x∈sc v:=l▸Q0 e;rw[Q7 e,Q8,l];obtain⟨s,p⟩:∃s,((sc v).take k).foldl (tstep (tvisit sc f) v) (s0.push v)=s:=⟨_,rfl⟩
  rw[p]at h d ⊢;show∃T,Loop sc n G s0 (tstep (tvisit sc f) v s x) v T _/\_;by_cases hxi:s.ix x=0
  .have i:∀g,(G g\/g=v)->Reach sc g x:=by
    rintro g (h1|rfl)
    .exact(hg g h1).trans (.one c)
    .exact .one c
   obtain⟨o,q,j⟩:=zg0 hsc f s x (fun u=>G u\/u=v) h.inv (hsc v x c) hxi i d;refine⟨T++o,h.fresh h0 hv hv0 _ x c hxi q j,?_⟩;refine Y0 (zk8 (fun u hu=>?_)) d;show(tstep (tvisit sc f) v s x).ix u≠0;unfold tstep;rw[if_pos hxi];show(tvisit sc f s x).ix u≠0;rw[j.kix u hu];exact hu
  .refine⟨T,h.old h0 hv hv0 _ x c hxi,?_⟩;refine Y0 (zk8 (fun u hu=>?_)) d;show(tstep (tvisit sc f) v s x).ix u≠0;unfold tstep;rw[if_neg hxi];split<;>exact hu
def tzero (n:Nat):TS:=⟨K4 n 0,K4 n 0,K4 n (-1),[],[],K4 n false,0⟩
theorem zcv (n v:Nat):(tzero n).ix v=0:=by
 unfold TS.ix tzero;simp[K2,U5];split<;>rfl
theorem zep (n v:Nat):(tzero n).cn v=-1:=by
 unfold TS.cn tzero;simp[K2,U5];split<;>rfl
theorem zov (n v:Nat):(tzero n).onn v=false:=by
 unfold TS.onn tzero;simp[K2,U5];split<;>rfl
theorem zic (n:Nat):Inv sc n (fun _=>False) (tzero n):=by
 have b:unv n (tzero n)<=n:=by unfold unv;exact Y0 W2 (by simp)
 refine⟨by simp[tzero],by simp[tzero],by simp[tzero],by simp[tzero],?_,?_,?_,?_,by simp[tzero],?_,?_,?_,?_,?_,?_,?_,?_,?_,?_,?_⟩
 .intro v;rw[zcv];exact Nat.zero_le _
 .intro u v h;exact absurd (zcv n u) h
 .intro v;rw[zov];simp[tzero]
 .intro v d;cases d
 .intro v;rw[zep,zcv];simp
 .intro v h;exact absurd (zep n v) h
 .intro v h;exact absurd (zep n v) h
 .intro u v h;exact absurd (zep n u) h
 .intro c h;exact absurd h (by simp[tzero])
 .intro g h;exact h.elim
 .intro g y h;exact h.elim
 .intro y h;cases h
 .intro v h;exact absurd (zcv n v) h
 .show 0+_<=n;omega
 .show([]:List Nat).length+([]:List Nat).length+_<=n;simpa using b
def tcomp (sc:Nat->List Nat) (n root:Nat):TS:=tvisit sc n (tzero n) root
structure Comp (sc:Nat->List Nat) (n:Nat) (inn:Nat->Int) (sizes:List Nat):Prop where
 rng:∀v,v<n->0<=inn v/\inn v<sizes.length
 suc:∀v,v<n->∀x∈sc v,inn x<=inn v
 cmp:∀u v,u<n->v<n->(inn u=inn v↔Reach sc u v/\Reach sc v u)
 cnt:∀c:Nat,c<sizes.length->sizes.getD c 0=(Q3 n).countP (fun i=>inn i==(c:Int))
theorem zk9 (hsc:∀a,∀b∈sc a,b<n) (root:Nat) (hr:root<n) (hall:∀v,v<n->Reach sc root v):
 Comp sc n (tcomp sc n root).cn (tcomp sc n root).sizes/\(tcomp sc n root).inn.length=n/\(tcomp sc n root).sizes.length<=n:=by
 have i:unv n (tzero n)<=n:=by
  unfold unv;exact Y0 W2 (by simp)
 obtain⟨T,c,k⟩:=zg0 hsc n (tzero n) root (fun _=>False) (zic n) hr (zcv n root) (fun g h=>h.elim) i;obtain⟨q,t⟩:∃q,tvisit sc n (tzero n) root=q:=⟨_,rfl⟩
 unfold tcomp;rw[t]at c k ⊢;have j:∀v,v∉q.stk:=fun v d=>by obtain⟨g,h,_⟩:=c.gbk v d;exact h
 have f:q.cn root≠-1:=(c.don root).2 ⟨k.vis,j root⟩;have e:∀v,v<n->q.cn v≠-1:=fun v d=>(hall v d).closed (p:=fun a=>q.cn a≠-1) (fun a o b w=>(c.suc a o b w).1) f
 exact⟨⟨fun v d=>c.rng v (e v d),fun v d x r=>(c.suc v (e v d) x r).2,fun u v l d=>c.cmp u v (e u l) (e v d),c.cnt⟩,c.lc,by have:=c.bz;omega⟩
end
def dvisit (sc:Nat->List Nat):Nat->List Bool->Nat->List Bool
 | 0,m,_=>m
 |f+1,m,a=>if m.getD a false then m else(sc a).foldl (dvisit sc f) (m.set a true)
def mkd (m:List Bool) (x:Nat):Bool:=m.getD x false
def unm (n:Nat) (m:List Bool):Nat:=(Q3 n).countP (fun i=>!mkd m i)
section
variable {sc:Nat->List Nat} {n:Nat} {m m':List Bool} {a:Nat}
structure DP (sc:Nat->List Nat) (n:Nat) (m m':List Bool) (P:List Nat):Prop where
 len:m'.length=n
 keep:∀x,mkd m x=true->mkd m' x=true
 prc:∀p∈P,mkd m' p=true
 rch:∀x,mkd m' x=true->mkd m x=true\/∃p∈P,Reach sc p x
 suc:∀x,mkd m' x=true->mkd m x=false->∀y∈sc x,mkd m' y=true
theorem DP.refl (h:m.length=n):DP sc n m m []:=⟨h,fun _ h=>h,fun p h=>(by cases h),fun x h=>.inl h,fun x c b=>by rw[c]at b;cases b⟩
theorem DP.snoc {m2:List Bool} {P Q:List Nat} (h:DP sc n m m' P) (h2:DP sc n m' m2 Q):DP sc n m m2 (P++Q):=by
 refine⟨h2.len,fun x b=>h2.keep x (h.keep x b),?_,?_,?_⟩
 .intro p hp;rcases K3.1 hp with hp|hp
  .exact h2.keep p (h.prc p hp)
  .exact h2.prc p hp
 .intro x b;rcases h2.rch x b with h3|⟨p,hp,hr⟩
  .rcases h.rch x h3 with h4|⟨p,hp,hr⟩
   .exact .inl h4
   .grind
  .grind
 .intro x b d y c;by_cases h3:mkd m' x=true
  .exact h2.keep y (h.suc x h3 d y c)
  .exact h2.suc x b (by simpa using h3) y c
theorem zvl (h:∀x,mkd m x=true->mkd m' x=true):unm n m'<=unm n m:=by
 refine ze2 _ _ _ (fun u _ b=>?_);have b:mkd m' u=false:=by simpa using b
 have:mkd m u=false:=by cases e:mkd m u with|false=>rfl|true=>rw[h u e]at b;cases b
 simp[this]
theorem zla (h:a<m.length) (x:Nat):mkd (m.set a true) x=if x=a then true else mkd m x:=by
 unfold mkd;split
 .grind
 .grind
theorem zg1 (hl:m.length=n) (ha:a<n) (hm:mkd m a=false):unm n (m.set a true)<unm n m:=by
 have b:=zla (m:=m) (a:=a) (by omega);refine zdj _ _ _ (fun u _ hu=>?_) a (Q6.2 ha) ?_ (by simp[hm])
 .grind
 .rw[b,if_pos rfl];rfl
theorem ze3 {f:Nat} (ih:∀(m:List Bool) (a:Nat),m.length=n->a<n->unm n m<=f->DP sc n m (dvisit sc f m a) [a]):∀(L:List Nat) (m:List Bool),(∀x∈L,x<n)->m.length=n->unm n m<=f->DP sc n m (L.foldl (dvisit sc f) m) L:=by
 intro L
 induction L with
 |nil=>intro m _ c _;exact DP.refl c
 |cons x L ihL=>
  intro m d c e;rw[Q5];have b:=ih m x c (d x (.head _)) e;exact b.snoc (ihL _ (fun y g=>d y (.tail _ g)) b.len (Y0 (zvl b.keep) e))
theorem zbu (hsc:∀a,∀b∈sc a,b<n):∀(f:Nat) (m:List Bool) (a:Nat),m.length=n->a<n->unm n m<=f->DP sc n m (dvisit sc f m a) [a]:=by
 intro f
 induction f with
 |zero=>
  intro m a i q u;have j:mkd m a=true:=by
   cases e:mkd m a with
   |true=>rfl
   |false=>have:=zg1 i q e;omega
  exact⟨i,fun _ h=>h,fun p d=>by rw[K7]at d;rw[d];exact j,fun x h=>.inl h,fun x c g=>by
   have c:mkd m x=true:=c;rw[c]at g;cases g⟩
 |succ f ih=>
  intro m a i q u;unfold dvisit;by_cases j:m.getD a false=true
  .rw[if_pos j];exact⟨i,fun _ h=>h,fun p d=>by rw[K7]at d;rw[d];exact j,fun x h=>.inl h,fun x c g=>by rw[c]at g;cases g⟩
  .rw[if_neg j];have r:mkd m a=false:=by unfold mkd;simpa using j
   have k:=zla (m:=m) (a:=a) (by omega);have hu2:=zg1 i q r;have c:=ze3 ih (sc a) (m.set a true) (hsc a) (by simp[i]) (by omega);refine⟨c.len,fun x l=>c.keep x (by rw[k];split<;>simp_all),?_,?_,?_⟩
   .intro p d;rw[K7]at d;rw[d];exact c.keep a (by rw[k,if_pos rfl])
   .intro x l;rcases c.rch x l with g|⟨p,d,hr⟩
    .rw[k]at g;split at g
     .exact .inr ⟨a,.head _,by subst x;exact .refl _⟩
     .exact .inl g
    .exact .inr ⟨a,.head _,.step d hr⟩
   .intro x l o y t;by_cases hxa:x=a
    .subst hxa;exact c.prc y t
    .exact c.suc x l (by rw[k,if_neg hxa];exact o) y t
theorem DP.closed {P:List Nat} (h:DP sc n m m' P) (hc:∀x,mkd m x=true->∀y∈sc x,mkd m y=true):
 (∀x,mkd m' x=true↔mkd m x=true\/∃p∈P,Reach sc p x)/\(∀x,mkd m' x=true->∀y∈sc x,mkd m' y=true):=by
 have b:∀x,mkd m' x=true->∀y∈sc x,mkd m' y=true:=fun x d y c=>by
  by_cases hm:mkd m x=true
  .exact h.keep y (hc x hm y c)
  .exact h.suc x d (by simpa using hm) y c
 refine⟨fun x=>⟨h.rch x,?_⟩,b⟩;rintro(h1|⟨p,hp,hr⟩)
 .exact h.keep x h1
 .exact hr.closed (p:=fun a=>mkd m' a=true) b (h.prc p hp)
end
theorem foldl_flat {α β γ:Type} (f:γ->β->γ) (g:α->List β) (L:List α) (p:γ):L.foldl (fun p i=>(g i).foldl f p) p=(L.flatMap g).foldl f p:=by
 induction L generalizing p with
 |nil=>rfl
 |cons x L ih=>rw[Q5,Z1,Q8,ih]
def members (inn:Nat->Int) (n c:Nat):List Nat:=(Q3 n).filter (fun i=>inn i==(c:Int))
def dstep (inn:Nat->Int) (c:Nat) (p:List Nat×Bool) (x:Nat):List Nat×Bool:=
 if inn x=(c:Int)then(p.1,false)else(p.1.set c (max (p.1.getD c 0) (p.1.getD (inn x).toNat 0)),p.2)
def dcomp (sc:Nat->List Nat) (inn:Nat->Int) (n:Nat) (sizes:List Nat) (p:List Nat×Bool) (c:Nat):List Nat×Bool:=
 let q:=(members inn n c).foldl (fun p i=>(sc i).foldl (dstep inn c) p) p
 (q.1.set c (q.1.getD c 0+sizes.getD c 0),q.2)
def dall (sc:Nat->List Nat) (inn:Nat->Int) (n:Nat) (sizes:List Nat):List Nat×Bool:=
 (Q3 sizes.length).foldl (dcomp sc inn n sizes) (K4 sizes.length 0,true)
structure Long (sc:Nat->List Nat) (inn:Nat->Int) (n:Nat) (sz F:Nat->Nat):Prop where
 szs:∀u v,inn u=inn v->sz u=sz v
 same:∀u v,inn u=inn v->F u=F v
 up:∀u,u<n->∀x∈sc u,inn x≠inn u->sz u+F x<=F u
 att:∀v,v<n->F v=sz v\/∃u,u<n/\inn u=inn v/\∃x∈sc u,inn x≠inn u/\F v=sz v+F x
section
variable {sc:Nat->List Nat} {inn:Nat->Int} {n:Nat} {sizes:List Nat}
structure IP (inn:Nat->Int) (c:Nat) (b0:List Nat) (a0:Bool) (p:List Nat×Bool) (P:List Nat):Prop where
 len:p.1.length=b0.length
 far:∀k,k≠c->p.1.getD k 0=b0.getD k 0
 up:∀x∈P,inn x≠(c:Int)->b0.getD (inn x).toNat 0<=p.1.getD c 0
 att:p.1.getD c 0=0\/∃x∈P,inn x≠(c:Int)/\p.1.getD c 0=b0.getD (inn x).toNat 0
 ac:p.2=true↔a0=true/\∀x∈P,inn x≠(c:Int)
theorem IP.fold {c:Nat} {b0:List Nat} {a0:Bool} (hc:c<b0.length):∀(L P:List Nat) (p:List Nat×Bool),(∀x∈L,0<=inn x)->IP inn c b0 a0 p P->IP inn c b0 a0 (L.foldl (dstep inn c) p) (P++L):=by
 intro L
 induction L with
 |nil=>intro P p _ h;rw[List.append_nil];exact h
 |cons x L ih=>
  intro P p j h;rw[Q5,show P++x::L=(P++[x])++L from by simp];refine ih _ _ (fun y hy=>j y (.tail _ hy)) ?_;have hx0:=j x (.head _);unfold dstep;by_cases hx:inn x=(c:Int)
  .rw[if_pos hx];refine⟨h.len,h.far,?_,?_,?_⟩
   .intro y hy d;rcases K3.1 hy with hy|hy
    .exact h.up y hy d
    .grind
   .rcases h.att with h1|⟨y,h1,h2⟩
    .exact .inl h1
    .grind
   .grind
  .rw[if_neg hx];have g:(inn x).toNat≠c:=fun e=>hx (by omega)
   have f:c<p.1.length:=by rw[h.len];exact hc
   have b:(p.1.set c (max (p.1.getD c 0) (p.1.getD (inn x).toNat 0))).getD c 0=max (p.1.getD c 0) (b0.getD (inn x).toNat 0):=by
    rw[za6 _ _ _ _ f,h.far _ g]
   refine⟨by simp[h.len],?_,?_,?_,?_⟩
   .intro k i;rw[getD_set_ne _ _ _ _ _ (Ne.symm i)];exact h.far k i
   .intro y hy d;rw[b];rcases K3.1 hy with hy|hy
    .have:=h.up y hy d;omega
    .grind
   .rw[b];by_cases hle:b0.getD (inn x).toNat 0<=p.1.getD c 0
    .rw[Nat.max_eq_left hle];rcases h.att with h1|⟨y,h1,h2⟩
     .exact .inl h1
     .grind
    .grind
   .rw[h.ac];constructor
    .grind
    .rintro⟨h1,h2⟩;exact⟨h1,fun y hy=>h2 y (X8 _ hy)⟩
structure BI (sc:Nat->List Nat) (inn:Nat->Int) (n:Nat) (sizes:List Nat) (k:Nat) (p:List Nat×Bool):Prop where
 len:p.1.length=sizes.length
 rest:∀c,k<=c->p.1.getD c 0=0
 up:∀u,u<n->inn u<(k:Int)->∀x∈sc u,inn x≠inn u->sizes.getD (inn u).toNat 0+p.1.getD (inn x).toNat 0<=p.1.getD (inn u).toNat 0
 att:∀c,c<k->p.1.getD c 0=sizes.getD c 0\/∃u,u<n/\inn u=(c:Int)/\∃x∈sc u,inn x≠(c:Int)/\p.1.getD c 0=sizes.getD c 0+p.1.getD (inn x).toNat 0
 ac:p.2=true↔∀u,u<n->inn u<(k:Int)->∀x∈sc u,inn x≠inn u
theorem BI.next (hsc:∀a,∀b∈sc a,b<n) (hr:∀v,v<n->0<=inn v/\inn v<sizes.length) (hs:∀v,v<n->∀x∈sc v,inn x<=inn v) {c:Nat} {p:List Nat×Bool} (hc:c<sizes.length) (h:BI sc inn n sizes c p):
 BI sc inn n sizes (c+1) (dcomp sc inn n sizes p c):=by
 unfold dcomp;rw[foldl_flat];have i:∀x,x∈(members inn n c).flatMap sc↔∃u,u<n/\inn u=(c:Int)/\x∈sc u:=by
  intro x;simp[members,D7,and_assoc]
 obtain⟨q,y⟩:∃q,((members inn n c).flatMap sc).foldl (dstep inn c) p=q:=⟨_,rfl⟩
 have l:IP inn c p.1 p.2 q ((members inn n c).flatMap sc):=by
  have A:IP inn c p.1 p.2 p []:=⟨rfl,fun _ _=>rfl,fun x f=>(by cases f),.inl (h.rest c (K8 _)),⟨fun h=>⟨h,fun x f=>(by cases f)⟩,fun h=>h.1⟩⟩
  have:=IP.fold (by rw[h.len];exact hc) ((members inn n c).flatMap sc) [] p (fun x f=>by
   obtain⟨u,j,_,g⟩:=(i x).1 f;exact(hr x (hsc u x g)).1) A
  rw[y]at this;simpa using this
 rw[y];simp only;have t:q.1.length=sizes.length:=by rw[l.len,h.len]
 have e:(q.1.set c (q.1.getD c 0+sizes.getD c 0)).getD c 0=q.1.getD c 0+sizes.getD c 0:=za6 _ _ _ _ (by omega);have d:∀k,k≠c->(q.1.set c (q.1.getD c 0+sizes.getD c 0)).getD k 0=p.1.getD k 0:=fun k o=>by
  rw[getD_set_ne _ _ _ _ _ (Ne.symm o),l.far k o]
 refine⟨by simp[t],?_,?_,?_,?_⟩
 .intro k o;rw[d k (by omega)];exact h.rest k (by omega)
 .intro u j huk x f g;have r:=hr u j;have w:=hr x (hsc u x f);have z:=hs u j x f;rw[d (inn x).toNat (by omega)];by_cases hue:inn u=(c:Int)
  .rw[show(inn u).toNat=c from by omega,e];have:=l.up x ((i x).2 ⟨u,j,hue,f⟩) (by omega);omega
  .rw[d (inn u).toNat (by omega)];exact h.up u j (by omega) x f g
 .intro k o;by_cases hkc:k=c
  .subst hkc;rw[e];rcases l.att with r|⟨x,r,w,z⟩
   .left;omega
   .grind
  .rw[d k hkc];rcases h.att k (by omega)with r|⟨u,j,hue,x,g,w,z⟩
   .exact .inl r
   .grind
 .rw[l.ac,h.ac];constructor
  .grind
  .grind
theorem zwd (hsc:∀a,∀b∈sc a,b<n) (hr:∀v,v<n->0<=inn v/\inn v<sizes.length) (hs:∀v,v<n->∀x∈sc v,inn x<=inn v):BI sc inn n sizes sizes.length (dall sc inn n sizes):=by
 unfold dall;have d:∀k,k<=sizes.length->BI sc inn n sizes k ((Q3 k).foldl (dcomp sc inn n sizes) (K4 sizes.length 0,true)):=by
  intro k
  induction k with
  |zero=>
   intro _;refine⟨by simp,?_,?_,?_,?_⟩
   .grind
   .grind
   .intro c h;omega
   .grind
  |succ k ih=>
   intro hk;rw[List.range_succ,Q8];exact BI.next hsc hr hs (by omega) (ih (by omega))
 exact d _ (K8 _)
theorem zow (hsc:∀a,∀b∈sc a,b<n) (hr:∀v,v<n->0<=inn v/\inn v<sizes.length) (hs:∀v,v<n->∀x∈sc v,inn x<=inn v):
 Long sc inn n (fun v=>sizes.getD (inn v).toNat 0) (fun v=>(dall sc inn n sizes).1.getD (inn v).toNat 0)/\((dall sc inn n sizes).2=true↔∀u,u<n->∀x∈sc u,inn x≠inn u):=by
 have h:=zwd hsc hr hs;refine⟨⟨fun u v e=>by simp only[e],fun u v e=>by simp only[e],fun u c=>h.up u c (hr u c).2,fun v d=>?_⟩,?_⟩
 .have hv':=hr v d;rcases h.att (inn v).toNat (by omega)with h1|⟨u,c,hue,x,hxu,h2,h3⟩
  .exact .inl h1
  .grind
 .rw[h.ac];exact⟨fun h1 u c=>h1 u c (hr u c).2,fun h1 u c _=>h1 u c⟩
end
abbrev Str:=List UInt8
structure Nd where
 kind:Int
 text:Str
 ord:Bool
 keys:List Nat
 items:List Nat
deriving DecidableEq
def succ (ns:List Nd) (i:Nat):List Nat:=match ns[i]? with
 |some x=>x.keys++x.items
 |none=>[]
def Refs (ns:List Nd):Prop:=∀x∈ns,∀r∈x.keys++x.items,r<ns.length
theorem Refs.succ {ns:List Nd} (h:Refs ns):∀a,∀b∈succ ns a,b<ns.length:=by
 intro a b c;unfold Gr.succ at c;split at c
 .exact h _ (List.mem_of_getElem? ‹_›) b c
 .cases c
def allKeys (ns:List Nd):List Nat:=ns.flatMap (·.keys)
def refs (ns:List Nd):List Nat:=ns.flatMap (fun x=>x.keys++x.items)
def marks (ns:List Nd) (root:Nat):List Bool:=dvisit (succ ns) ns.length (K4 ns.length false) root
def inKeys (ns:List Nd):List Bool:=(allKeys ns).foldl (dvisit (succ ns) ns.length) (K4 ns.length false)
def cstep (l:List Nat) (x:Nat):List Nat:=l.set x (l.getD x 0+1)
def counts (ns:List Nd) (root:Nat):List Nat:=(refs ns).foldl cstep (cstep (K4 ns.length 0) root)
def sameF (ns:List Nd):Nat->Nat->Nat->Bool
 | 0,_,_=>false
 |f+1,i,j=>match ns[i]?,ns[j]? with
  |some a,some b=>
   if a.kind≠b.kind\/a.text≠b.text\/a.ord≠b.ord\/a.items.length≠b.items.length then false
   else if a.kind=10/\a.ord=false then
    (a.keys.zip a.items).all (fun x=>(b.keys.zip b.items).any (fun y=>sameF ns f x.1 y.1 && sameF ns f x.2 y.2))
   else(Q3 a.items.length).all (fun k=>(a.kind != 10 || sameF ns f (a.keys.getD k 0) (b.keys.getD k 0)) && sameF ns f (a.items.getD k 0) (b.items.getD k 0))
  |_,_=>false
def twice1 (ns:List Nd) (f:Nat):List Nat->Bool
 | []=>false
 |x::l=>l.any (fun y=>sameF ns f y x) || twice1 ns f l
def twice (ns:List Nd) (f:Nat):Bool:=ns.any (fun x=>twice1 ns f x.keys)
def nameB (s:Str):Bool:=(s.all fun c=>(97<=c && c<=122) || (65<=c && c<=90) || (48<=c && c<=57) || c==95 || c==45 || c==46 || c==58) && decide (1<=s.length) && decide (s.length<=64)
def formB (sclr:Int->Str->Bool) (x:Nd):Bool:=
 if x.kind=9 then x.text.isEmpty && !x.ord && x.keys.isEmpty
 else if x.kind=10 then x.text.isEmpty && decide (x.keys.length=x.items.length)
 else if x.kind=11 then nameB x.text && !x.ord && x.keys.isEmpty && decide (x.items.length=1)
 else !x.ord && x.keys.isEmpty && x.items.isEmpty && sclr x.kind x.text
def depth (ns:List Nd) (root:Nat):Int×Bool:=
 let t:=tcomp (succ ns) ns.length root;let p:=dall (succ ns) t.cn ns.length t.sizes
 ((p.1.getD (t.cn root).toNat 0:Int)-1,p.2)
def checkN (sclr:Int->Str->Bool) (ns:List Nd) (root:Nat):Nat:=
 if¬(Q3 ns.length).all (fun i=>(marks ns root).getD i false && formB sclr (ns.getD i ⟨0,[],false,[],[]⟩))then 3
 else if(Q3 ns.length).any (fun i=>(inKeys ns).getD i false && (counts ns root).getD i 0 != 1)then 3
 else if twice ns ns.length then 8
 else if(depth ns root).1>32 then 5 else 0
section
variable {ns:List Nd} {root:Nat}
theorem zgf (n x:Nat):mkd (K4 n false) x=false:=by
 unfold mkd;simp[K2,U5];split<;>rfl
theorem zc5 (n:Nat):unm n (K4 n false)<=n:=Y0 W2 (by simp)
theorem za3 (h:Refs ns) (hr:root<ns.length) (x:Nat):mkd (marks ns root) x=true↔Reach (succ ns) root x:=by
 have c:=(zbu h.succ ns.length (K4 ns.length false) root (by simp) hr (zc5 _)).closed (fun x b=>by rw[zgf]at b;cases b);rw[marks,c.1,zgf];simp
theorem zax (h:Refs ns) (x:Nat):mkd (inKeys ns) x=true↔∃k∈allKeys ns,Reach (succ ns) k x:=by
 have b:∀k∈allKeys ns,k<ns.length:=by
  intro k b;obtain⟨y,f,c⟩:=D7.1 b;exact h y f k (X8 _ c)
 have e:=(ze3 (zbu h.succ ns.length) (allKeys ns) (K4 ns.length false) b (by simp) (zc5 _)).closed (fun x d=>by rw[zgf]at d;cases d);rw[inKeys,e.1,zgf];simp
theorem zmj (h:Refs ns) (hr:root<ns.length) (hall:∀v,v<ns.length->Reach (succ ns) root v):∃(inn:Nat->Int) (sz F:Nat->Nat),
 (∀v,v<ns.length->0<=inn v)/\(∀v,v<ns.length->∀x∈succ ns v,inn x<=inn v)/\(∀u v,u<ns.length->v<ns.length->(inn u=inn v↔Reach (succ ns) u v/\Reach (succ ns) v u))/\
 (∀v,v<ns.length->sz v=(Q3 ns.length).countP (fun i=>inn i==inn v))/\Long (succ ns) inn ns.length sz F/\(depth ns root).1=(F root:Int)-1/\((depth ns root).2=true↔∀u,u<ns.length->∀x∈succ ns u,inn x≠inn u):=by
 obtain⟨b,_⟩:=zk9 h.succ root hr hall;obtain⟨d,e⟩:=zow h.succ b.rng b.suc;refine⟨_,_,_,fun v c=>(b.rng v c).1,b.suc,b.cmp,?_,d,rfl,e⟩;intro v c;have h3:=b.rng v c;rw[b.cnt _ (by omega)];apply U7;intro i _;rw[show(((tcomp (succ ns) ns.length root).cn v).toNat:Int)=(tcomp (succ ns) ns.length root).cn v from by omega]
end
end Gr
structure Lay (α:Type) where
 enc:α->List Value
 sz:Nat
 len:∀x,(enc x).length=sz
 one:∀x,∀u∈enc x,u.oneCell'=true
 pos:0<sz
section
variable {α:Type} (L:Lay α)
def Lay.all (l:List α):List Value:=l.flatMap L.enc
theorem Lay.all_len (l:List α):(L.all l).length=l.length*L.sz:=by
 induction l with
 |nil=>simp[Lay.all]
 |cons x l ih=>simp only[Lay.all,Z1,Q4,L.len,K9,U0,F8]at *;omega
theorem Lay.all_append (l r:List α):L.all (l++r)=L.all l++L.all r:=by simp[Lay.all]
theorem Lay.all_one (l:List α):∀u∈L.all l,u.oneCell'=true:=by
 intro u a;simp only[Lay.all,D7]at a;obtain⟨x,_,b⟩:=a;exact L.one x u b
theorem Lay.all_at (l:List α) (k:Nat) (x:α) (h:l[k]? =some x) (j:Nat) (u:Value) (hj:(L.enc x)[j]? =some u):(L.all l)[k*L.sz+j]? =some u:=by
 induction l generalizing k with
 |nil=>simp at h
 |cons y l ih=>
  have a:j<L.sz:=by
   have:=(List.getElem?_eq_some_iff.1 hj).1;rwa[L.len]at this
  cases k with
  |zero=>
   simp at h;subst h;simp only[Lay.all,Z1,R0,U8];rw[List.getElem?_append_left (by rw[L.len];exact a)];exact hj
  |succ k=>
   simp at h;have:=ih k h;simp only[Lay.all,Z1]at this ⊢;rw[List.getElem?_append_right (by rw[L.len,U0];omega),L.len];rw[show(k+1)*L.sz+j-L.sz=k*L.sz+j from by rw[U0];omega];exact this
def RowAt (w:World) (B:Nat) (A:Option Addr) (l:List α):Prop:=Reads w B L.sz A l.length (L.all l)
def OwnRow (w:World) (base:Nat) (E:TypeId) (v:Value) (l:List α):Prop:=w.ownsRow base E L.sz v l.length (L.all l)
end
theorem zgz (a:Addr) (i j:Nat) (hj:0<j):a.add (i+j)={block:=(a.add i).block,off:=(a.add i).off+j}:=by
 unfold Addr.add;rw[if_neg (by omega)];split<;>simp_all<;>omega
section
variable {α:Type} {L:Lay α} {w w':World} {B B' base:Nat} {E:TypeId} {A:Option Addr} {v:Value} {l m:List α}
theorem RowAt.nil:RowAt L w B none []:=Reads.none_
theorem RowAt.get {k:Nat} (h:RowAt L w B A l) (hk:k<l.length):
 ∃ad,A=some ad/\ad.block<B/\(∀u,(L.enc l[k])[0]? =some u->w.cell? (ad.add (k*L.sz))=some u)/\
  ∀j u,0<j->(L.enc l[k])[j]? =some u->w.cell? {block:=(ad.add (k*L.sz)).block,off:=(ad.add (k*L.sz)).off+j}=some u:=by
 obtain⟨ad,e,d,b⟩:=h.2 (by omega);have c:l[k]? =some l[k]:=K0 hk;refine⟨ad,e,d,fun u a=>b _ _ ?_,fun j u f a=>?_⟩
 .have:=L.all_at l k l[k] c 0 u a;simpa using this
 .rw[<-zgz _ _ _ f];exact b _ _ (L.all_at l k l[k] c j u a)
theorem RowAt.below (h:RowAt L w B A l) (hb:Below B w w'):RowAt L w' B A l:=Reads.below h hb
theorem RowAt.more (h:RowAt L w B A l) (hB:B<=B'):RowAt L w B' A l:=Reads.more h hB
theorem RowAt.alloc (h:RowAt L w B A l) (hB:B<=w.heap.size) (o:Obj):RowAt L (w.alloc o) B A l:=Reads.alloc h hB o
theorem RowAt.drewN (h:RowAt L w B A l) (n:Nat):RowAt L (w.drewN n) B A l:=h
theorem OwnRow.nil:OwnRow L w base E (.slice none 0 0) []:=World.ownsRow_nil w base E L.sz
theorem OwnRow.form (h:OwnRow L w base E v l):∃A c,v=.slice A l.length c/\RowAt L w w.heap.size A l:=by
 have e:=h;rcases h.2 with⟨b,f⟩|⟨g,a,cur,b,_⟩
 .have d:l=[]:=Y3 f;subst d;exact⟨none,0,b,RowAt.nil⟩
 .exact⟨_,a,b,Reads.of_own (c:=a) (by rw[<-b];exact e)⟩
theorem OwnRow.below (h:OwnRow L w base E v l) (hb:Below B w w') (hB:∀k,v.ownBlock=some k->k<B):OwnRow L w' base E v l:=by
 refine⟨h.1,?_⟩;rcases h.2 with hn|⟨g,cap,cur,rfl,hbg,hgg,rest⟩
 .exact .inl hn
 .exact .inr ⟨g,cap,cur,rfl,hbg,by rw[hb.block g (hB g (by simp[Value.ownBlock]))];exact hgg,rest⟩
theorem OwnRow.lt (h:OwnRow L w base E v l):∀k,v.ownBlock=some k->base<=k/\k<w.heap.size:=World.ownsRow.lt h
theorem OwnRow.later (h:OwnRow L w base E v l) (hb:Below w.heap.size w w'):OwnRow L w' base E v l:=h.below hb (fun k a=>(h.lt k a).2)
theorem OwnRow.alloc (h:OwnRow L w base E v l) (o:Obj):OwnRow L (w.alloc o) base E v l:=World.ownsRow.alloc h o
theorem OwnRow.drewN (h:OwnRow L w base E v l) (n:Nat):OwnRow L (w.drewN n) base E v l:=h
theorem grownBy_setCell' (w:World) (p:Addr) (u:Value):w.grownBy (w.setCell p u) (some p.block):=
 ⟨rfl,rfl,rfl,by simp[E4],fun k _ a=>W9 w p u k (fun e=>a (by rw[e]))⟩
theorem OwnRow.setCell (h:OwnRow L w base E v l) {p:Addr} (hp:v.ownBlock≠some p.block) (u:Value):OwnRow L (w.setCell p u) base E v l:=
 World.ownsRow.kept h (grownBy_setCell' w p u) (.inr hp)
theorem OwnRow.grown_below (h:OwnRow L w base E v l) (hg:w.grownBy w' v.ownBlock) (hb:base<=w.heap.size):Below base w w':=
 (W8 base w).grown hg hb (fun k a=>(h.lt k a).1)
theorem OwnRow.ne_ (h:OwnRow L w base E v l) {g:Nat} (hg:w.heap.size<=g):some g≠v.ownBlock:=by
 intro e;have:=h.lt g e.symm;omega
theorem OwnRow.lower {base':Nat} (h:OwnRow L w base E v l) (hb:base'<=base):OwnRow L w base' E v l:=by
 refine⟨h.1,?_⟩;rcases h.2 with hn|⟨g,cap,cur,rfl,hbg,rest⟩
 .exact .inl hn
 .exact .inr ⟨g,cap,cur,rfl,by omega,rest⟩
theorem OwnRow.lit1 (hb:base<=w.heap.size) (x:α) (cs:Array Value) (hcs:cs.toList=L.enc x):
 OwnRow L (w.alloc (.cells cs E)) base E (.slice (some ⟨w.heap.size,0,none⟩) 1 1) [x]:=by
 have a:cs.size=L.sz:=by rw[<-Array.length_toList,hcs,L.len]
 refine⟨by simp[Lay.all,L.len],.inr ⟨w.heap.size,1,_,rfl,hb,heap_alloc_new w _,K8 _,by simp[maxLen],by simp[a],?_⟩⟩;rw[hcs];simp[Lay.all,U6,L.len]
theorem RowAt.lit1 (x:α) (cs:Array Value) (hcs:cs.toList=L.enc x) (n:Nat) (hn:n=w.heap.size):RowAt L (w.alloc (.cells cs E)) (w.heap.size+1) (some ⟨n,0,none⟩) [x]:=by
 subst hn;have h:=Reads.of_own (OwnRow.lit1 (L:=L) (E:=E) (K8 w.heap.size) x cs hcs);rw[World.size_alloc]at h;exact h
end
structure SliceT (P:Program) {α:Type} (L:Lay α) (t e:TypeId) (bytes:Nat):Prop where
 und:P.underlying t=some (.slice e)
 info:∃i z,P.info? e=some i/\i.zero=some z/\i.size=L.sz/\i.bytes=bytes/\z.cells.size=L.sz
 small:bytes<=256
section
variable {P:Program} {α:Type} {L:Lay α} (w:World)
theorem zab {ops:Array Oper} {rest:List Oper} {o:Oper} {a:Act} {Q:Exit->Act->World->Prop} (hgd:o.guard=none) (s x:Operand) (t e:TypeId) (bytes:Nat)
 (ho:o.op=.call {callee:=.builtin .append,args:=#[s,x],argTypes:=#[t,t]}) (hT:SliceT P L t e bytes)
 (base:Nat) (v:Value) (l:List α) (hs:a.eval s=v) (hown:OwnRow L w base e v l)
 (B:Nat) (A:Option Addr) (c:Nat) (m:List α) (hx:a.eval x=.slice A m.length c) (hr:RowAt L w B A m)
 (hlen:l.length+m.length<=1073741824) (hbase:base<=w.heap.size)
 (h:∀v' w',OwnRow L w' base e v' (l++m)->w.grownBy w' v.ownBlock->(v'.ownBlock=v.ownBlock\/v'.ownBlock=some w.heap.size)->wpList P ops Q rest (a.put o.dst v') w'):wpList P ops Q (o::rest) a w:=by
 obtain⟨n,z,j,d,b,f,g⟩:=hT.info;have hb:(l.length+m.length)*bytes<=1073741824*256:=L4 hlen hT.small;refine zdx w hgd s x t ho base e n z L.sz bytes hT.und j d b f g L.pos v l.length (L.all l) hs hown B A m.length c (L.all m) hx hr (L.all_one m) (by simp only[maxLen];omega) (by omega) hbase ?_;intro v' w' i p k;refine h v' w' ?_ p k;unfold OwnRow;rw[Q4,L.all_append];exact i
theorem zai {ops:Array Oper} {o:Oper} {a:Act} {K:Act->World->Prop} {Q:Exit->Act->World->Prop} {E:Prop} (hgd:o.guard=none) (s x:Operand) (t e:TypeId) (bytes:Nat)
 (ho:o.op=.call {callee:=.builtin .append,args:=#[s,x],argTypes:=#[t,t]}) (hT:SliceT P L t e bytes)
 (base:Nat) (v:Value) (l:List α) (hs:a.eval s=v) (hown:OwnRow L w base e v l)
 (B:Nat) (A:Option Addr) (c:Nat) (m:List α) (hx:a.eval x=.slice A m.length c) (hr:RowAt L w B A m)
 (hlen:l.length+m.length<=1073741824) (hbase:base<=w.heap.size)
 (h:∀v' w',OwnRow L w' base e v' (l++m)->w.grownBy w' v.ownBlock->(v'.ownBlock=v.ownBlock\/v'.ownBlock=some w.heap.size)->K (a.put o.dst v') w'):
 if Region.wanted o (yielded ops a.tmps)=true then Oper.wp P o a w K Q else E:=by
 obtain⟨n,z,j,d,b,f,g⟩:=hT.info;have hb:(l.length+m.length)*bytes<=1073741824*256:=L4 hlen hT.small;refine ze1 w hgd s x t ho base e n z L.sz bytes hT.und j d b f g L.pos v l.length (L.all l) hs hown B A m.length c (L.all m) hx hr (L.all_one m) (by simp only[maxLen];omega) (by omega) hbase ?_;intro v' w' i p k;refine h v' w' ?_ p k;unfold OwnRow;rw[Q4,L.all_append];exact i
end
structure zbc (w w':World) (S:Nat->Prop):Prop where
 os:w'.os=w.os
 tape:w'.tape=w.tape
 output:w'.output=w.output
 size:w.heap.size<=w'.heap.size
 block:∀k,k<w.heap.size->¬S k->w'.heap[k]? =w.heap[k]?
theorem zbc.below {w w':World} {S:Nat->Prop} {B:Nat} (h:zbc w w' S) (hB:B<=w.heap.size) (hS:∀k,S k->B<=k):Below B w w':=
 ⟨h.os,h.tape,h.output,h.size,fun k hk=>h.block k (by omega) (fun a=>by have:=hS k a;omega)⟩
theorem zbc.cell {w w':World} {S:Nat->Prop} (h:zbc w w' S) {g i:Nat} {v:Value} (hc:w.cell? ⟨g,i,none⟩=some v) (hS:¬S g):w'.cell? ⟨g,i,none⟩=some v:=
 (F2 (w:=w) (h.block g (E5 w ⟨g,i,none⟩ hc) hS)).trans hc
theorem zav (s:List UInt8) (i j:Nat):(⟨s.toArray⟩:ByteArray).extract i j=⟨((s.drop i).take (j-i)).toArray⟩:=by
 apply ByteArray.ext;apply Array.ext';simp[ByteArray.extract,ByteArray.copySlice,List.extract]
section
variable {α:Type} {L:Lay α} {w:World} {B base:Nat} {E:TypeId} {A:Option Addr} {v:Value} {l:List α}
theorem OwnRow.form' (h:OwnRow L w base E v l):∃A c,v=.slice A l.length c/\RowAt L w w.heap.size A l/\l.length<=c:=by
 have f:=h;rcases h.2 with⟨b,i⟩|⟨g,a,cur,b,_,_,e,_⟩
 .have d:l=[]:=Y3 i;subst d;exact⟨none,0,b,RowAt.nil,by simp⟩
 .exact⟨_,a,b,Reads.of_own (c:=a) (by rw[<-b];exact f),e⟩
theorem Lay.all_drop (l:List α) (k:Nat):L.all (l.drop k)=(L.all l).drop (k*L.sz):=by
 induction l generalizing k with
 |nil=>simp[Lay.all]
 |cons x l ih=>
  cases k with
  |zero=>simp
  |succ k=>
   have e:L.all (x::l)=L.enc x++L.all l:=rfl;have a:(L.enc x).drop ((k+1)*L.sz)=[]:=F0 (by rw[L.len,U0];omega);rw[List.drop_succ_cons,ih,e,List.drop_append,a,L.len,U4,show(k+1)*L.sz-L.sz=k*L.sz from by rw[U0];omega]
theorem Lay.all_take (l:List α) (k:Nat):L.all (l.take k)=(L.all l).take (k*L.sz):=by
 induction l generalizing k with
 |nil=>simp[Lay.all]
 |cons x l ih=>
  cases k with
  |zero=>simp[Lay.all]
  |succ k=>
   have e:L.all (x::l)=L.enc x++L.all l:=rfl;have b:L.all (x::l.take k)=L.enc x++L.all (l.take k):=rfl;have a:(L.enc x).take ((k+1)*L.sz)=L.enc x:=U6 (by rw[L.len,U0];omega);rw[List.take_succ_cons,b,ih,e,List.take_append,a,L.len,show(k+1)*L.sz-L.sz=k*L.sz from by rw[U0];omega]
theorem RowAt.take (h:RowAt L w B A l) (k:Nat) (hk:k<=l.length):RowAt L w B A (l.take k):=by
 refine⟨L.all_len _,fun f=>?_⟩;rw[List.length_take]at f;obtain⟨d,e,c,b⟩:=h.2 (by omega);refine⟨d,e,c,fun j u a=>b j u ?_⟩;rw[Lay.all_take,List.getElem?_take]at a;split at a
 .exact a
 .cases a
theorem RowAt.drop (h:RowAt L w B A l) {k cap:Nat} (hk:k<=l.length) (hc:l.length<=cap):RowAt L w B (if cap=k then A else A.map (·.add (k*L.sz))) (l.drop k):=by
 have:=Reads.cut h hk hc;unfold RowAt;rw[V0,Lay.all_drop];exact this
theorem RowAt.sub (h:RowAt L w B A l) {k m cap:Nat} (hkm:k<=m) (hm:m<=l.length) (hc:l.length<=cap):RowAt L w B (if cap=k then A else A.map (·.add (k*L.sz))) ((l.drop k).take (m-k)):=
 (h.drop (by omega) hc).take (m-k) (by rw[V0];omega)
end
section
variable {P:Program}
theorem run_slice_l (t e:TypeId) (i:TypeInfo) (ht:P.underlying t=some (.slice e)) (hi:P.info? e=some i) (a:Option Addr) (n c k:Nat) (hk:k<=n) (w:World):
 (Instr.slice t (.slice a n c) (some (.int .i64 (k:Int))) none none).run P w=.ok (.slice (if c=k then a else a.map (·.add (k*i.size))) (n-k) (c-k)) w:=by
 have b:∀code,(Instr.sliceBound (.int .i64 (k:Int)) n code).run P w=.ok k w:=fun code=>by
  rw[run_sliceBound (P:=P) (w:=w) .i64 k n code (by omega) (by omega)];simp
 simp[Instr.slice,run_underlying ht,Instr.sliceBounds,sizeOf,typeInfo,hi,b]
theorem run_slice_h (t e:TypeId) (i:TypeInfo) (ht:P.underlying t=some (.slice e)) (hi:P.info? e=some i) (a:Option Addr) (n c m:Nat) (hm:m<=c) (w:World):
 (Instr.slice t (.slice a n c) none (some (.int .i64 (m:Int))) none).run P w=.ok (.slice (if c=0 then a else a.map (·.add (0*i.size))) m c) w:=by
 have b:∀code,(Instr.sliceBound (.int .i64 (m:Int)) c code).run P w=.ok m w:=fun code=>by
  rw[run_sliceBound (P:=P) (w:=w) .i64 m c code (by omega) (by omega)];simp
 simp[Instr.slice,run_underlying ht,Instr.sliceBounds,sizeOf,typeInfo,hi,b]
theorem zia (t e:TypeId) (i:TypeInfo) (ht:P.underlying t=some (.slice e)) (hi:P.info? e=some i) (a:Option Addr) (n c:Nat) (k:Int) (h0:0<=k) (hk:k<=n) (w:World):
 (Instr.slice t (.slice a n c) (some (.int .i64 k)) none none).run P w=.ok (.slice (if c=k.toNat then a else a.map (·.add (k.toNat*i.size))) (n-k.toNat) (c-k.toNat)) w:=by
 have:=run_slice_l (P:=P) t e i ht hi a n c k.toNat (by omega) w;rwa[show((k.toNat:Nat):Int)=k from by omega]at this
end
theorem cells2 {w:World} {g:Nat} {t:TypeId} {v0 v1:Value} {l:List Value} (h:Blk w g t (V4 (v0::v1::l))):w.cell? ⟨g,0,none⟩=some v0/\w.cell? ⟨g,1,none⟩=some v1:=⟨h.cell 0,h.cell 1⟩
theorem cells3 {w:World} {g:Nat} {t:TypeId} {v0 v1 v2:Value} {l:List Value} (h:Blk w g t (V4 (v0::v1::v2::l))):w.cell? ⟨g,0,none⟩=some v0/\w.cell? ⟨g,1,none⟩=some v1/\w.cell? ⟨g,2,none⟩=some v2:=⟨h.cell 0,h.cell 1,h.cell 2⟩
theorem cells4 {w:World} {g:Nat} {t:TypeId} {v0 v1 v2 v3:Value} {l:List Value} (h:Blk w g t (V4 (v0::v1::v2::v3::l))):w.cell? ⟨g,0,none⟩=some v0/\w.cell? ⟨g,1,none⟩=some v1/\w.cell? ⟨g,2,none⟩=some v2/\w.cell? ⟨g,3,none⟩=some v3:=⟨h.cell 0,h.cell 1,h.cell 2,h.cell 3⟩
theorem cells5 {w:World} {g:Nat} {t:TypeId} {v0 v1 v2 v3 v4:Value} {l:List Value} (h:Blk w g t (V4 (v0::v1::v2::v3::v4::l))):w.cell? ⟨g,0,none⟩=some v0/\w.cell? ⟨g,1,none⟩=some v1/\w.cell? ⟨g,2,none⟩=some v2/\w.cell? ⟨g,3,none⟩=some v3/\w.cell? ⟨g,4,none⟩=some v4:=⟨h.cell 0,h.cell 1,h.cell 2,h.cell 3,h.cell 4⟩
theorem zag {w:World} {g:Nat} {t:TypeId} {v0 v1 v2 v3 v4 v5 v6 v7 v8 v9 v10:Value} {l:List Value} (h:Blk w g t (V4 (v0::v1::v2::v3::v4::v5::v6::v7::v8::v9::v10::l))):w.cell? ⟨g,0,none⟩=some v0/\w.cell? ⟨g,1,none⟩=some v1/\w.cell? ⟨g,2,none⟩=some v2/\w.cell? ⟨g,3,none⟩=some v3/\w.cell? ⟨g,4,none⟩=some v4/\w.cell? ⟨g,5,none⟩=some v5/\w.cell? ⟨g,6,none⟩=some v6/\w.cell? ⟨g,7,none⟩=some v7/\w.cell? ⟨g,8,none⟩=some v8/\w.cell? ⟨g,9,none⟩=some v9/\w.cell? ⟨g,10,none⟩=some v10:=⟨h.cell 0,h.cell 1,h.cell 2,h.cell 3,h.cell 4,h.cell 5,h.cell 6,h.cell 7,h.cell 8,h.cell 9,h.cell 10⟩
theorem zah {w:World} {g:Nat} {t:TypeId} {v0 v1 v2 v3 v4 v5 v6 v7 v8 v9 v10 v11:Value} {l:List Value} (h:Blk w g t (V4 (v0::v1::v2::v3::v4::v5::v6::v7::v8::v9::v10::v11::l))):w.cell? ⟨g,0,none⟩=some v0/\w.cell? ⟨g,1,none⟩=some v1/\w.cell? ⟨g,2,none⟩=some v2/\w.cell? ⟨g,3,none⟩=some v3/\w.cell? ⟨g,4,none⟩=some v4/\w.cell? ⟨g,5,none⟩=some v5/\w.cell? ⟨g,6,none⟩=some v6/\w.cell? ⟨g,7,none⟩=some v7/\w.cell? ⟨g,8,none⟩=some v8/\w.cell? ⟨g,9,none⟩=some v9/\w.cell? ⟨g,10,none⟩=some v10/\w.cell? ⟨g,11,none⟩=some v11:=⟨h.cell 0,h.cell 1,h.cell 2,h.cell 3,h.cell 4,h.cell 5,h.cell 6,h.cell 7,h.cell 8,h.cell 9,h.cell 10,h.cell 11⟩
def T12 (a b c:Bool) (d e f g h i j k:Int) (l:Bool):Array Value:=#[.bool a,.bool b,.bool c,.int .i64 d,.int .i64 e,.int .i64 f,.int .i64 g,.int .i64 h,.int .i64 i,.int .i64 j,.int .i64 k,.bool l]
open _root_.Go.Proofs.Tryz
structure SV where
 a:Option Addr
 n:Nat
 c:Nat
def SV.v (x:SV):Value:=.slice x.a x.n x.c
def SV.nil:SV:=⟨none,0,0⟩
structure NV where
 kind:Int
 text:Gr.Str
 ord:Bool
 k:SV
 i:SV
def nodeL:Lay NV:={enc:=fun x=>[.int .i64 x.kind,.string ⟨x.text.toArray⟩,.bool x.ord,x.k.v,x.i.v],sz:=5,len:=fun _=>rfl,one:=fun x u hu=>by simp at hu;rcases hu with rfl|rfl|rfl|rfl|rfl<;>rfl,pos:=by omega}
def intL:Lay Nat:={enc:=fun x=>[.int .i64 (x:Int)],sz:=1,len:=fun _=>rfl,one:=fun x u hu=>by simp at hu;subst hu;rfl,pos:=by omega}
def intI:Lay Int:={enc:=fun x=>[.int .i64 x],sz:=1,len:=fun _=>rfl,one:=fun x u hu=>by simp at hu;subst hu;rfl,pos:=by omega}
theorem zb3 {α:Type} (L:Lay α) (t e:TypeId) (z:Value) (bytes:Nat) (hu:prog.underlying t=some (.slice e)) (h:(prog.info? e).map (fun i=>(i.zero,i.size,i.bytes))=some (some z,L.sz,bytes)) (hz:z.cells.size=L.sz) (hb:bytes<=256):SliceT prog L t e bytes:=by
 refine⟨hu,?_,hb⟩;obtain⟨i,d,a,c,b⟩:=info_parts h;exact⟨i,_,d,a,c,b,hz⟩
theorem nodeT:SliceT prog nodeL 22 37 80:=zb3 nodeL 22 37 (.agg #[.int .i64 0,.string ⟨#[]⟩,.bool false,.slice none 0 0,.slice none 0 0]) 80 underlying22 (by kernel_rfl) rfl (by omega)
theorem intT:SliceT prog intL 35 3 8:=zb3 intL 35 3 (.int .i64 0) 8 underlying35 (by kernel_rfl) rfl (by omega)
theorem zaf {w:World} {B:Nat} {A:Option Addr} {l:List Nat} {k:Nat} (h:RowAt intL w B A l) (hk:k<l.length):∃ad,A=some ad/\ad.block<B/\w.cell? (ad.add k)=some (.int .i64 (l[k]:Int)):=by
 obtain⟨ad,a,c,b,_⟩:=h.get hk;refine⟨ad,a,c,?_⟩;have:=b (.int .i64 (l[k]:Int)) rfl;rwa[show k*intL.sz=k from F9 k]at this
theorem zj4 {w:World} {B:Nat} {A:Option Addr} {l:List NV} {k:Nat} (h:RowAt nodeL w B A l) (hk:k<l.length):∃ad,A=some ad/\ad.block<B/\w.cell? (ad.add (k*5))=some (.int .i64 l[k].kind)/\
 w.cell? {block:=(ad.add (k*5)).block,off:=(ad.add (k*5)).off+1}=some (.string ⟨l[k].text.toArray⟩)/\w.cell? {block:=(ad.add (k*5)).block,off:=(ad.add (k*5)).off+2}=some (.bool l[k].ord)/\
 w.cell? {block:=(ad.add (k*5)).block,off:=(ad.add (k*5)).off+3}=some (.slice l[k].k.a l[k].k.n l[k].k.c)/\w.cell? {block:=(ad.add (k*5)).block,off:=(ad.add (k*5)).off+4}=some (.slice l[k].i.a l[k].i.n l[k].i.c):=by
 obtain⟨ad,d,f,e,b⟩:=h.get hk;exact⟨ad,d,f,e _ rfl,b 1 _ (by omega) rfl,b 2 _ (by omega) rfl,b 3 _ (by omega) rfl,b 4 _ (by omega) rfl⟩
theorem below_drewN {B:Nat} {a b:World} (h:Below B a b) (n:Nat):Below B a (b.drewN n):=h.trans ⟨rfl,rfl,rfl,K8 _,fun _ _=>rfl⟩
structure GAt (w:World) (B:Nat) (A:Option Addr) (vs:List NV) (ns:List Gr.Nd):Prop where
 row:RowAt nodeL w B A vs
 len:vs.length=ns.length
 kind:∀j (h:j<vs.length) (h2:j<ns.length),vs[j].kind=ns[j].kind/\vs[j].text=ns[j].text/\vs[j].ord=ns[j].ord
 nums:∀j (h:j<vs.length) (h2:j<ns.length),RowAt intL w B vs[j].k.a ns[j].keys/\vs[j].k.n=ns[j].keys.length/\RowAt intL w B vs[j].i.a ns[j].items/\vs[j].i.n=ns[j].items.length
theorem GAt.below {w w':World} {B:Nat} {A:Option Addr} {vs:List NV} {ns:List Gr.Nd} (h:GAt w B A vs ns) (hb:Below B w w'):GAt w' B A vs ns:=
 ⟨h.row.below hb,h.len,h.kind,fun j f e=>let⟨a,b,c,d⟩:=h.nums j f e;⟨a.below hb,b,c.below hb,d⟩⟩
theorem GAt.more {w:World} {B B':Nat} {A:Option Addr} {vs:List NV} {ns:List Gr.Nd} (h:GAt w B A vs ns) (hB:B<=B'):GAt w B' A vs ns:=
 ⟨h.row.more hB,h.len,h.kind,fun j f e=>let⟨a,b,c,d⟩:=h.nums j f e;⟨a.more hB,b,c.more hB,d⟩⟩
structure NodeAt (w:World) (B:Nat) (ad:Addr) (n:Gr.Nd) (k i:SV):Prop where
 lt:ad.block<B
 c0:w.cell? ad=some (.int .i64 n.kind)
 c1:w.cell? {block:=ad.block,off:=ad.off+1}=some (.string ⟨n.text.toArray⟩)
 c2:w.cell? {block:=ad.block,off:=ad.off+2}=some (.bool n.ord)
 c3:w.cell? {block:=ad.block,off:=ad.off+3}=some (.slice k.a k.n k.c)
 c4:w.cell? {block:=ad.block,off:=ad.off+4}=some (.slice i.a i.n i.c)
 keys:RowAt intL w B k.a n.keys
 kn:k.n=n.keys.length
 items:RowAt intL w B i.a n.items
 inn:i.n=n.items.length
theorem GAt.node {w:World} {B:Nat} {A:Option Addr} {vs:List NV} {ns:List Gr.Nd} (h:GAt w B A vs ns) {j:Nat} (hj:j<ns.length):∃ad k i,A=some ad/\NodeAt w B (ad.add (j*5)) ns[j] k i:=by
 have a:j<vs.length:=by rw[h.len];exact hj
 obtain⟨ad,e,s,b,d,c,f,g⟩:=zj4 h.row a;obtain⟨p,l,o⟩:=h.kind j a hj;obtain⟨q,m,n,r⟩:=h.nums j a hj;rw[p]at b;rw[l]at d;rw[o]at c;exact⟨ad,vs[j].k,vs[j].i,e,by rw[zbi];exact s,b,d,c,f,g,q,m,n,r⟩
structure Kept1 (g:Nat) (w w':World):Prop where
 os:w'.os=w.os
 tape:w'.tape=w.tape
 output:w'.output=w.output
 size:w'.heap.size=w.heap.size
 block:∀k,k≠g->w'.heap[k]? =w.heap[k]?
theorem Kept1.refl (g:Nat) (w:World):Kept1 g w w:=⟨rfl,rfl,rfl,rfl,fun _ _=>rfl⟩
theorem Kept1.trans {g:Nat} {a b c:World} (h:Kept1 g a b) (h2:Kept1 g b c):Kept1 g a c:=
 ⟨h2.os.trans h.os,h2.tape.trans h.tape,h2.output.trans h.output,h2.size.trans h.size,fun k d=>(h2.block k d).trans (h.block k d)⟩
theorem Kept1.below {g B:Nat} {a b:World} (h:Kept1 g a b) (hB:B<=g):Below B a b:=⟨h.os,h.tape,h.output,R2 h.size.symm,fun k hk=>h.block k (by omega)⟩
theorem Kept1.blk {g k:Nat} {a b:World} {t:TypeId} {cs:Array Value} (h:Kept1 g a b) (hb:Blk a k t cs) (hk:k≠g):Blk b k t cs:=(h.block k hk).trans hb
theorem Kept1.set {w:World} {g:Nat} (i:Nat) (u:Value):Kept1 g w (w.setCell ⟨g,i,none⟩ u):=⟨rfl,rfl,rfl,by simp[E4],fun _ a=>W9 _ _ _ _ a⟩
def bcells (m:List Bool):Array Value:=(m.map Value.bool).toArray
theorem zb4 (m:List Bool) (i:Nat) (b:Bool):(bcells m).setIfInBounds i (.bool b)=bcells (m.set i b):=by
 simp[bcells,E9]
theorem zae {m:List Bool} {i:Nat} (h:i<m.length):(bcells m)[i]? =some (.bool (m.getD i false)):=by
 simp[bcells,K2,h]
def icells (m:List Nat):Array Value:=(m.map (fun(x:Nat)=>Value.int .i64 (x:Int))).toArray
theorem zam (m:List Nat) (i x:Nat):(icells m).setIfInBounds i (.int .i64 (x:Int))=icells (m.set i x):=by
 simp[icells,E9]
theorem zaa {m:List Nat} {i:Nat} (h:i<m.length):(icells m)[i]? =some (.int .i64 ((m.getD i 0:Nat):Int)):=by
 simp[icells,K2,h]
theorem zbm {P:Program} (t e:TypeId) (i:TypeInfo) (z:Value) (ht:P.underlying t=some (.slice e)) (hi:P.info? e=some i) (hz:i.zero=some z)
 (kl kc:IntKind) (n c:Nat) (hnc:n<=c) (hbytes:i.bytes*c<=281474976710656) (h63:c<=9223372036854775807) (w:World):
 (Instr.makeSlice t (.int kl (n:Int)) (.int kc (c:Int))).run P w=.ok (.slice (some ⟨w.heap.size,0,none⟩) n c) (w.alloc (.cells (madeCells z.cells (c*i.size)) e)):=by
 have b:(i.bytes:Int)*(c:Int)<=281474976710656:=by
  omega
 have a:=run_make (P:=P) w t e i z ht hi hz kl kc n c (by omega) (by omega) b (by omega);simp only[J8]at a;exact a
theorem zbn (v:Value) (n:Nat):madeCells #[v] (n*1)=(K4 n v).toArray:=by
 apply Array.ext
 .simp[madeCells]
 .intro i h1 h2;simp[madeCells,R4]
theorem infoInt:(prog.info? 3).map (fun i=>(i.zero,i.size,i.bytes))=some (some (.int .i64 0),1,8):=by kernel_rfl
theorem infoBool:(prog.info? 4).map (fun i=>(i.zero,i.size,i.bytes))=some (some (.bool false),1,1):=by kernel_rfl
theorem za7 (n:Nat) (hn:n<=1073741824) (W:World):(Instr.makeSlice 35 (.int .i64 (n:Int)) (.int .i64 (n:Int))).run prog W=.ok (.slice (some ⟨W.heap.size,0,none⟩) n n) (W.alloc (.cells (icells (K4 n 0)) 3)):=by
 obtain⟨e,b,c,d,a⟩:=info_parts infoInt;have:=zbm (P:=prog) 35 3 e _ underlying35 b c .i64 .i64 n n (K8 _) (by rw[a];omega) (by omega) W;rw[d]at this;simp only[Value.cells,zbn]at this;rw[this];simp[icells]
theorem zbq (n:Nat) (hn:n<=1073741824) (W:World):(Instr.makeSlice 44 (.int .i64 (n:Int)) (.int .i64 (n:Int))).run prog W=.ok (.slice (some ⟨W.heap.size,0,none⟩) n n) (W.alloc (.cells (bcells (K4 n false)) 4)):=by
 obtain⟨e,b,c,d,a⟩:=info_parts infoBool;have:=zbm (P:=prog) 44 4 e _ underlying44 b c .i64 .i64 n n (K8 _) (by rw[a];omega) (by omega) W;rw[d]at this;simp only[Value.cells,zbn]at this;rw[this];simp[bcells]
def KB (g:Nat) (w w':World):Prop:=zbc w w' (fun k=>k=g)
theorem KB.refl (g:Nat) (w:World):KB g w w:=⟨rfl,rfl,rfl,K8 _,fun _ _ _=>rfl⟩
theorem KB.trans {g:Nat} {a b c:World} (h:KB g a b) (h2:KB g b c):KB g a c:=
 ⟨h2.os.trans h.os,h2.tape.trans h.tape,h2.output.trans h.output,Y0 h.size h2.size,fun k e d=>(h2.block k (X2 e h.size) d).trans (h.block k e d)⟩
theorem KB.of_below {g:Nat} {a b:World} (h:Below a.heap.size a b):KB g a b:=⟨h.os,h.tape,h.output,h.size,fun k c _=>h.block k c⟩
theorem KB.of1 {g:Nat} {a b:World} (h:Kept1 g a b):KB g a b:=⟨h.os,h.tape,h.output,R2 h.size.symm,fun k _ c=>h.block k c⟩
theorem KB.alloc {g:Nat} {a b:World} (h:KB g a b) (o:Obj):KB g a (b.alloc o):=h.trans (KB.of_below ((W8 _ _).alloc (K8 _) o))
theorem KB.drewN {g:Nat} {a b:World} (h:KB g a b) (n:Nat):KB g a (b.drewN n):=h.trans ⟨rfl,rfl,rfl,K8 _,fun _ _ _=>rfl⟩
theorem KB.set {g:Nat} {a b:World} (h:KB g a b) (i:Nat) (u:Value):KB g a (b.setCell ⟨g,i,none⟩ u):=h.trans (KB.of1 (Kept1.set i u))
theorem KB.blk {g k:Nat} {a b:World} {t:TypeId} {cs:Array Value} (h:KB g a b) (hb:Blk a k t cs) (hk:k≠g):Blk b k t cs:=(h.block k hb.lt hk).trans hb
theorem KB.below {g B:Nat} {a b:World} (h:KB g a b) (hB:B<=g) (hs:B<=a.heap.size):Below B a b:=⟨h.os,h.tape,h.output,h.size,fun k hk=>h.block k (by omega) (by omega)⟩
structure WB (B:Nat) (w0:World) where
 w:World
 h:Below B w0 w
instance WB.inst (B:Nat) (w0:World):Nonempty (WB B w0):=⟨⟨w0,W8 _ _⟩⟩
theorem zac {P:Program} {id:Nat} {Q:Exit->Act->World->Prop} {a:Act} {w:World} {l:List Oper} (B:Nat) (w0:World) (hm:P.follows .mixedOrders=true) (hB:Region.lexB .any l.toArray=true) (h0:Below B w0 w)
 (h:wpQuiet P l.toArray (fun W=>∃x:WB B w0,W=x.w) (fun a'=>∀W,(∃x:WB B w0,W=x.w)->Q .normal a' W) l a):(Code.region id l.toArray true).wp P Q a w:=
 wp_region_quiet (C:=fun W=>∃x:WB B w0,W=x.w) hm hB ⟨⟨_,below_drewN h0 1⟩,rfl⟩ (by simpa using h)
theorem Calls.grow {P:Program} {f:FuncId} {args:Array Value} {B:Nat} {w0:World} {x:WB B w0} {v:Value} (h:Calls P f args x.w fun e w'=>e=.returned v/\Below B w0 w'):
 Calls P f args x.w fun e w''=>e=.returned v/\∃y:WB B w0,w''=y.w:=h.mono fun _ _ ⟨a,b⟩=>⟨a,⟨_,b⟩,rfl⟩
section
variable {P:Program} {ops:Array Oper} {md:Region.Mode} {C:World->Prop}
def wpAnyLQ (P:Program) (md:Region.Mode) (ops:Array Oper) (C:World->Prop) (n:Nat) (L:Array Bool->Act->Prop):Nat->Array Bool->Act->Prop
 | 0,listed,a=>L listed a
 |f+1,listed,a=>Region.ready md ops listed≠[]/\∀i∈Region.ready md ops listed,i<n/\qOp P ops C i (wpAnyLQ P md ops C n L f (listed.setIfInBounds i true)) a
theorem zc3 {n g:Nat} {L:Array Bool->Act->Prop} {Q':Exit->Act->World->Prop} (hL:∀listed a w,C w->L listed a->wpAny P md ops Q' g listed a w):
 ∀(f:Nat) (listed:Array Bool) (a:Act) (w:World),C w->wpAnyLQ P md ops C n L f listed a->wpAny P md ops Q' (f+g) listed a w
 | 0,listed,a,w,hC,h=>by rw[U8];exact hL _ _ _ hC h
 |f+1,listed,a,w,hC,h=>by
  rw[show f+1+g=(f+g)+1 by omega];exact⟨fun j=>absurd j h.1,fun i d=>wpOp_of_qOp hC (fun c k b e=>zc3 hL f _ c k b e) (h.2 i d).2⟩
theorem zg6 {n i:Nat} {oi:Oper} {v:Value} {L:Array Bool->Act->Prop} (hi:ops[i]? =some oi) (hsel:∀(j:Nat) (o:Oper) cs b,ops[j]? =some o->o.op≠.select cs b)
 (hs:Region.sinkB md ops n=true) (hc:Region.chainB md ops n=true) (hn:n<ops.size) (hin:i<n)
 (hdone:∀listed a,L listed a->∀j∈Region.ready md ops listed,n<=j):
 ∀(f:Nat) (listed:Array Bool) (a:Act),HeadInv md ops n listed->
  (∀j oj,ops[j]? =some oj->j≠i->listed.getD j true=false->(∀e∈oj.after,Region.binds md e=true->e.on≠i)->oi.apart ops oj=true)->
  i∈Region.ready md ops listed->YieldsIn P ops C oi v a->
  wpAnyLQ P md ops C n L f (listed.setIfInBounds i true) (a.put oi.dst v)->wpAnyLQ P md ops C n L (f+1) listed a:=by
 intro f
 induction f with
 |zero=>
  intro listed a l _ p u H;have c:=(mem_ready.1 p).1;refine⟨fun h=>(by rw[h]at p;cases p),fun j s=>?_⟩;have g:j<n:=by
   rcases V6 j n with h|h
   .exact h
   .exact absurd s (tail_waits hs hc hn l _ i rfl hin c j h)
  refine⟨g,?_⟩;by_cases hji:j=i
  .subst hji;exact u.qOp hi H
  .have:=hdone _ _ H j (ready_mono s hji);omega
 |succ f ih=>
  intro listed a l d p u H;have c:=(mem_ready.1 p).1;refine⟨fun h=>(by rw[h]at p;cases p),fun j s=>?_⟩;have g:j<n:=by
   rcases V6 j n with h|h
   .exact h
   .exact absurd s (tail_waits hs hc hn l _ i rfl hin c j h)
  refine⟨g,?_⟩;by_cases hji:j=i
  .subst hji;exact u.qOp hi H
  .have D:=(H.2 j (ready_mono s hji)).2;obtain⟨q,oj,r,hall⟩:=mem_ready.1 s;have t:∀e∈oj.after,Region.binds md e=true->e.on≠i:=fun e he hb heq=>by
    grind
   have z:=qOp_put r (d j oj r hji q t) (fun cs b=>hsel i oi cs b hi) (fun cs b=>hsel j oj cs b r) u D;have m:∀k ok,ops[k]? =some ok->k≠i->(listed.setIfInBounds j true).getD k true=false->
    (∀e∈ok.after,Region.binds md e=true->e.on≠i)->oi.apart ops ok=true:=fun k ok B x c w=>by
    refine d k ok B x ?_ w;by_cases hjk:j=k
    .subst hjk;exact q
    .rw[getD_set_ne true hjk]at c;exact c
   refine qOp_mono (fun A y=>ih (listed.setIfInBounds j true) A (l.set s g) m (ready_mono p (Ne.symm hji)) y.1 ?_) z;rw[Array.setIfInBounds_comm _ _ hji];exact y.2
theorem zfb {n g:Nat} {Lq:Act->Prop} (hsel:Region.noSelect ops=true) (hs:Region.sinkB md ops n=true) (hc:Region.chainB md ops n=true) (hn:n<ops.size):
 ∀(l:List Oper) (k:Nat) (listed:Array Bool) (a:Act),(∀j,j<l.length->l[j]? =ops[k+j]?)->k+l.length=n->HeadInv md ops n listed->
 Region.lexHead md ops g l.length k listed=true->wpQuiet P ops C Lq l a->
 wpAnyLQ P md ops C n (fun listed' a'=>Region.seqB md ops g n listed'=true/\Lq a') l.length listed a
 | [],k,listed,a,_,hk,_,hB,h=>by
  have:k=n:=by simpa using hk
  subst this;exact⟨by simpa[Region.lexHead]using hB,h⟩
 |o::l,k,listed,a,hl,hk,inv,hB,h=>by
  have d:ops[k]? =some o:=by simpa using(hl 0 (by simp)).symm
  simp only[K9,Region.lexHead,K6]at hB;obtain⟨⟨p,q⟩,f⟩:=hB;have c:k<n:=by simp only[K9]at hk;omega
  have b:k∈Region.ready md ops listed:=by simpa using p
  have e:qOp P ops C k (wpQuiet P ops C Lq l) a:=by unfold qOp;simp only[d];exact h
  obtain⟨v,r,i⟩:=yieldsIn_of_qOp d e;exact zg6 d (Region.noSelect_spec hsel) hs hc hn c (fun listed' a' m=>seqB_ready m.1) l.length listed a inv (Region.free_spec d q) b r
   (zfb hsel hs hc hn l (k+1) _ _ (fun j hj=>by have:=hl (j+1) (by simp;omega);simpa[D0,D4 1 j]using this) (by simp only[K9]at hk;omega) (inv.set b c) f i)
theorem zc2 {id:Nat} {Q:Exit->Act->World->Prop} {a:Act} {w:World} {l:List Oper} (n:Nat) (hm:P.follows .mixedOrders=true) (hB:Region.lexTailB .any l.toArray n=true) (hC:C {w with drawn:=w.drawn+1})
 (h:wpQuiet P l.toArray C (fun a'=>∀W,C W->wpList P l.toArray Q (l.drop n) a' W) (l.take n) a):(Code.region id l.toArray true).wp P Q a w:=by
 simp only[Region.lexTailB,K6,qqv]at hB;obtain⟨⟨⟨⟨e,s⟩,x⟩,u⟩,f⟩:=hB;have hn':n<l.length:=by simpa using s
 have c:(l.take n).length=n:=by simp;omega
 have d:(l.drop n).length=l.toArray.size-n:=by simp
 have i:HeadInv .any l.toArray n (J9 l.toArray.size false):=
  ⟨by simp,fun j oj _ o=>(by rw[getD_replicate_false]at o;cases o),fun t _ v=>getD_in (by simpa using v) (getD_replicate_false _ _)⟩
 have H:=zfb (md:=.any) (g:=l.toArray.size-n) e x u s (l.take n) 0 _ a (fun j r=>by
  have m:j<n:=by rw[c]at r;exact r
  simp[m]) (by simpa using c) i (by rw[c];exact f) h
 refine wp_region_any hm ?_;have:=zc3 (Q':=Q) (g:=l.toArray.size-n) (fun b a' q k p=>by
  have:=wpAny_of_seq (md:=.any) (Q':=Q) (l.drop n) n b a' q (fun j=>by simp[D1]) (by rw[d];exact p.1) (p.2 q k);rwa[d]at this) _ _ _ _ hC H
 rw[c,show n+(l.toArray.size-n)=l.toArray.size by omega]at this;exact this
end
theorem zbw {P:Program} {id:Nat} {Q:Exit->Act->World->Prop} {a:Act} {w:World} {l:List Oper} (n:Nat) (B:Nat) (w0:World) (hm:P.follows .mixedOrders=true) (hB:Region.lexTailB .any l.toArray n=true) (h0:Below B w0 w)
 (h:wpQuiet P l.toArray (fun W=>∃x:WB B w0,W=x.w) (fun a'=>∀W,(∃x:WB B w0,W=x.w)->wpList P l.toArray Q (l.drop n) a' W) (l.take n) a):(Code.region id l.toArray true).wp P Q a w:=
 zc2 (C:=fun W=>∃x:WB B w0,W=x.w) n hm hB ⟨⟨_,below_drewN h0 1⟩,rfl⟩ h
def byteL:Lay UInt8:={enc:=fun x=>[.int .u8 (x.toNat:Int)],sz:=1,len:=fun _=>rfl,one:=fun x u hu=>by simp at hu;subst hu;rfl,pos:=by omega}
theorem byteT:SliceT prog byteL 80 5 1:=zb3 byteL 80 5 (.int .u8 0) 1 underlying80 (by kernel_rfl) rfl (by omega)
theorem zyk {w:World} {B:Nat} {A:Option Addr} {l:List UInt8} {k:Nat} (h:RowAt byteL w B A l) (hk:k<l.length):∃ad,A=some ad/\ad.block<B/\w.cell? (ad.add k)=some (.int .u8 (l[k].toNat:Int)):=by
 obtain⟨ad,a,c,b,_⟩:=h.get hk;refine⟨ad,a,c,?_⟩;have:=b (.int .u8 (l[k].toNat:Int)) rfl;rwa[show k*byteL.sz=k from F9 k]at this
theorem zim (a:Option Addr) (n c m:Nat) (hm:m<=c) (w:World):(Instr.slice 80 (.slice a n c) none (some (.int .i64 (m:Int))) none).run prog w=.ok (.slice a m c) w:=by
 obtain⟨d,z,b,hz0,hz1,hz2,hz3⟩:=byteT.info;rw[run_slice_h (P:=prog) 80 5 d underlying80 b a n c m hm w];split
 .rfl
 .cases a<;>simp[Addr.add]
theorem zaz (s:Gr.Str) (k:Nat) (hk:k<s.length) (c d:UInt8) (n:Int) (hn:(d.toNat:Int)=n) (h:s[k]=c) (e:c=d):(((⟨s.toArray⟩:ByteArray)[k]'(by simpa[ByteArray.size]using hk)).toNat:Int)=n:=by
 have:(⟨s.toArray⟩:ByteArray)[k]'(by simpa[ByteArray.size]using hk)=s[k]:=rfl;rw[this,h,e,hn]
theorem zao (s:Gr.Str) (k:Nat) (hk:k<s.length) (c d:UInt8) (n:Int) (hn:(d.toNat:Int)=n) (h:s[k]=c) (e:c≠d):¬(((⟨s.toArray⟩:ByteArray)[k]'(by simpa[ByteArray.size]using hk)).toNat:Int)=n:=by
 have:(⟨s.toArray⟩:ByteArray)[k]'(by simpa[ByteArray.size]using hk)=s[k]:=rfl;rw[this,h,<-hn];exact fun he=>e (UInt8.toNat_inj.1 (by omega))
theorem zaq (s:Gr.Str) (k:Nat) (hk:k<s.length) (c d:UInt8) (n:Int) (hn:(d.toNat:Int)=n) (h:s[k]=c) (e:c=d):((((⟨s.toArray⟩:ByteArray)[k]'(by simpa[ByteArray.size]using hk)).toNat:Int)==n)=true:=by
 simpa using zaz s k hk c d n hn h e
theorem zar (s:Gr.Str) (k:Nat) (hk:k<s.length) (c d:UInt8) (n:Int) (hn:(d.toNat:Int)=n) (h:s[k]=c) (e:c≠d):((((⟨s.toArray⟩:ByteArray)[k]'(by simpa[ByteArray.size]using hk)).toNat:Int)==n)=false:=by
 simpa using zao s k hk c d n hn h e
def ucells (l:List UInt8):Array Value:=(l.map (fun(c:UInt8)=>Value.int .u8 (c.toNat:Int))).toArray
theorem zd1 (l:List UInt8) (i:Nat) (x:UInt8):(ucells l).setIfInBounds i (.int .u8 (x.toNat:Int))=ucells (l.set i x):=by
 simp[ucells,E9]
theorem zat (l:List UInt8):(ucells l).toList=byteL.all l:=by
 induction l with
 |nil=>rfl
 |cons x l ih=>
  have a:(ucells (x::l)).toList=.int .u8 (x.toNat:Int)::(ucells l).toList:=by simp[ucells]
  have b:byteL.all (x::l)=.int .u8 (x.toNat:Int)::byteL.all l:=rfl;rw[a,b,ih]
theorem infoByte:(prog.info? 5).map (fun i=>(i.zero,i.size,i.bytes))=some (some (.int .u8 0),1,1):=by kernel_rfl
theorem zcw (n:Nat) (hn:n<=1073741824) (W:World):(Instr.makeSlice 80 (.int .i64 (n:Int)) (.int .i64 (n:Int))).run prog W=.ok (.slice (some ⟨W.heap.size,0,none⟩) n n) (W.alloc (.cells (ucells (K4 n 0)) 5)):=by
 obtain⟨e,b,c,d,a⟩:=info_parts infoByte;have:=zbm (P:=prog) 80 5 e _ underlying80 b c .i64 .i64 n n (K8 _) (by rw[a];omega) (by omega) W;rw[d]at this;simp only[Value.cells,zbn]at this;rw[this];simp[ucells]
theorem RowAt.ofBlk {α:Type} {L:Lay α} {w:World} {g B:Nat} {t:TypeId} {cs:Array Value} {l:List α} (hb:Blk w g t cs) (hc:cs.toList=L.all l) (hg:g<B):RowAt L w B (some ⟨g,0,none⟩) l:=by
 refine⟨L.all_len l,fun _=>⟨_,rfl,hg,fun j u a=>?_⟩⟩;have e:(⟨g,0,none⟩:Addr).add j=⟨g,j,none⟩:=by unfold Addr.add;split<;>simp_all
 rw[e,hb.cell,<-a,<-hc];simp
open Gr
open _root_.Go.Lib (hid)
set_option maxRecDepth 100000
set_option maxHeartbeats 16000000
theorem zaj (l:List Nat) (k:Nat) (h:k<l.length):l.take (k+1)=l.take k++[l[k]]:=Q7 h
structure RV (w:World) (mb bm bg bv:Nat) (A:Option Addr) (c:Nat) (root:Int) (vs:List NV) (ns:List Gr.Nd) (B:Nat):Prop where
 m:Blk w bm 44 #[.slice (some ⟨mb,0,none⟩) ns.length ns.length]
 g:Blk w bg 24 #[.slice A ns.length c,.int .i64 root]
 v:Blk w bv 70 #[.func (.func 48) #[] #[.pointer (some ⟨bm,0,none⟩),.pointer (some ⟨bg,0,none⟩),.pointer (some ⟨bv,0,none⟩)]]
 at_:GAt w B A vs ns
 low:B<=mb
theorem RV.kept {w w':World} {mb bm bg bv:Nat} {A:Option Addr} {c:Nat} {root:Int} {vs:List NV} {ns:List Gr.Nd} {B:Nat} (h:RV w mb bm bg bv A c root vs ns B) {cs:Array Value} (hm:Blk w mb 4 cs) (hk:Kept1 mb w w'):RV w' mb bm bg bv A c root vs ns B:=
 ⟨hk.blk h.m (h.m.ne_ hm (by decide)),hk.blk h.g (h.g.ne_ hm (by decide)),hk.blk h.v (h.v.ne_ hm (by decide)),h.at_.below (hk.below h.low),h.low⟩
theorem zej (mb bm bg bv n:Nat) (m:List Bool) (a:Nat) (w:World) (h:Blk w bm 44 #[.slice (some ⟨mb,0,none⟩) n n]) (hm:Blk w mb 4 (bcells m)) (hml:m.length=n) (ha:a<n) (_hl:n<=1073741823) (hmk:m.getD a false=true):
 Calls prog 48 #[.int .i64 a,.pointer (some ⟨bm,0,none⟩),.pointer (some ⟨bg,0,none⟩),.pointer (some ⟨bv,0,none⟩)] w fun e w'=>e=.returned (.tuple #[])/\w'=w:=by
 have c1:w.cell? ⟨mb,a,none⟩=some (.bool true):=by rw[hm.cell,zae (by omega),hmk]
 have c2:w.cell? ⟨bm,0,none⟩=some (.slice (some ⟨mb,0,none⟩) n n):=h.cell 0;have haI:(a:Int)<(n:Int):=by omega
 clear hm h hmk;go_enter func48,ntmps48;go_wp2_with fail;refine S0 (v:=.tuple #[]) (by simp[results,results48,go_sem]) rfl ?_;exact⟨rfl,rfl⟩
theorem zox (mb bm bg bv:Nat) (A:Option Addr) (c:Nat) (root:Int) (vs:List NV) (ns:List Gr.Nd) (B:Nat) (hr:Refs ns) (hl:ns.length<=1073741823) (hks:∀n∈ns,n.keys.length<=1073741823/\n.items.length<=1073741823):
 ∀(f:Nat) (m:List Bool) (a:Nat) (w:World),RV w mb bm bg bv A c root vs ns B->Blk w mb 4 (bcells m)->m.length=ns.length->a<ns.length->unm ns.length m<=f->
 Calls prog 48 #[.int .i64 a,.pointer (some ⟨bm,0,none⟩),.pointer (some ⟨bg,0,none⟩),.pointer (some ⟨bv,0,none⟩)] w fun e w'=>e=.returned (.tuple #[])/\Kept1 mb w w'/\Blk w' mb 4 (bcells (dvisit (Gr.succ ns) f m a)):=by
 intro f
 induction f with
 |zero=>
  intro m a w h E q I hu;have b:m.getD a false=true:=by
   cases e:m.getD a false with
   |true=>rfl
   |false=>have:=zg1 q I e;omega
  refine(zej mb bm bg bv ns.length m a w h.m E q I hl b).mono ?_;rintro e w' ⟨rfl,rfl⟩;exact⟨rfl,Kept1.refl _ _,E⟩
 |succ f ih=>
  intro m a w h E q I hu;by_cases b:m.getD a false=true
  .refine(zej mb bm bg bv ns.length m a w h.m E q I hl b).mono ?_;rintro e w' ⟨rfl,rfl⟩;refine⟨rfl,Kept1.refl _ _,?_⟩;unfold dvisit;rw[if_pos b];exact E
  .have M:m.getD a false=false:=by simpa using b
   have K:dvisit (Gr.succ ns) (f+1) m a=((ns[a]).keys++(ns[a]).items).foldl (dvisit (Gr.succ ns) f) (m.set a true):=by
    conv=>lhs;unfold dvisit
    rw[if_neg b];unfold Gr.succ;rw[K0 I]
   rw[K];obtain⟨n,hn⟩:=ex (ns[a])
   have T:n∈ns:=hn▸Q0 I;obtain⟨hkl,hil⟩:=hks n T;have U:∀x∈n.keys,x<ns.length:=fun x p=>hr n T x (X8 _ p)
   have ab:∀x∈n.items,x<ns.length:=fun x p=>hr n T x (W1 _ p)
   obtain⟨t,D⟩:=ex (m.set a true)
   have P:unm ns.length t<=f:=by have:=zg1 q I M;rw[D]at this;omega
   have ai:t.length=ns.length:=by rw[<-D];simp[q]
   have HF:Hid (∀L:List Nat,(∀x∈L,x<ns.length)->(L.foldl (dvisit (Gr.succ ns) f) t).length=ns.length/\unm ns.length (L.foldl (dvisit (Gr.succ ns) f) t)<=f):=hid (fun L hL=>by
    have:=ze3 (zbu hr.succ f) L t hL ai P;exact⟨this.len,Y0 (zvl this.keep) P⟩)
   have c1:w.cell? ⟨mb,a,none⟩=some (.bool false):=by rw[E.cell,zae (by omega),M]
   have c2:w.cell? ⟨bm,0,none⟩=some (.slice (some ⟨mb,0,none⟩) ns.length ns.length):=h.m.cell 0;have pf:∀i,w.frozen? ⟨mb,i,none⟩=false:=E.frozen;have haI:(a:Int)<(ns.length:Int):=by omega
   have HN:=hid hn;have HM:=hid E;have H:=hid h;have Y:=hid D;have IH:=hid ih;clear E h b hu K hn D ih P M;go_enter func48,ntmps48;go_upto_region 2 with fail;obtain⟨u,F⟩:=ex (w.setCell ⟨mb,a,none⟩ (.bool true))
   have X:Blk u mb 4 (bcells t):=by rw[<-F,<-Y.out,<-zb4];exact HM.out.set_ a _
   have N:Kept1 mb w u:=by rw[<-F];exact Kept1.set a _
   have h1:=H.out.kept HM.out N;rw[F];obtain⟨S,k,i,rfl,G⟩:=h1.at_.node I;obtain⟨ka,kn,kc⟩:=k;obtain⟨ia,ag,ic⟩:=i;rw[HN.out]at G;obtain rfl:kn=n.keys.length:=G.kn;obtain rfl:ag=n.items.length:=G.inn;have x3:=G.c3;have g0:u.cell? ⟨bg,0,none⟩=some (.slice (some S) ns.length c):=h1.g.cell 0;have af:=hid N;have Q:=hid X;have H1:=hid h1;have ae:Hid (RowAt intL u B ka n.keys):=hid G.keys;have R:Hid (u.cell? {block:=(S.add (a*5)).block,off:=(S.add (a*5)).off+4}=some (.slice ia n.items.length ic)/\RowAt intL u B ia n.items/\(S.add (a*5)).block<B):=hid ⟨G.c4,G.items,G.lt⟩;clear F c1 c2 pf G h1 N X;go_upto_region 3 with fail;clear x3 g0;go_loopw [23] (fun s23 wr=>∃k:Nat,k<=n.keys.length/\s23=.int .i64 k/\Hid (Kept1 mb u wr/\Blk wr mb 4 (bcells ((n.keys.take k).foldl (dvisit (Gr.succ ns) f) t)))) (fun s23 _=>n.keys.length-(intOf s23).toNat)
   case atStart=>exact⟨0,by omega,rfl,hid ⟨Kept1.refl _ _,by simpa using Q.out⟩⟩
   case round=>
    obtain⟨k,hk,rfl,j⟩:=hrel;have o:=H1.out.kept Q.out j.out.1;by_cases hlt:k<n.keys.length
    .have l:(k:Int)<(n.keys.length:Int):=by omega
     obtain⟨x,p⟩:=ex (n.keys[k])
     obtain⟨ac,rfl,_,y0⟩:=zaf (ae.out.below (j.out.1.below o.low)) hlt;rw[p]at y0;have s:x∈n.keys:=p▸Q0 hlt;have d:=HF.out (n.keys.take k) (fun y Z=>U y (F5 Z));have v0:wr.cell? ⟨bv,0,none⟩=some (.func (.func 48) #[] #[.pointer (some ⟨bm,0,none⟩),.pointer (some ⟨bg,0,none⟩),.pointer (some ⟨bv,0,none⟩)]):=o.v.cell 0;have HC:=hid (IH.out _ x wr o j.out.2 d.1 (U x s) d.2);have HT:Hid ((n.keys.take (k+1)).foldl (dvisit (Gr.succ ns) f) t=dvisit (Gr.succ ns) f ((n.keys.take k).foldl (dvisit (Gr.succ ns) f) t) x):=hid (by rw[zaj _ _ hlt,Q8,p];rfl);clear o s d p;go_wp2_with fail;refine HC.out.mono ?_;rintro e w5 ⟨rfl,z,r⟩;have O:Hid (Kept1 mb u w5/\Blk w5 mb 4 (bcells ((n.keys.take (k+1)).foldl (dvisit (Gr.succ ns) f) t))):=hid ⟨j.out.1.trans z,by rw[HT.out];exact r⟩;clear z r;go_wp2;go_roundw
     case rel=>exact⟨k+1,by omega,by go_num,O⟩
     case measure=>simp[intOf];omega
    .have l:¬((k:Int)<(n.keys.length:Int)):=by omega
     have V:k=n.keys.length:=by omega
     obtain⟨J,C⟩:=ex (n.keys.foldl (dvisit (Gr.succ ns) f) t)
     have aa:Hid (Kept1 mb u wr/\Blk wr mb 4 (bcells J)):=hid ⟨j.out.1,by have:=j.out.2;rw[V,J3,C]at this;exact this⟩;have ah:Hid (∀L:List Nat,(∀x∈L,x<ns.length)->(L.foldl (dvisit (Gr.succ ns) f) J).length=ns.length/\unm ns.length (L.foldl (dvisit (Gr.succ ns) f) J)<=f):=hid (fun L hL=>by
      have:=HF.out (n.keys++L) (fun y Z=>(K3.1 Z).elim (U y) (hL y));rwa[Q8,C]at this)
     have HR:Hid (n.items.foldl (dvisit (Gr.succ ns) f) (n.keys.foldl (dvisit (Gr.succ ns) f) (m.set a true))=n.items.foldl (dvisit (Gr.succ ns) f) J):=hid (by rw[Y.out,C]);have g0:wr.cell? ⟨bg,0,none⟩=some (.slice (some S) ns.length c):=o.g.cell 0;have x4:wr.cell? {block:=(S.add (a*5)).block,off:=(S.add (a*5)).off+4}=some (.slice ia n.items.length ic):=by
      rw[(j.out.1.below o.low).cell (by exact R.out.2.2)];exact R.out.1
     clear o V C j hk;go_upto_region 8 with fail;clear g0 x4;go_loopw [38] (fun s38 wr=>∃k:Nat,k<=n.items.length/\s38=.int .i64 k/\Hid (Kept1 mb u wr/\Blk wr mb 4 (bcells ((n.items.take k).foldl (dvisit (Gr.succ ns) f) J)))) (fun s38 _=>n.items.length-(intOf s38).toNat)
     case atStart=>exact⟨0,by omega,rfl,hid ⟨aa.out.1,by simpa using aa.out.2⟩⟩
     case round=>
      clear l hlt;obtain⟨k,hk,rfl,j⟩:=hrel;have o:=H1.out.kept Q.out j.out.1;by_cases hlt:k<n.items.length
      .have l:(k:Int)<(n.items.length:Int):=by omega
       obtain⟨x,p⟩:=ex (n.items[k])
       obtain⟨ac,rfl,_,y0⟩:=zaf (R.out.2.1.below (j.out.1.below o.low)) hlt;rw[p]at y0;have s:x∈n.items:=p▸Q0 hlt;have d:=ah.out (n.items.take k) (fun y Z=>ab y (F5 Z));have v0:wr.cell? ⟨bv,0,none⟩=some (.func (.func 48) #[] #[.pointer (some ⟨bm,0,none⟩),.pointer (some ⟨bg,0,none⟩),.pointer (some ⟨bv,0,none⟩)]):=o.v.cell 0;have HC:=hid (IH.out _ x wr o j.out.2 d.1 (ab x s) d.2);have HT:Hid ((n.items.take (k+1)).foldl (dvisit (Gr.succ ns) f) J=dvisit (Gr.succ ns) f ((n.items.take k).foldl (dvisit (Gr.succ ns) f) J) x):=hid (by rw[zaj _ _ hlt,Q8,p];rfl);clear o s d p;go_wp2_with fail;refine HC.out.mono ?_;rintro e w5 ⟨rfl,z,r⟩;have O:Hid (Kept1 mb u w5/\Blk w5 mb 4 (bcells ((n.items.take (k+1)).foldl (dvisit (Gr.succ ns) f) J))):=hid ⟨j.out.1.trans z,by rw[HT.out];exact r⟩;clear z r;go_wp2;go_roundw
       case rel=>exact⟨k+1,by omega,by go_num,O⟩
       case measure=>simp[intOf];omega
      .have l:¬((k:Int)<(n.items.length:Int)):=by omega
       have W:Hid (Kept1 mb w wr/\Blk wr mb 4 (bcells (n.items.foldl (dvisit (Gr.succ ns) f) (n.keys.foldl (dvisit (Gr.succ ns) f) (m.set a true))))):=hid ⟨af.out.trans j.out.1,by
        have:=j.out.2;rw[show k=n.items.length from by omega,J3]at this;rw[HR.out];exact this⟩
       clear o;go_wp2_with fail;go_end0;rw[HN.out];exact⟨rfl,W.out⟩
end Go.Proofs.YtpgmfihonmoliabGreatDoor
namespace Go.Proofs
open _root_.Go.Proofs.Tryz
set_option maxRecDepth 100000
set_option maxHeartbeats 16000000
open Go.Shelf
theorem fx {α:Type _} {a:Option α} {b c:α} (h:a=some b) (e:b=c):a=some c:=h.trans (congrArg some e)
def Tryz.lays162_ren:Go.Shelf.Ren:=⟨fun| 162=>118| 232=>147| 227=>148| 234=>149| 236=>150| 228=>176| 271=>177| 151=>178| 120=>199| 197=>57| 152=>200| 260=>85| 137=>69| 119=>207| 224=>164| 225=>163| 217=>97| 266=>127|n=>n,fun| 9=>9| 4=>4| 3=>3| 5=>5| 117=>187| 116=>186| 0=>0| 124=>190| 21=>21| 105=>92| 46=>150| 119=>149| 139=>153| 138=>152|n=>n,fun| 3=>1| 4=>2|n=>n⟩
theorem Tryz.lays162:Go.Proofs.Lays.n162 prog lays162_ren:=by repeat' (first|kernel_rfl| (intro w;kernel_rfl)|constructor|decide)
open Go.RowKit in
theorem Tryz.strings_TrimRight_one (s:ByteArray) (c:UInt8) (hc:c.toNat<128) (w:World) (hs:s.size<=9223372036854775807):
 Calls prog 118 #[.string s,.string ⟨#[c]⟩] w fun e w'=>e=.returned (.string ⟨(Lib.trimRightB s.data.toList c).toArray⟩)/\w'=w:=Any.strings_TrimRight_one lays162 s c hc w hs
def Tryz.lays137_ren:Go.Shelf.Ren:=⟨fun| 137=>69| 217=>97| 266=>127|n=>n,fun| 9=>9| 5=>5| 3=>3|n=>n,fun|n=>n⟩
theorem Tryz.lays137:Go.Proofs.Lays.n137 prog lays137_ren:=by repeat' (first|kernel_rfl| (intro w;kernel_rfl)|constructor|decide)
open Go.RowKit in
theorem Tryz.strings_IndexByte (s:ByteArray) (c:Int) (w:World):
 Calls prog 69 #[.string s,.int .u8 c] w fun e w'=>e=.returned (.int .i64 (Lib.indexByte s.data.toList c.toNat.toUInt8))/\w'=w:=Any.strings_IndexByte lays137 s c w
def Tryz.lays103_ren:Go.Shelf.Ren:=⟨fun| 103=>76| 210=>103| 206=>133|n=>n,fun| 9=>9| 4=>4| 24=>113| 3=>3|n=>n,fun|n=>n⟩
theorem Tryz.lays103:Go.Proofs.Lays.n103 prog lays103_ren:=by repeat' (first|kernel_rfl| (intro w;kernel_rfl)|constructor|decide)
open Go.RowKit in
theorem Tryz.strings_CutPrefix (s p:ByteArray) (w:World):
 Calls prog 76 #[.string s,.string p] w fun e w'=>e=.returned (.tuple #[.string ⟨(L5 s.data.toList p.data.toList).toArray⟩,.bool (Lib.hasPrefix s.data.toList p.data.toList)])/\w'=w:=Any.strings_CutPrefix lays103 s p w
def Tryz.lays129_ren:Go.Shelf.Ren:=⟨fun| 129=>107|n=>n,fun| 53=>119| 3=>3| 4=>4| 46=>150| 5=>5| 9=>9|n=>n,fun|n=>n⟩
theorem Tryz.lays129:Go.Proofs.Lays.n129 prog lays129_ren:=by repeat' (first|kernel_rfl| (intro w;kernel_rfl)|constructor|decide)
theorem Tryz.bits_Len64 (x:Int) (w:World) (h0:0<=x) (h1:x<=18446744073709551615):
 Calls prog 107 #[.int .u64 x] w fun e w'=>e=.returned (.int .i64 (V8 x.toNat))/\w'=w:=Any.bits_Len64 lays129 x w h0 h1
def Tryz.lays283_ren:Go.Shelf.Ren:=⟨fun| 283=>166|n=>n,fun| 3=>3| 9=>9| 4=>4|n=>n,fun|n=>n⟩
theorem Tryz.lays283:Go.Proofs.Lays.n283 prog lays283_ren:=by repeat' (first|kernel_rfl| (intro w;kernel_rfl)|constructor|decide)
open Go.Lib in
theorem Tryz.internal_strconv_small (i:Nat) (h:i<100) (w:World):
 Calls prog 166 #[.int .i64 i] w fun e w'=>e=.returned (.string ⟨(K1 i).toArray⟩)/\w'=w:=Any.internal_strconv_small lays283 i h w
def Tryz.laysM284_ren:Go.Shelf.Ren:=⟨fun| 284=>167| 129=>107| 317=>191| 318=>192|n=>n,fun| 53=>119| 3=>3| 212=>231| 0=>0| 4=>4| 46=>150| 5=>5| 9=>9|n=>n,fun| 17=>7|n=>n⟩
theorem Tryz.laysM284:Go.Proofs.LaysM.n284 prog laysM284_ren:=by repeat' (first|kernel_rfl| (intro w;kernel_rfl)|constructor|decide)
open Go.Lib in
theorem Tryz.internal_strconv_numDigits (u:Nat) (h1:1<=u) (h2:u<18446744073709551616) (w:World) (htab:W7 prog w "internal/strconv.uint64pow10" .u64 F4):
 Calls prog 167 #[.int .u64 u] w fun e w'=>e=.returned (.int .i64 (R6 u))/\w'=w:=Any.internal_strconv_numDigits laysM284 u h1 h2 w htab
def Tryz.lays285_ren:Go.Shelf.Ren:=⟨fun| 285=>168|n=>n,fun| 37=>80| 53=>119| 3=>3| 4=>4| 51=>227| 9=>9| 5=>5| 0=>0|n=>n,fun|n=>n⟩
theorem Tryz.lays285:Go.Proofs.Lays.n285 prog lays285_ren:=by repeat' (first|kernel_rfl| (intro w;kernel_rfl)|constructor|decide)
open Go.RowKit Go.Sort Go.Lib in
theorem Tryz.internal_strconv_formatBase10 (blk off cap:Nat) (u:Nat) (d:Array UInt8) (w:World) (hH:Holds (fun(b:UInt8)=>Value.int .u8 (b.toNat:Int)) w blk off d) (hu:u<10 ^ d.size) (hu64:u<18446744073709551616) (hsz:d.size<4611686018427387904):
 Calls prog 168 #[.slice (some ⟨blk,off,none⟩) d.size cap,.int .u64 u] w fun e w'=>
  e=.returned (.tuple #[])/\∃(n v':Nat) (dk:Array UInt8),w'=(putRow (fun(b:UInt8)=>Value.int .u8 (b.toNat:Int)) w blk off dk).drewN n/\FmtInv d.size u 0 v' dk:=Any.internal_strconv_formatBase10 lays285 blk off cap u d w hH hu hu64 hsz
def Tryz.laysM171_ren:Go.Shelf.Ren:=⟨fun| 171=>102| 243=>136| 246=>162| 283=>166| 284=>167| 285=>168| 286=>169| 129=>107| 317=>191| 318=>192| 319=>193| 320=>194| 337=>204| 338=>143|n=>n,fun| 3=>3| 9=>9| 2=>2| 4=>4| 171=>204| 0=>0| 53=>119| 37=>80| 5=>5| 173=>206| 212=>231| 51=>227| 20=>20| 213=>232| 46=>150| 232=>245| 233=>203|n=>n,fun| 17=>7| 18=>8| 19=>6|n=>n⟩
theorem Tryz.laysM171:Go.Proofs.LaysM.n171 prog laysM171_ren:=by repeat' (first|kernel_rfl| (intro w;kernel_rfl)|constructor|decide)
open Go.RowKit Go.Sort Go.Lib in
theorem Tryz.strconv_Itoa (n:Int) (h0:-9223372036854775808<=n) (h1:n<=9223372036854775807) (w:World) (htab:W7 prog w "internal/strconv.uint64pow10" .u64 F4):
 Calls prog 102 #[.int .i64 n] w fun e w'=>e=.returned (.string ⟨(K5 n).toArray⟩)/\∃k os,w'=grow (w.drewN k) os:=Any.strconv_Itoa laysM171 n h0 h1 w htab
def Tryz.laysC172_ren:Go.Shelf.Ren:=⟨fun| 172=>70| 244=>98| 245=>99| 247=>128| 279=>129| 280=>130| 281=>131| 282=>132| 287=>106| 316=>160| 171=>102| 205=>161| 321=>138| 322=>139| 243=>136| 246=>162| 283=>166| 284=>167| 285=>168| 286=>169| 129=>107| 317=>191| 318=>192| 319=>193| 320=>194| 337=>204| 338=>143|n=>n,fun| 9=>9| 3=>3| 75=>105| 76=>106| 4=>4| 5=>5| 167=>169| 37=>80| 0=>0| 85=>170| 2=>2| 168=>172| 53=>119| 175=>120| 46=>150| 210=>200| 127=>223| 145=>226| 143=>224| 21=>21| 171=>204| 173=>206| 212=>231| 51=>227| 20=>20| 213=>232| 232=>245| 233=>203| 80=>112|n=>n,fun| 15=>4| 16=>5| 17=>7| 18=>8| 19=>6|n=>n⟩
theorem Tryz.laysC172:Go.Proofs.LaysC.n172 prog laysC172_ren:=by repeat' (first|kernel_rfl| (intro w;kernel_rfl)|constructor|decide)
def Tryz.badI:R9 Int:=Z2 []
def Tryz.badN:R9 Nat:=Y8 64 []
open Go.RowKit in
theorem Tryz.strconv_Atoi_ok (s:ByteArray) (hmax:s.size<=9223372036854775806) (v:Int) (h:Z2 s.data.toList=.ok v) (w:World):
 Calls prog 70 #[.string s] w fun e w'=>e=.returned (.tuple #[.int .i64 v,.nilIface])/\(w'=w\/∃t,w'=L6 w 5 t):=Any.strconv_Atoi_ok laysC172 s hmax v h w
open Go.RowKit in
theorem Tryz.strconv_Atoi_syntax (s:ByteArray) (hlim:s.size<=281474976710656) (h:Z2 s.data.toList=badI) (ev:Value) (w:World) (hv:w.cell? ⟨4,0,none⟩=some ev) (hev:ev=.nilIface\/∃te pe,ev=.iface te pe):
 Calls prog 70 #[.string s] w fun e w'=>∃N,e=.returned (.tuple #[.int .i64 (0),.iface 172 (.pointer (some ⟨N,0,none⟩))])/\w.heap.size<=N/\w'.heap[N]? =some (.cells #[.string ⟨#[65,116,111,105]⟩,.string s,ev] 200 (0,0))/\Below w.heap.size w w':=Any.strconv_Atoi_syntax laysC172 s hlim h ev w hv hev
open Go.RowKit in
theorem Tryz.strconv_Atoi_range (s:ByteArray) (hlim:s.size<=281474976710656) (h:Z2 s.data.toList=.range) (ev:Value) (w:World) (hv:w.cell? ⟨5,0,none⟩=some ev) (hev:ev=.nilIface\/∃te pe,ev=.iface te pe):
 Calls prog 70 #[.string s] w fun e w'=>∃N,e=.returned (.tuple #[.int .i64 (Lib.atoiSat s.data.toList),.iface 172 (.pointer (some ⟨N,0,none⟩))])/\w.heap.size<=N/\w'.heap[N]? =some (.cells #[.string ⟨#[65,116,111,105]⟩,.string s,ev] 200 (0,0))/\Below w.heap.size w w':=Any.strconv_Atoi_range laysC172 s hlim h ev w hv hev
def Tryz.laysPu14_ren:Go.Shelf.Ren:=⟨fun| 14=>80| 16=>106| 17=>99| 19=>138| 20=>139| 21=>129| 22=>130| 23=>131| 24=>132| 25=>160| 27=>102| 26=>161| 28=>136| 29=>162| 30=>166| 31=>167| 32=>168| 33=>169| 35=>107| 34=>191| 36=>192| 37=>193| 38=>194| 39=>204| 40=>143|n=>n,fun| 9=>9| 3=>3| 22=>119| 24=>105| 25=>120| 4=>4| 34=>169| 5=>5| 36=>150| 37=>80| 0=>0| 39=>172| 21=>21| 44=>200| 47=>223| 50=>226| 48=>224| 2=>2| 52=>204| 55=>206| 59=>231| 60=>227| 20=>20| 61=>232| 65=>245| 66=>203| 67=>112|n=>n,fun| 0=>4| 1=>5| 2=>7| 3=>8| 4=>6|n=>n⟩
theorem Tryz.laysPu14:Go.Proofs.LaysPu.n14 prog laysPu14_ren:=by repeat' (first|kernel_rfl| (intro w;kernel_rfl)|constructor|decide)
open Go.RowKit in
theorem Tryz.strconv_ParseUint_10_at64_ok (s:ByteArray) (hmax:s.size<=9223372036854775806) (u:Nat) (h:Y8 64 s.data.toList=.ok u) (w:World):
 Calls prog 80 #[.string s,.int .i64 10,.int .i64 64] w fun e w'=>e=.returned (.tuple #[.int .u64 u,.nilIface])/\(w'=w\/w'=L6 w 5 s):=Any.strconv_ParseUint_10_at64_ok laysPu14 s hmax u h w
open Go.RowKit in
theorem Tryz.strconv_ParseUint_10_at64_syntax (s:ByteArray) (hlim:s.size<=281474976710656) (h:Y8 64 s.data.toList=badN) (ev:Value) (w:World) (hv:w.cell? ⟨4,0,none⟩=some ev) (hev:ev=.nilIface\/∃te pe,ev=.iface te pe):
 Calls prog 80 #[.string s,.int .i64 10,.int .i64 64] w fun e w'=>∃N,e=.returned (.tuple #[.int .u64 0,.iface 172 (.pointer (some ⟨N,0,none⟩))])/\w.heap.size<=N/\w'.heap[N]? =some (.cells #[.string ⟨#[80,97,114,115,101,85,105,110,116]⟩,.string s,ev] 200 (0,0))/\Below w.heap.size w w':=Any.strconv_ParseUint_10_at64_syntax laysPu14 s hlim h ev w hv hev
open Go.RowKit in
theorem Tryz.strconv_ParseUint_10_at64_range (s:ByteArray) (hlim:s.size<=281474976710656) (h:Y8 64 s.data.toList=.range) (ev:Value) (w:World) (hv:w.cell? ⟨5,0,none⟩=some ev) (hev:ev=.nilIface\/∃te pe,ev=.iface te pe):
 Calls prog 80 #[.string s,.int .i64 10,.int .i64 64] w fun e w'=>∃N,e=.returned (.tuple #[.int .u64 18446744073709551615,.iface 172 (.pointer (some ⟨N,0,none⟩))])/\w.heap.size<=N/\w'.heap[N]? =some (.cells #[.string ⟨#[80,97,114,115,101,85,105,110,116]⟩,.string s,ev] 200 (0,0))/\Below w.heap.size w w':=Any.strconv_ParseUint_10_at64_range laysPu14 s hlim h ev w hv hev
def Tryz.lays101_ren:Go.Shelf.Ren:=⟨fun| 101=>71| 208=>100| 206=>133|n=>n,fun| 9=>9| 4=>4| 3=>3|n=>n,fun|n=>n⟩
theorem Tryz.lays101:Go.Proofs.Lays.n101 prog lays101_ren:=by repeat' (first|kernel_rfl| (intro w;kernel_rfl)|constructor|decide)
open Go.RowKit Go.Lib in
theorem Tryz.strings_TrimPrefix (s p:ByteArray) (w:World):
 Calls prog 71 #[.string s,.string p] w fun e w'=>e=.returned (.string ⟨(L5 s.data.toList p.data.toList).toArray⟩)/\w'=w:=Any.strings_TrimPrefix lays101 s p w
def Tryz.lays105_ren:Go.Shelf.Ren:=⟨fun| 105=>146| 212=>170| 99=>171| 165=>172| 166=>173| 170=>174| 169=>175| 263=>195| 264=>196| 206=>133| 240=>197| 241=>198| 276=>205| 277=>206|n=>n,fun| 9=>9| 3=>3| 4=>4| 20=>20| 0=>0| 46=>150| 109=>208| 5=>5| 72=>212| 76=>106| 51=>227| 146=>228| 53=>119| 148=>235| 70=>210| 37=>80| 75=>105| 127=>223| 164=>241| 80=>112|n=>n,fun|n=>n⟩
theorem Tryz.lays105:Go.Proofs.Lays.n105 prog lays105_ren:=by repeat' (first|kernel_rfl| (intro w;kernel_rfl)|constructor|decide)
theorem Tryz.Builder_Extra_105:Builder.Extra prog lays105_ren:=by repeat' (first|kernel_rfl| (intro w;kernel_rfl)|constructor|decide)
open Go.RowKit Go.Lib in
theorem Tryz.strings_Repeat (s:ByteArray) (c:Nat) (w:World) (hc:c<=9223372036854775807) (hlen:s.size*c<=140737488355328):
 Calls prog 146 #[.string s,.int .i64 c] w fun e w'=>e=.returned (.string ⟨(Lib.repeatL s.data.toList c).toArray⟩)/\Below w.heap.size w w':=Any.strings_Repeat lays105 Builder_Extra_105 s c w hc hlen
def Tryz.lays197_ren:Go.Shelf.Ren:=⟨fun| 197=>57| 260=>85|n=>n,fun| 9=>9| 21=>21| 3=>3| 4=>4| 5=>5| 105=>92| 119=>149| 0=>0| 46=>150| 139=>153| 138=>152|n=>n,fun| 3=>1| 4=>2|n=>n⟩
theorem Tryz.lays197:Go.Proofs.Lays.n197 prog lays197_ren:=by repeat' (first|kernel_rfl| (intro w;kernel_rfl)|constructor|decide)
open Go.RowKit Go.Lib in
theorem Tryz.utf8_DecodeRuneInString (s:ByteArray) (w:World) (hT:V7 1 2 w):
 Calls prog 57 #[.string s] w fun e w'=>e=.returned (.tuple #[.int .i32 (D6 s).1,.int .i64 (D6 s).2])/\Below w.heap.size w w':=Any.utf8_DecodeRuneInString lays197 s w hT
end Go.Proofs
namespace Go.Proofs.YtpgmfihonmoliabGreatDoor
open _root_.Go.Proofs.Tryz
open _root_.Go.Lib (hid)
set_option maxRecDepth 100000
set_option maxHeartbeats 16000000
namespace Utf
abbrev Str:=List UInt8
def dec (r:Str):Nat×Nat:=
 let b (k:Nat):Nat:=(r.getD k 0).toNat;let cont (k:Nat):Bool:=k<r.length && b k /64==2
 if b 0<0x80 then(b 0,1)
 else if b 0 /32==6 && cont 1 then
  let c:=(b 0%32)*64+b 1%64
  if c>=0x80 then(c,2)else(65533,1)
 else if b 0 /16==14 && cont 1 && cont 2 then
  let c:=(b 0%16)*4096+(b 1%64)*64+b 2%64
  if c>=0x800 && Utf8.valid c then(c,3)else(65533,1)
 else if b 0 /8==30 && cont 1 && cont 2 && cont 3 then
  let c:=(b 0%8)*262144+(b 1%64)*4096+(b 2%64)*64+b 3%64
  if c>=0x10000 && Utf8.valid c then(c,4)else(65533,1)
 else(65533,1)
theorem ztb (s:Str) (j:Nat):((⟨s.toArray⟩:ByteArray).get! j)=s.getD j 0:=by
 show(s.toArray)[j]! =_;rw[List.getElem!_toArray,List.getElem!_eq_getElem?_getD,K2];rfl
theorem zwg (s:Str) (i:Nat):Utf8.decode ⟨s.toArray⟩ i=dec (s.drop i):=by
 have b:∀k,(⟨s.toArray⟩:ByteArray).get! (i+k)=(s.drop i).getD k 0:=by
  intro k;rw[ztb,K2,K2,D1]
 have a:(⟨s.toArray⟩:ByteArray).size=s.length:=by simp[ByteArray.size]
 have c:∀k,decide (i+k<(⟨s.toArray⟩:ByteArray).size)=decide (k<(s.drop i).length):=by
  intro k;rw[a,V0,decide_eq_decide];omega
 unfold Utf8.decode dec;simp only[b,c,Utf8.runeError]
def badU:Nat->Str->Nat->Option Nat
 | 0,_,_=>none
 |n+1,r,i=>match r with
  | []=>none
  |_::_=>if(dec r).1=65533/\(dec r).2=1 then some i else badU n (r.drop (dec r).2) (i+(dec r).2)
def bad (s:Str):Option Nat:=badU s.length s 0
theorem zig (r:Str):1<=(dec r).2/\(dec r).2<=4:=by
 unfold dec;simp only
 repeat' split
 all_goals (constructor<;>simp)
theorem dec_len (r:Str) (h:r≠[]):(dec r).2<=r.length:=by
 have h0:0<r.length:=G1.2 h;unfold dec;simp only
 repeat' split
 all_goals (simp_all<;>omega)
theorem zoy (n m:Nat) (r:Str) (i:Nat) (hn:r.length<=n) (hm:r.length<=m):badU n r i=badU m r i:=by
 induction n generalizing m r i with
 |zero=>
  have:r=[]:=Y3 (by omega);subst this;cases m<;>rfl
 |succ n ih=>
  cases r with
  |nil=>cases m<;>rfl
  |cons c q=>
   cases m with
   |zero=>simp at hm
   |succ m=>
    have hw:=zig (c::q);unfold badU;simp only;split
    .rfl
    .exact ih m _ _ (by simp at hn ⊢;omega) (by simp at hm ⊢;omega)
theorem z0f (r:Str):r≠[]->(dec r).2<=r.length:=fun h=>dec_len r h
def badR (r:Str) (i:Nat):Option Nat:=badU r.length r i
theorem zyh (r:Str) (i d n:Nat) (hr:r≠[]) (h:dec r=(d,n)):badR r i=if d=65533/\n=1 then some i else badR (r.drop n) (i+n):=by
 cases r with
 |nil=>exact absurd rfl hr
 |cons c q=>
  unfold badR;show badU (q.length+1) (c::q) i=_;rw[show badU (q.length+1) (c::q) i=if(dec (c::q)).1=65533/\(dec (c::q)).2=1 then some i else badU q.length ((c::q).drop (dec (c::q)).2) (i+(dec (c::q)).2)from rfl,h];split
  .rfl
  .have a:=(zig (c::q)).1;rw[h]at a;have a:1<=n:=a;refine zoy _ _ _ _ ?_ (K8 _);rw[V0,K9];omega
end Utf
open Go.RowKit
theorem zg2 (s:Utf.Str) (a:Nat):(⟨s.toArray⟩:ByteArray).extract a s.length=⟨(s.drop a).toArray⟩:=by
 rw[zav,U6 (by simp)]
def ckVal (o:Option Nat):Value:=match o with
 |some i=>.tuple #[.int .i64 (i:Nat),.int .i64 11]
 |none=>.tuple #[.int .i64 (-1),.int .i64 0]
theorem zdz {B:Nat} {w w':World} (h:V7 1 2 w) (hb:Below B w w') (hB:3<=B):V7 1 2 w':=
 ⟨fun c b=>(hb.cell (by simp;omega)).trans (h.1 c b),fun i a=>⟨(hb.cell (by simp;omega)).trans (h.2 i a).1,(hb.cell (by simp;omega)).trans (h.2 i a).2⟩⟩
theorem ze5 (s:Utf.Str) (pos d n:Nat) (h:pos<s.length) (hd:Utf.dec (s.drop pos)=(d,n)) (W:World) (hT:V7 1 2 W):
 Calls prog 57 #[.string ((⟨s.toArray⟩:ByteArray).extract pos s.length)] W fun e w'=>e=.returned (.tuple #[.int .i32 d,.int .i64 n])/\Below W.heap.size W w':=by
 have c:(⟨s.toArray⟩:ByteArray).extract pos s.length=⟨(s.drop pos).toArray⟩:=by
  rw[zg2]
 rw[c];refine(utf8_DecodeRuneInString _ W hT).mono ?_;rintro e w' ⟨rfl,b⟩;have a:D6 ⟨(s.drop pos).toArray⟩=(d,n):=by
  unfold D6;rw[if_neg (by simp[ByteArray.size];omega),Utf.zwg,List.drop_zero,hd]
 rw[a];exact⟨rfl,b⟩
theorem zg3 (s:Utf.Str) (hs:s.length<=1073741823) (w:World) (hT:V7 1 2 w) (hw:3<=w.heap.size) (v:Value) (hv:ckVal (Utf.bad s)=v):
 Calls prog 44 #[.string ⟨s.toArray⟩] w fun e w'=>e=.returned v/\Below w.heap.size w w':=by
 have I:=hid hv;have H:=hid hT;clear hv hT;go_enter func44,ntmps44;go_wp2_with fail;go_loopw [10] (fun x wr=>∃pos:Nat,pos<=s.length/\wr.heap[w.heap.size]? =some (.stringIter ⟨s.toArray⟩ pos)/\Below w.heap.size w wr/\Hid (Utf.bad s=Utf.badR (s.drop pos) pos)) (fun _ wr=>s.length-wr.iterPos w.heap.size)
 case atStart=>exact⟨0,by omega,World.iter_heap w _ 0,(W8 _ _).alloc (K8 _) _,hid rfl⟩
 case round=>
  obtain⟨pos,hp,k,D,B⟩:=hrel;have HK:=hid k;have G:=hid D;by_cases hlt:pos<s.length
  .obtain⟨d,n,t⟩:∃d n,Utf.dec (s.drop pos)=(d,n):=⟨_,_,rfl⟩
   have l:s.drop pos≠[]:=by intro e;have:=congrArg List.length e;simp at this;omega
   have p:=Utf.zig (s.drop pos);have g:=Utf.z0f (s.drop pos) l;rw[t]at p g;have b:=Utf.zyh (s.drop pos) pos d n l t;rw[List.drop_drop]at b;have hn1:1<=n:=p.1;have r:pos+n<=s.length:=by have:n<=(s.drop pos).length:=g;simp at this;omega
   have A:∀ty,(Instr.next (.pointer (some ⟨w.heap.size,0,none⟩)) true ty).run prog wr=.ok (.tuple #[.bool true,.int .i64 pos,.int .i32 d]) (wr.iterAt w.heap.size ⟨s.toArray⟩ (pos+n)):=by
    intro ty;rw[Lib.run_next_any_at wr w.heap.size ⟨s.toArray⟩ pos ty k (by simp[ByteArray.size];omega),Utf.zwg,t]
   obtain⟨F,f⟩:=ex (wr.iterAt w.heap.size ⟨s.toArray⟩ (pos+n))
   have j:F.heap[w.heap.size]? =some (.stringIter ⟨s.toArray⟩ (pos+n)):=by rw[<-f];exact Lib.iterAt_heap wr _ _ pos _ k
   have u:Below w.heap.size w F:=by rw[<-f];exact Lib.below_iterAt D (K8 _) _ _
   rw[f]at A;have o:=hid j;have a:=hid u;have h:=hid b;have L:=hid t;have E:w.heap.size<F.heap.size:=(Y5.1 j).1;have hpI:(pos:Int)<=(s.length:Int):=by omega
   have q:Hid (wr.iterPos w.heap.size=pos):=hid (iterPos_of k);clear f j u b t p g l k D;by_cases h65:d=65533
   .have J:(d:Int)=65533:=by omega
    have z:Hid (Utf.dec (s.drop pos)=(65533,n)):=hid (by rw[L.out,h65]);by_cases hn:n=1
    .have m:Hid (ckVal (some pos)=v):=hid (by rw[<-I.out,B.out,h.out,if_pos ⟨h65,hn⟩]);have K:(n:Int)=1:=by omega
     clear h65 hn;go_wp2_with fail;refine(ze5 s pos 65533 n hlt z.out _ (zdz H.out a.out hw)).mono ?_;rintro e C ⟨rfl,c⟩;have i:Hid (Below w.heap.size w C):=hid (a.out.trans (c.mono a.out.size));clear c;go_wp2_with fail;(try refine S0 (v:=.tuple #[.int .i64 pos,.int .i64 11]) (by simp[results,results44,go_sem]) rfl ?_);exact⟨by rw[<-m.out];rfl,i.out⟩
    .have m:Hid (Utf.bad s=Utf.badR (s.drop (pos+n)) (pos+n)):=hid (by rw[B.out,h.out,if_neg (by simp[hn])]);have K:¬((n:Int)=1):=by omega
     have k2b:((n:Int)==1)=false:=by simpa using K
     clear h65 hn;go_wp2_with fail;refine(ze5 s pos 65533 n hlt z.out _ (zdz H.out a.out hw)).mono ?_;rintro e C ⟨rfl,c⟩;have i:Hid (Below w.heap.size w C):=hid (a.out.trans (c.mono a.out.size));have y:Hid (C.heap[w.heap.size]? =some (.stringIter ⟨s.toArray⟩ (pos+n))):=hid ((c.block _ E).trans o.out);clear c;go_wp2;go_roundw
     case rel=>exact⟨pos+n,r,y.out,i.out,m⟩
     case measure=>rw[iterPos_of y.out,q.out];omega
   .have J:¬((d:Int)=65533):=by omega
    have k1b:((d:Int)==65533)=false:=by simpa using J
    have m:Hid (Utf.bad s=Utf.badR (s.drop (pos+n)) (pos+n)):=hid (by rw[B.out,h.out,if_neg (by simp[h65])]);go_wp2;go_roundw
    case rel=>exact⟨pos+n,r,o.out,a.out,m⟩
    case measure=>rw[iterPos_of o.out,q.out];omega
  .have A:∀ty,(Instr.next (.pointer (some ⟨w.heap.size,0,none⟩)) true ty).run prog wr=.ok (.tuple #[.bool false]) wr:=fun ty=>Lib.run_next_end_at wr w.heap.size ⟨s.toArray⟩ pos ty k (by simp[ByteArray.size];omega)
   have m:Hid (ckVal none=v):=hid (by rw[<-I.out,B.out,F0 (by omega)];rfl);clear k D;go_wp2_with fail;(try refine S0 (v:=.tuple #[.int .i64 (-1),.int .i64 0]) (by simp[results,results44,go_sem]) rfl ?_);exact⟨by rw[<-m.out];rfl,G.out⟩
open Go.RowKit
theorem ze6 {w w':World} (hb:Below w.heap.size w w') {a:Addr} {v:Value} (hc:w.cell? a=some v):w'.cell? a=some v:=(hb.cell (E5 w a hc)).trans hc
theorem ztc {P:Program} {n:String} {g:Nat} {k:IntKind} {zs:List Int} {w w':World} (hg:P.globalNamed n=some g) (h:W7 P w n k zs) (hb:Below w.heap.size w w'):W7 P w' n k zs:=by
 unfold W7 World.var? at h ⊢;rw[hg]at h ⊢;simp only[Option.bind_some]at h ⊢;have a:g<w.heap.size:=by
  rcases V6 g w.heap.size with h'|h'
  .exact h'
  .rw[E8 h']at h;cases h
 rw[hb.block g a];exact h
def Stays (T:World->Prop):Prop:=∀w w',T w->Below w.heap.size w w'->T w'
structure UT (w:World):Prop where
 utf:V7 1 2 w
 sz:3<=w.heap.size
 pow:W7 Tryz.prog w "internal/strconv.uint64pow10" .u64 F4
 bru:TabAt 6 Lib.deBruijn64tab w
 es:∃te p,w.cell? ⟨4,0,none⟩=some (.iface te p)
 er:∃te p,w.cell? ⟨5,0,none⟩=some (.iface te p)
theorem UT.stays:Stays UT:=fun w w' h a=>by
 refine⟨zdz h.utf (a.mono h.sz) (K8 _),Y0 h.sz a.size,ztc (show Tryz.prog.globalNamed "internal/strconv.uint64pow10" =some 7 by kernel_rfl) h.pow a,fun j d=>ze6 a (h.bru j d),?_,?_⟩
 .obtain⟨c,p,b⟩:=h.es;exact⟨c,p,ze6 a b⟩
 .obtain⟨c,p,b⟩:=h.er;exact⟨c,p,ze6 a b⟩
namespace Gr
def dig (c:UInt8):Bool:=48<=c && c<=57
theorem zbl (c:UInt8):dig c=true↔48<=c.toNat/\c.toNat<=57:=by
 unfold dig;rw[K6,decide_eq_true_iff,decide_eq_true_iff,UInt8.le_iff_toNat_le,UInt8.le_iff_toNat_le];exact Iff.rfl
def dv (c:UInt8):Nat:=c.toNat-48
def val (l:List UInt8):Nat:=l.foldl (fun n c=>10*n+dv c) 0
theorem zwm:val []=0:=rfl
theorem zbp (l:List UInt8) (c:UInt8):val (l++[c])=10*val l+dv c:=by unfold val;rw[Q8];rfl
theorem foldv (l:List UInt8) (a:Nat):l.foldl (fun n c=>10*n+dv c) a=a*10 ^ l.length+val l:=by
 induction l generalizing a with
 |nil=>simp[val]
 |cons c l ih=>
  unfold val;rw[Q5,Q5,ih,ih (10*0+dv c),K9,Y9];rw[U0,F3,U8,D0]
  congr 1
  rw[U2 10 a,X5,U2 10]
theorem zes (c:UInt8) (l:List UInt8):val (c::l)=dv c*10 ^ l.length+val l:=by
 unfold val;rw[Q5,foldv,F3,U8];rfl
theorem zfe (l:List UInt8) (h:l.all dig=true):val l<10 ^ l.length:=by
 induction l with
 |nil=>simp[val]
 |cons c l ih=>
  rw[X4,K6,zbl]at h;have:=ih h.2;rw[zes,K9,Y9];have a:dv c<=9:=by unfold dv;omega
  have:dv c*10 ^ l.length<=9*10 ^ l.length:=W5 _ a;omega
theorem zay {u:Nat} (h:¬u<10):K1 u=K1 (u /10)++[UInt8.ofNat (48+u%10)]:=by
 rw[K1,dif_neg h]
theorem zo8 (k:Nat) (h:k<10):dig (UInt8.ofNat (48+k))=true:=by
 rw[zbl,UInt8.toNat_ofNat'];omega
theorem zwn (k:Nat) (h:k<10):dv (UInt8.ofNat (48+k))=k:=by
 unfold dv;rw[UInt8.toNat_ofNat'];omega
theorem zak (u:Nat):(K1 u).all dig=true:=by
 induction u using W0 with
 |_ u ih=>
  by_cases h:u<10
  .rw[Y1 h,X4,zo8 u h];rfl
  .rw[zay h,Z8,ih _ (by omega),X4,zo8 (u%10) (by omega)];rfl
theorem zal (u:Nat):val (K1 u)=u:=by
 induction u using W0 with
 |_ u ih=>
  by_cases h:u<10
  .rw[Y1 h,zes,zwn u h];simp[val]
  .rw[zay h,zbp,ih _ (by omega),zwn _ (by omega)];omega
theorem za0 (u:Nat):K1 u≠[]:=by
 intro h;have:=W6 u;rw[h]at this;have:=Lib.nDigits_pos u;simp at *;omega
theorem zg8 (l m:List UInt8) (h:l≠[]):(l++m).head?=l.head?:=by
 cases l with
 |nil=>exact absurd rfl h
 |cons a l=>rfl
theorem zle {P:List UInt8->Prop} (h0:P []) (h1:∀l c,P l->P (l++[c])):∀l,P l:=by
 have b:∀l:List UInt8,P l.reverse:=by
  intro l
  induction l with
  |nil=>exact h0
  |cons a l ih=>rw[D3];exact h1 _ _ ih
 intro l;have:=b l.reverse;rwa[V1]at this
theorem zc4 (u:Nat) (h0:u≠0):(K1 u).head?≠some 48:=by
 induction u using W0 with
 |_ u ih=>
  by_cases h:u<10
  .rw[Y1 h];intro e;simp only[V3,Option.some.injEq]at e;have:=congrArg UInt8.toNat e;rw[UInt8.toNat_ofNat']at this;simp at this;omega
  .rw[zay h,zg8 _ _ (za0 _)];exact ih _ (by omega) (by omega)
theorem zin (l:List UInt8) (hne:l≠[]) (hd:l.all dig=true) (hz:l.head?≠some 48\/l.length=1):K1 (val l)=l:=by
 revert hne hd hz
 refine zle (P:=fun l=>l≠[]->l.all dig=true->(l.head?≠some 48\/l.length=1)->K1 (val l)=l) (fun h=>absurd rfl h) ?_ l;intro l c g hne hd hz
 .rw[Z8,K6]at hd;have f:dig c=true:=by simpa using hd.2
  have hcv:=(zbl c).1 f;have d:UInt8.ofNat (48+dv c)=c:=by
   unfold dv;rw[show 48+(c.toNat-48)=c.toNat from by omega];simp
  have e:dv c<10:=by unfold dv;omega
  rw[zbp];by_cases hl:l=[]
  .subst hl;rw[zwm,F3,U8,Y1 e,d];rfl
  .have b:l.head?≠some 48:=by
    rcases hz with h|h
    .rwa[zg8 _ _ hl]at h
    .simp at h;exact absurd h hl
   have a:=g hl hd.1 (.inl b);have hpos:1<=val l:=by
    rcases Y7 (val l)with h0|h0
    .rw[h0,Y1 (by omega)]at a;exact absurd (by rw[<-a];rfl) b
    .exact h0
   rw[zay (by omega),show(10*val l+dv c) /10=val l from by omega,show(10*val l+dv c)%10=dv c from by omega,a,d]
theorem zio (c:UInt8):R3 c=if dig c=true then some (dv c)else none:=by
 unfold R3;by_cases h:dig c=true
 .rw[if_pos h,if_pos ((zbl c).1 h)];rfl
 .rw[if_neg h,if_neg (fun e=>h ((zbl c).2 e))]
theorem zkb (l:List UInt8) (a:Nat):G3 a l=if l.all dig=true then some (a*10 ^ l.length+val l)else none:=by
 induction l generalizing a with
 |nil=>simp[G3,val]
 |cons c l ih=>
  unfold G3;rw[zio];by_cases h:dig c=true
  .rw[if_pos h];simp only;rw[ih,X4,h,L7];by_cases h2:l.all dig=true
   .rw[if_pos h2,if_pos h2,zes,K9,Y9,U0,<-D0,X5,U2 10]
   .rw[if_neg h2,if_neg h2]
  .grind
theorem zgk (l:List UInt8):R8 l=if l≠[]/\l.all dig=true then some (val l)else none:=by
 unfold R8;cases l with
 |nil=>simp
 |cons c l=>
  rw[List.isEmpty_cons,if_neg (by simp),zkb,R0,U8];by_cases h:(c::l).all dig=true
  .grind
  .grind
theorem ziq (n:Int):G4 (K5 n)=some n:=by
 unfold K5;by_cases h:n<0
 .rw[if_pos h];unfold G4;simp only[beq_self_eq_true,if_true];rw[zgk,if_pos ⟨za0 _,zak _⟩,zal];simp;omega
 .rw[if_neg h];have f:=za0 n.toNat;have a:=zak n.toNat;have b:=zal n.toNat;cases hd:K1 n.toNat with
  |nil=>exact absurd hd f
  |cons c l=>
   rw[hd]at a b;have j:dig c=true:=by rw[X4,K6]at a;exact a.1
   have d:=(zbl c).1 j;unfold G4;have i:(c==45)=false:=by
    rw[qqq];intro e;subst e;revert d;decide
   have g:(c==43)=false:=by
    rw[qqq];intro e;subst e;revert d;decide
   simp only[i,g,X1,if_false];rw[zgk,if_pos ⟨by simp,a⟩,b];simp;omega
theorem zbr (k u:Nat) (h:u<10 ^ (k+1)):R6 u<=k+1:=by
 induction k generalizing u with
 |zero=>rw[J7 (by simpa using h)];exact K8 _
 |succ k ih=>
  by_cases h1:u<10
  .rw[J7 h1];omega
  .rw[Lib.nDigits_big h1];have:=ih (u /10) (by rw[Y9]at h;omega);omega
theorem zc8 (n:Int) (k:Nat) (h:n.natAbs<10 ^ (k+1)):(K5 n).length<=k+2:=by
 unfold K5;split
 .rw[K9,W6];have:=zbr k _ h;omega
 .rw[W6];have:=zbr k n.toNat (by omega);omega
def intS (n:List UInt8):List UInt8:=if n.length>1/\n.head?=some 45 then n.tail else n
def intB (n:List UInt8):Bool:=if(intS n).length=0\/(intS n).length>400\/((intS n).head?=some 48/\n.length>1)then false else(intS n).all dig
structure Dn where
 neg:Bool
 d:List Nat
 e:Int
def isZ (x:Nat):Bool:=x==0
def rz (d:List Nat):List Nat:=(d.reverse.dropWhile isZ).reverse
def zeroD:Dn:=⟨false,[],0⟩
def norm (neg:Bool) (d:List Nat) (e:Int):Dn:=
 if d.dropWhile isZ=[]then zeroD else⟨neg,rz (d.dropWhile isZ),e+(((d.dropWhile isZ).length-(rz (d.dropWhile isZ)).length:Nat):Int)⟩
def ch (v:Nat):UInt8:=UInt8.ofNat (48+v)
def vals (s:List UInt8):List Nat:=s.map dv
def coef (x:Dn):List UInt8:=if x.d=[]then[48]else(if x.neg=true then[45]else[])++x.d.map ch
def text (x:Dn):List UInt8:=coef x++101::K5 x.e
def lim (x:Dn):Nat:=if 400<x.d.length then 6 else if x.e< -2000\/2000<x.e then 2 else 0
structure Wf (x:Dn):Prop where
 zero:x.d=[]->x.neg=false/\x.e=0
 head:x.d.head?≠some 0
 last:x.d.getLast?≠some 0
 lt:∀v∈x.d,v<10
theorem dw_head (d:List Nat):(d.dropWhile isZ).head?≠some 0:=by
 induction d with
 |nil=>simp
 |cons a d ih=>
  rw[U3];split
  .exact ih
  .rename_i h;intro e;simp at e;subst e;exact h rfl
theorem zo9 {α:Type} {p:α->Bool}:∀{l:List α} {x:α},x∈l.takeWhile p->p x=true
 | [],x,h=>by simp at h
 |a::l,x,h=>by
  rw[List.takeWhile_cons]at h;split at h
  .rename_i ha;rcases Y2.1 h with h|h
   .rw[h];exact ha
   .exact zo9 h
  .simp at h
theorem zvm (d:List Nat):∀v∈d.dropWhile isZ,v∈d:=fun _ a=>(F1 isZ).subset a
theorem zyl (d:List Nat):∀v∈rz d,v∈d:=fun v a=>by
 unfold rz at a;rw[J4]at a;exact J4.1 (zvm _ _ a)
theorem zwo (d:List Nat):(rz d).getLast?≠some 0:=by
 unfold rz;rw[List.getLast?_reverse];exact dw_head _
theorem zym (d:List Nat):(rz d).length<=d.length:=by
 unfold rz;rw[List.length_reverse];exact Y0 (F1 isZ).length_le (by simp)
theorem zyn (d:List Nat):d=rz d++K4 (d.length-(rz d).length) 0:=by
 have h:=D5 (p:=isZ) (l:=d.reverse);have h2:d.reverse.takeWhile isZ=K4 (d.reverse.takeWhile isZ).length 0:=by
  rw[List.eq_replicate_iff];refine⟨rfl,fun b f=>?_⟩;have:=zo9 f;simpa[isZ]using this
 have a:d=rz d++(d.reverse.takeWhile isZ).reverse:=by
  unfold rz;rw[<-G0,h,V1]
 have e:(d.reverse.takeWhile isZ).reverse=K4 (d.reverse.takeWhile isZ).length 0:=by
  grind
 rw[e]at a;have c:=congrArg List.length a;rw[Q4,List.length_replicate]at c;rw[show d.length-(rz d).length=(d.reverse.takeWhile isZ).length from by omega];exact a
theorem zz1 (d:List Nat) (h0:d.head?≠some 0) (hn:d≠[]):rz d≠[]/\(rz d).head?=d.head?:=by
 have h:=zyn d;cases hr:rz d with
 |nil=>
  grind
 |cons a l=>
  grind
theorem zg9 (neg:Bool) (d:List Nat) (e:Int) (h:∀v∈d,v<10):Wf (norm neg d e):=by
 unfold norm;split
 .exact⟨fun _=>⟨rfl,rfl⟩,by simp[zeroD],by simp[zeroD],fun v a=>by simp[zeroD]at a⟩
 .rename_i hn;have b:=zz1 _ (dw_head d) hn;exact⟨fun e=>absurd e b.1,by rw[show Dn.d ⟨neg,rz (d.dropWhile isZ),_⟩=rz (d.dropWhile isZ)from rfl,b.2];exact dw_head d,zwo _,fun v a=>h v (zvm _ _ (zyl _ _ a))⟩
theorem zpa (x:Dn) (h:Wf x) (hn:x.d≠[]):norm x.neg x.d x.e=x:=by
 obtain⟨neg,d,e⟩:=x;have f:d.dropWhile isZ=d:=by
  cases d with
  |nil=>rfl
  |cons a d=>
   rw[U3,if_neg];intro e;have:=h.head;simp[isZ]at e this;exact this e
 have c:rz d=d:=by
  unfold rz;have:d.reverse.dropWhile isZ=d.reverse:=by
   have b:=h.last;rw[show Dn.d ⟨neg,d,e⟩=d from rfl,<-List.head?_reverse]at b;cases hrv:d.reverse with
   |nil=>rfl
   |cons a l=>
    rw[hrv]at b;rw[U3,if_neg];intro e;simp[isZ]at e b;exact b e
  rw[this,V1]
 show norm neg d e=_;unfold norm;rw[f,if_neg hn,c,Nat.sub_self];simp
theorem zpb (neg:Bool) (e:Int):norm neg [0] e=zeroD:=rfl
theorem zvn (v:Nat) (h:v<10):dig (ch v)=true:=zo8 v h
theorem zwp (v:Nat) (h:v<10):dv (ch v)=v:=zwn v h
theorem zha (d:List Nat) (h:∀v∈d,v<10):vals (d.map ch)=d:=by
 unfold vals;rw[List.map_map]
 conv=>rhs;rw[<-List.map_id d]
 exact List.map_congr_left (fun v a=>zwp v (h v a))
theorem zlf (d:List Nat) (h:∀v∈d,v<10):(d.map ch).all dig=true:=by
 rw[Q1];intro c a;obtain⟨v,b,rfl⟩:=Z5.1 a;exact zvn v (h v b)
theorem zc9 (s:List UInt8) (h:s.all dig=true):∀v∈vals s,v<10:=by
 intro v b;obtain⟨c,a,rfl⟩:=Z5.1 b;have:=(zbl c).1 (Q1.1 h c a);unfold dv;omega
theorem zbs {c:UInt8} (h:dig c=true) (k:Nat) (hk:k<48\/57<k) (h2:k<256):c≠UInt8.ofNat k:=by
 intro e;have:=(zbl c).1 h;rw[e,UInt8.toNat_ofNat']at this;omega
theorem zhb {d:List Nat} (hn:d≠[]) (h:∀v∈d,v<10) (hz:d.head?≠some 0):(d.map ch).head?≠some 48/\(d.map ch).head?≠some 45/\(d.map ch)≠[]:=by
 cases d with
 |nil=>exact absurd rfl hn
 |cons a d=>
  have b:=h a (.head _);have c:a≠0:=fun e=>hz (by rw[e];rfl)
  refine⟨?_,?_,by simp⟩
  .intro e;simp only[E7,V3,Option.some.injEq]at e;have:=congrArg dv e;rw[zwp a b]at this;exact c this
  .intro e;simp only[E7,V3,Option.some.injEq]at e;exact zbs (zvn a b) 45 (.inl (by omega)) (by omega) e
theorem zhc {x:Dn} (hn:x.d≠[]):coef x=(if x.neg=true then[45]else[])++x.d.map ch:=by unfold coef;rw[if_neg hn]
theorem zir {x:Dn} (h:Wf x) (hn:x.d≠[]):intS (coef x)=x.d.map ch:=by
 obtain⟨h1,h2,h3⟩:=zhb hn h.lt h.head;rw[zhc hn];unfold intS;cases x.neg with
 |true=>
  simp_all
 |false=>
  grind
theorem zpc {x:Dn} (h:Wf x) (hl:x.d.length<=400):intB (coef x)=true:=by
 by_cases hn:x.d=[]
 .unfold coef;rw[if_pos hn];decide
 .obtain⟨a,h2,h3⟩:=zhb hn h.lt h.head;unfold intB;rw[zir h hn,if_neg,zlf _ h.lt];rintro(h4|h4|h4)
  .grind
  .grind
  .exact a h4.1
theorem zyo (x:Dn) (h:Wf x):∀c∈coef x,c≠101/\(dig c=true\/c=45):=by
 have a:∀c,dig c=true->c≠101/\(dig c=true\/c=45):=fun c hc=>⟨zbs hc 101 (.inr (by omega)) (by omega),.inl hc⟩
 intro c hc;unfold coef at hc;split at hc
 .simp at hc;subst hc;exact a _ (by decide)
 .rw[K3]at hc;rcases hc with hc|hc
  .grind
  .exact a _ (Q1.1 (zlf _ h.lt) c hc)
theorem zgl {p:UInt8->Bool} (a:List UInt8) (c:UInt8) (r:List UInt8) (h:∀x∈a,p x=true) (hc:p c=false):(a++c::r).takeWhile p=a/\(a++c::r).dropWhile p=c::r:=by
 simp_all
def readP (s:List UInt8):Option Dn:=
 match s.dropWhile (fun c=>c != 101)with
 | []=>none
 |_::r=>
  if intB (s.takeWhile (fun c=>c != 101))=false\/5<r.length then none
  else match G4 r with
   |none=>none
   |some e=>
    if lim (norm ((s.takeWhile (fun c=>c != 101)).head? ==some 45) (vals (intS (s.takeWhile (fun c=>c != 101)))) e)=0/\text (norm ((s.takeWhile (fun c=>c != 101)).head? ==some 45) (vals (intS (s.takeWhile (fun c=>c != 101)))) e)=s
    then some (norm ((s.takeWhile (fun c=>c != 101)).head? ==some 45) (vals (intS (s.takeWhile (fun c=>c != 101)))) e)else none
theorem zet {x:Dn} (h:lim x=0):x.d.length<=400/\-2000<=x.e/\x.e<=2000:=by
 unfold lim at h;split at h
 .cases h
 .split at h
  .cases h
  .omega
theorem zis {x:Dn} (h:Wf x):norm ((coef x).head? ==some 45) (vals (intS (coef x))) x.e=x:=by
 by_cases hn:x.d=[]
 .obtain⟨b,a⟩:=h.zero hn;obtain⟨neg,d,e⟩:=x;simp only at hn b a;subst hn;subst b;subst a;unfold coef;rw[if_pos rfl];exact zpb _ _
 .obtain⟨b,a,h3⟩:=zhb hn h.lt h.head;rw[zir h hn,zha _ h.lt];have:((coef x).head? ==some 45)=x.neg:=by
   rw[zhc hn];cases x.neg with
   |true=>rfl
   |false=>rw[if_neg (by simp),U4];simpa using a
  rw[this];exact zpa x h hn
theorem zmu {x:Dn} (h:Wf x) (hl:lim x=0):readP (text x)=some x:=by
 obtain⟨b,l2,l3⟩:=zet hl;obtain⟨f,d⟩:=zgl (p:=fun c=>c != 101) (coef x) 101 (K5 x.e) (fun c a=>by simpa using(zyo x h c a).1) (by decide);have hlen:=zc8 x.e 3 (by omega);unfold readP;rw[show(text x).dropWhile (fun c=>c != 101)=101::K5 x.e from d];simp only;rw[show(text x).takeWhile (fun c=>c != 101)=coef x from f,zpc h b,if_neg (by rintro(h1|h1);cases h1;omega),ziq];simp only;rw[zis h,if_pos ⟨hl,rfl⟩]
theorem zdn {a:List UInt8} (h:intB a=true):(intS a).all dig=true:=by
 unfold intB at h;split at h
 .cases h
 .exact h
theorem zmv {s:List UInt8} {x:Dn} (h:readP s=some x):Wf x/\lim x=0/\text x=s:=by
 unfold readP at h;split at h
 .cases h
 .split at h
  .cases h
  .rename_i hb;split at h
   .cases h
   .split at h
    .rename_i hc;injection h with h
     subst h;refine⟨zg9 _ _ _ (zc9 _ (zdn ?_)),hc⟩;cases hi:intB (s.takeWhile (fun c=>c != 101))with
     |true=>rfl
     |false=>exact absurd (.inl hi) hb
    .cases h
def satv (sat:Nat) (l:List UInt8):Nat:=l.foldl (fun n c=>min (10*n+dv c) sat) 0
theorem zpd (sat:Nat) (l:List UInt8):satv sat l=min (val l) sat:=by
 refine zle (P:=fun l=>satv sat l=min (val l) sat) (by simp[satv,val]) ?_ l;intro l c a;unfold satv at a ⊢;rw[Q8,a,zbp];simp only[Q5,E2];omega
def expT (s4:List UInt8):List UInt8:=if s4.head?=some 45\/s4.head?=some 43 then s4.tail else s4
def expV (sat:Nat) (s4:List UInt8):Int:=if s4.head?=some 45 then -(satv sat (expT s4):Int)else(satv sat (expT s4):Int)
def expS (sat:Nat) (neg:Bool) (d:List Nat) (e:Int) (s3:List UInt8):Option Dn:=
 if s3=[]then some (norm neg d e)
 else if s3.head?=some 101\/s3.head?=some 69 then
  if expT s3.tail=[]\/(expT s3.tail).all dig=false then none else some (norm neg d (e+expV sat s3.tail))
 else none
def numT (sat:Nat) (neg:Bool) (s1:List UInt8):Option Dn:=
 if s1.takeWhile dig=[]\/((s1.takeWhile dig).head?=some 48/\1<(s1.takeWhile dig).length)then none
 else if(s1.dropWhile dig).head?=some 46 then
  if(s1.dropWhile dig).tail.takeWhile dig=[]then none
  else expS sat neg (vals (s1.takeWhile dig++(s1.dropWhile dig).tail.takeWhile dig)) (-(((s1.dropWhile dig).tail.takeWhile dig).length:Int)) ((s1.dropWhile dig).tail.dropWhile dig)
 else expS sat neg (vals (s1.takeWhile dig)) 0 (s1.dropWhile dig)
def numS (sat:Nat) (s:List UInt8):Option Dn:=if s.head?=some 45 then numT sat true s.tail else numT sat false s
def readR (s:List UInt8):Option Dn:=
 match numS 1000000 s with
 |none=>none
 |some x=>if lim x=0/\text x=s then some x else none
theorem zpe {sat:Nat} {neg:Bool} {d:List Nat} {e:Int} {s:List UInt8} {x:Dn} (hd:∀v∈d,v<10) (h:expS sat neg d e s=some x):Wf x:=by
 unfold expS at h;split at h
 .injection h with h;subst h;exact zg9 _ _ _ hd
 .split at h
  .split at h
   .cases h
   .injection h with h;subst h;exact zg9 _ _ _ hd
  .cases h
theorem zek (s:List UInt8):(s.takeWhile dig).all dig=true:=by
 simp_all
theorem zpf {sat:Nat} {neg:Bool} {s:List UInt8} {x:Dn} (h:numT sat neg s=some x):Wf x:=by
 unfold numT at h;split at h
 .cases h
 .split at h
  .split at h
   .cases h
   .refine zpe (zc9 _ ?_) h;rw[Z8,zek,zek];rfl
  .exact zpe (zc9 _ (zek _)) h
theorem zpg {sat:Nat} {s:List UInt8} {x:Dn} (h:numS sat s=some x):Wf x:=by
 unfold numS at h;split at h
 .exact zpf h
 .exact zpf h
theorem zmw {s:List UInt8} {x:Dn} (h:readR s=some x):Wf x/\lim x=0/\text x=s:=by
 unfold readR at h;split at h
 .cases h
 .rename_i y hy;split at h
  .rename_i hc;injection h with h
   subst h;exact⟨zpg hy,hc⟩
  .cases h
theorem zph (e:Int) (sat:Nat) (hs:e.natAbs<=sat) (neg:Bool) (d:List Nat):expS sat neg d 0 (101::K5 e)=some (norm neg d e):=by
 unfold expS;rw[if_neg (by simp),if_pos (.inl rfl)];simp only[L2];unfold K5 expV expT;by_cases h:e<0
 .rw[if_pos h];simp only[V3,L2,true_or,if_true];rw[if_neg,zpd,zal]
  .congr 2;omega
  .rintro(h1|h1)
   .exact za0 _ h1
   .rw[zak]at h1;cases h1
 .rw[if_neg h];have f:=za0 e.toNat;have a:=zak e.toNat;have b:=zal e.toNat;have g:(K1 e.toNat).head?≠some 45/\(K1 e.toNat).head?≠some 43:=by
   cases hd:K1 e.toNat with
   |nil=>exact absurd hd f
   |cons c l=>
    rw[hd,X4,K6]at a;exact⟨fun e=>zbs a.1 45 (.inl (by omega)) (by omega) (by simpa using e),fun e=>zbs a.1 43 (.inl (by omega)) (by omega) (by simpa using e)⟩
  simp only[g.1,g.2,or_self,if_false];rw[if_neg,zpd,b]
  .congr 2;omega
  .grind
theorem zpi {x:Dn} (h:Wf x) (hl:lim x=0) (sat:Nat) (hs:2000<=sat):numS sat (text x)=some x:=by
 obtain⟨l1,l2,l3⟩:=zet hl;have b:∀(neg:Bool) (i:List UInt8),i≠[]->i.all dig=true->(i.head?≠some 48\/i.length=1)->norm neg (vals i) x.e=x->numT sat neg (i++101::K5 x.e)=some x:=by
  intro neg i m k hh f;obtain⟨o,n⟩:=zgl (p:=dig) i 101 (K5 x.e) (Q1.1 k) (by decide);unfold numT;rw[o,n,if_neg,if_neg (by simp),zph _ _ (by omega),f];rintro(h1|h1)
  .exact m h1
  .grind
 have f:=zis h;by_cases hn:x.d=[]
 .have j:coef x=[48]:=by unfold coef;rw[if_pos hn]
  unfold numS text;rw[j]at f ⊢;rw[if_neg (by simp)];exact b false [48] (by simp) (by decide) (.inr rfl) f
 .obtain⟨h1,l,g⟩:=zhb hn h.lt h.head;have a:=zpa x h hn;rw[<-zha x.d h.lt]at a;unfold numS text;rw[zhc hn];cases hneg:x.neg with
  |true=>
   rw[if_pos rfl,Y4,U4,if_pos (by rfl)];rw[hneg]at a;exact b true _ g (zlf _ h.lt) (.inl h1) (by rw[zha _ h.lt]at a ⊢;exact a)
  |false=>
   rw[hneg]at a;rw[if_neg (c:=false=true) (by simp),U4,zg8 _ _ g,if_neg l];exact b false _ g (zlf _ h.lt) (.inl h1) (by rw[zha _ h.lt]at a ⊢;exact a)
theorem zmx {x:Dn} (h:Wf x) (hl:lim x=0):readR (text x)=some x:=by
 unfold readR;rw[zpi h hl _ (by omega)];show(if lim x=0/\text x=text x then some x else none)=some x;rw[if_pos ⟨hl,rfl⟩]
theorem zwq (s:List UInt8):readP s=readR s:=by
 cases hp:readP s with
 |some x=>
  obtain⟨a,c,b⟩:=zmv hp;rw[<-b,zmx a c]
 |none=>
  cases hr:readR s with
  |none=>rfl
  |some x=>
   obtain⟨a,c,b⟩:=zmw hr;rw[<-b,zmu a c]at hp;cases hp
def fitsB (m:Nat) (e:Int):Bool:=m%2==1 && decide (V8 m<=53) && decide (-1074<=e) && decide (e<=1023) && decide (e+V8 m<=1024)
def fT (s:List UInt8):List UInt8:=if s.head?=some 45 then s.tail else s
def fA (t:List UInt8):List UInt8:=t.takeWhile (fun c=>c != 112)
def fltN (t:List UInt8):Bool:=
 match t.dropWhile (fun c=>c != 112)with
 | []=>false
 |_::b=>match Y8 64 (fA t)with
  | .ok m=>match Z2 b with
   | .ok e=>fitsB m e && decide (K1 m++112::K5 e=t)
   |_=>false
  |_=>false
def fltP (s:List UInt8):Bool:=
 if s=[110,97,110]then true else if fT s=[105,110,102]then true else if fT s=[48,112,48]then true else fltN (fT s)
def numb (s:List UInt8):Option Int:=if intB s=true/\s.length<=18 then some (if s.head?=some 45 then -(val (intS s):Int)else(val (intS s):Int))else none
def mokB (m e:Int):Bool:=!(decide (m<0) || (m==0 && e != 0) || (m != 0 && (m%2==0 || decide (53<V8 m.toNat) || decide (e< -1074) || decide (1023<e) || decide (1024<e+V8 m.toNat))))
def fltR (s:List UInt8):Bool:=
 if fT s=[105,110,102]then true else if s=[110,97,110]then true
 else match(fT s).dropWhile (fun c=>c != 112)with
  | []=>false
  |_::b=>match numb (fA (fT s))with
   |some m=>match numb b with
    |some e=>mokB m e
    |none=>false
   |none=>false
theorem zpj {m:Nat} (h:m<2 ^ 64):m<2 ^ V8 m:=by
 rcases Y7 m with h0|h0
 .grind
 .exact(Lib.bitLenAux_bounds 64 m h (by omega)).2.2
theorem zit {m:Nat} (h:m<2 ^ 64) (hb:V8 m<=53):m<2 ^ 53:=
 X2 (zpj h) (V2 (by omega) hb)
theorem ziu {s:List UInt8} {n:Int} (h:numb s=some n):s=K5 n/\n.natAbs<10 ^ 18:=by
 unfold numb at h;split at h
 .rename_i hc;obtain⟨m,hl⟩:=hc;have c:=zdn m;have d:=m;unfold intB at d;split at d
  .cases d
  .rename_i hnn;have j:intS s≠[]:=fun e=>hnn (.inl (by rw[e];rfl))
   have hlen:(intS s).length<=s.length:=by unfold intS;split<;>simp
   have p:=zfe _ c;have hv2:val (intS s)<10 ^ 18:=X2 p (V2 (by omega) (by omega));injection h with h
   by_cases h45:s.head?=some 45
   .rw[if_pos h45]at h;have g:s.length>1:=by
     rcases V6 1 s.length with h1|h1
     .exact h1
     .exfalso;have o:s=[45]:=by
       cases s with
       |nil=>cases h45
       |cons a l=>cases l with
        |nil=>simp at h45;rw[h45]
        |cons b l=>simp at h1
      rw[o]at c;exact absurd c (by decide)
    have k:intS s=s.tail:=by unfold intS;rw[if_pos ⟨g,h45⟩]
    have i:(intS s).head?≠some 48:=fun e=>hnn (.inr (.inr ⟨e,g⟩))
    have f:=zin _ j c (.inl i);have hpos:0<val (intS s):=by
     rcases Y7 (val (intS s))with h0|h0
     .rw[h0,Y1 (by omega)]at f;exact absurd (by rw[<-f];rfl) i
     .exact h0
    refine⟨?_,by omega⟩;unfold K5;rw[if_pos (by omega),show n.natAbs=val (intS s)from by omega,f,k];cases s with
    |nil=>cases h45
    |cons a l=>simp at h45;rw[h45];rfl
   .rw[if_neg h45]at h;have k:intS s=s:=by unfold intS;rw[if_neg (fun e=>h45 e.2)]
    refine⟨?_,by omega⟩;unfold K5;rw[if_neg (by omega),show n.toNat=val (intS s)from by omega,zin _ j c,k];rcases V6 1 s.length with h1|h1
    .grind
    .omega
 .cases h
theorem ziv (n:Int) (k:Nat) (hk:k<=16) (h:n.natAbs<10 ^ (k+1)):intS (K5 n)=K1 n.natAbs/\intB (K5 n)=true/\(K5 n).length<=18/\(n<0↔(K5 n).head?=some 45):=by
 have g:=zc8 n k h;have i:=za0 n.natAbs;have a:=zak n.natAbs;have hp:=G1.2 i;have b:(K1 n.natAbs).head?≠some 45:=by
  cases hd:K1 n.natAbs with
  |nil=>simp
  |cons c l=>
   rw[hd,X4,K6]at a;exact fun e=>zbs a.1 45 (.inl (by omega)) (by omega) (by simpa using e)
 by_cases hn:n<0
 .have d:K5 n=45::K1 n.natAbs:=by unfold K5;rw[if_pos hn]
  have f:intS (K5 n)=K1 n.natAbs:=by
   rw[d];unfold intS;rw[if_pos ⟨by simp;omega,rfl⟩];rfl
  refine⟨f,?_,by omega,⟨fun _=>by rw[d];rfl,fun _=>hn⟩⟩;unfold intB;rw[f,if_neg,a];rintro(h1|h1|h1)
  .omega
  .grind
  .exact zc4 _ (by omega) h1.1
 .have d:K5 n=K1 n.natAbs:=by unfold K5;rw[if_neg hn,show n.toNat=n.natAbs from by omega]
  have f:intS (K5 n)=K1 n.natAbs:=by rw[d];unfold intS;rw[if_neg (fun e=>b e.2)]
  refine⟨f,?_,by omega,⟨fun h=>absurd h hn,fun h=>by rw[d]at h;exact absurd h b⟩⟩;unfold intB;rw[f,if_neg,a];rintro(h1|h1|h1)
  .omega
  .rw[d]at g;omega
  .by_cases h0:n.natAbs=0
   .rw[d,h0,Y1 (by omega)]at h1;simp at h1
   .exact zc4 _ h0 h1.1
theorem zpk (n:Int) (h:n.natAbs<10 ^ 17):numb (K5 n)=some n:=by
 obtain⟨a,b,c,h4⟩:=ziv n 16 (by omega) h;unfold numb;rw[if_pos ⟨b,c⟩,a,zal];by_cases hn:n<0
 .grind
 .grind
theorem zmy (M:Nat) (hM:M=18446744073709551615) (l:List UInt8) (acc:Nat) (h:l.all dig=true) (hb:acc*10 ^ l.length+val l<18446744073709551616):U9 M acc l=.ok (acc*10 ^ l.length+val l):=by
 induction l generalizing acc with
 |nil=>simp[U9,val]
 |cons c l ih=>
  rw[X4,K6,zbl]at h;rw[zes,K9,Y9]at hb ⊢;have a:acc*(10 ^ l.length*10)+(dv c*10 ^ l.length+val l)=(acc*10+dv c)*10 ^ l.length+val l:=by
   grind
  rw[a]at hb ⊢;have b:1<=10 ^ l.length:=Nat.one_le_pow _ _ (by decide);have h2:acc*10+dv c<=(acc*10+dv c)*10 ^ l.length:=Z4 _ b;unfold U9;rw[if_pos h.1,if_neg (by omega),show c.toNat-48=dv c from rfl,if_neg (by omega),ih _ h.2 hb]
theorem zpl (m:Nat) (h:m<2 ^ 64):Y8 64 (K1 m)=.ok m:=by
 unfold Y8;rw[if_neg (za0 m),zmy _ (by decide) _ _ (zak m) (by rw[zal];omega),zal];simp
theorem ziw (n:Int) (h:n.natAbs<10 ^ 17):Z2 (K5 n)=.ok n:=by
 rw[Lib.atoiAll_short _ (ziv n 16 (by omega) h).2.2.1,ziq];rfl
theorem zlg (m:Nat):∀c∈K1 m,(c != 112)=true:=by
 intro c a;have:=Q1.1 (zak m) c a;simpa using zbs this 112 (.inr (by omega)) (by omega)
theorem zhd (m:Nat):K5 (m:Int)=K1 m:=by unfold K5;rw[if_neg (by omega)];rfl
theorem zpm (l:List UInt8) (acc u:Nat) (ha:acc<2 ^ 64) (h:U9 (2 ^ 64-1) acc l=.ok u):u<2 ^ 64:=by
 induction l generalizing acc with
 |nil=>simp only[U9]at h;injection h with h;omega
 |cons c l ih=>
  unfold U9 at h;split at h
  .grind
  .cases h
theorem ztm {l:List UInt8} {u:Nat} (h:Y8 64 l=.ok u):u<2 ^ 64:=by
 unfold Y8 at h;split at h
 .cases h
 .exact zpm _ _ _ (by omega) h
theorem zlh (t:List UInt8):fltN t=true↔∃(m:Nat) (e:Int),t=K1 m++112::K5 e/\m<2 ^ 64/\fitsB m e=true:=by
 constructor
 .intro h;unfold fltN at h;split at h
  .cases h
  .split at h
   .rename_i m hm;split at h
    .rename_i e he;rw[K6]at h;exact⟨m,e,(qqy h.2).symm,ztm hm,h.1⟩
    .cases h
   .cases h
 .rintro⟨m,e,rfl,hm,a⟩;obtain⟨d,b⟩:=zgl (p:=fun c=>c != 112) (K1 m) 112 (K5 e) (zlg m) (by decide);have he:e.natAbs<10 ^ 17:=by
   unfold fitsB at a;simp only[K6,decide_eq_true_iff]at a;omega
  unfold fltN fA;rw[d,b];simp only;rw[zpl m hm];simp only;rw[ziw e he];simp only;rw[a,L7];simp
theorem zwr {m e:Int} (h:mokB m e=true) (h0:m≠0):0<m/\fitsB m.toNat e=true:=by
 unfold mokB at h;unfold fitsB;simp only[J1,W4,W3,decide_eq_false_iff_not,K6,decide_eq_true_iff,bne_eq_false_iff_eq,qqq,qkq]at h ⊢;obtain⟨⟨h1,h2⟩,h3⟩:=h;rcases h3 with h3|h3
 .exact absurd h3 h0
 .omega
theorem zyp {m:Nat} {e:Int} (hf:fitsB m e=true):mokB (m:Int) e=true:=by
 unfold fitsB at hf;unfold mokB;simp only[J1,W4,W3,decide_eq_false_iff_not,K6,decide_eq_true_iff,bne_eq_false_iff_eq,qqq,qkq,J8]at hf ⊢;obtain⟨⟨⟨⟨a,b⟩,c⟩,d⟩,f⟩:=hf;refine⟨⟨by omega,.inl (by omega)⟩,.inr ⟨⟨⟨⟨by omega,by omega⟩,by omega⟩,by omega⟩,by omega⟩⟩
theorem zyq (s:List UInt8):fltP s=fltR s:=by
 unfold fltP fltR;by_cases h1:s=[110,97,110]
 .subst h1;rfl
 .rw[if_neg h1,if_neg h1];by_cases h2:fT s=[105,110,102]
  .rw[if_pos h2,if_pos h2]
  .rw[if_neg h2,if_neg h2];generalize fT s=t;rw[Z9];have h64:(10:Nat) ^ 17<2 ^ 64:=by decide
   have h53:(2:Nat) ^ 53<10 ^ 17:=by decide
   constructor
   .intro h;split at h
    .rename_i ht;subst ht;rfl
    .obtain⟨m,e,rfl,k,n⟩:=(zlh t).1 h;obtain⟨w,r⟩:=zgl (p:=fun c=>c != 112) (K1 m) 112 (K5 e) (zlg m) (by decide);have g:=n;unfold fitsB at g;simp only[K6,decide_eq_true_iff]at g;obtain⟨⟨⟨⟨a,b⟩,c⟩,d⟩,f⟩:=g;have:=zit k b;unfold fA;rw[w,r];simp only;rw[<-zhd,zpk (m:Int) (by omega)];simp only;rw[zpk e (by omega)];exact zyp n
   .intro h;split at h
    .cases h
    .rename_i c b hd;split at h
     .rename_i m k;split at h
      .rename_i e he;obtain⟨q,hma⟩:=ziu k;obtain⟨u,heb⟩:=ziu he;have o:c=112:=by
        have:=List.head?_dropWhile_not (fun c:UInt8=>c != 112) t;rw[hd]at this;simpa using this
       have ht:t=K5 m++112::K5 e:=by
        rw[<-q,<-u,<-o,<-hd];exact(D5).symm
       by_cases h0:m=0
       .subst h0;have l:e=0:=by
         unfold mokB at h;simp at h;exact h
        subst l;have j:K5 0=[48]:=by unfold K5;rw[if_neg (by omega)];exact Y1 (i:=0) (by omega)
        rw[if_pos (by rw[ht,j];rfl)]
       .obtain⟨p1,v⟩:=zwr h h0;split
        .rfl
        .rw[zlh];refine⟨m.toNat,e,?_,by omega,v⟩;rw[ht,<-zhd,show((m.toNat:Nat):Int)=m from by omega]
      .cases h
     .cases h
end Gr
namespace Gr
def ltS:Str->Str->Bool
 |_,[]=>false
 | [],_::_=>true
 |a::l,b::m=>decide (a.toNat<b.toNat) || (a==b && ltS l m)
def insR (t:Str):List Str->List Str
 | []=>[t]
 |y::r=>if ltS t y=true then y::insR t r else t::y::r
def insL (l:List Str) (t:Str):List Str:=(insR t l.reverse).reverse
def sortS (l:List Str):List Str:=l.foldl insL []
def printF (ns:List Nd):Nat->Nat->Str
 | 0,_=>[]
 |f+1,i=>match ns[i]? with
  |none=>[]
  |some x=>
   let es:=(Q3 x.items.length).map (fun k=>(if x.kind=10 then printF ns f (x.keys.getD k 0)else[])++printF ns f (x.items.getD k 0))
   UInt8.ofNat (97+x.kind.toNat)::(K1 x.text.length++58::(x.text++(K1 x.items.length++40::((if x.kind=10/\x.ord=false then sortS es else es).flatten++41::(if x.ord=true then[33]else[])))))
theorem ziz (t:Str) (l:List Str):(insR t l).Perm (t::l):=by
 induction l with
 |nil=>exact .refl _
 |cons y r ih=>
  unfold insR;split
  .grind
  .exact .refl _
theorem zpo (l:List Str) (t:Str):(insL l t).Perm (t::l):=by
 unfold insL;exact(Z0 _).trans ((ziz t _).trans ((Z0 l).cons t))
theorem zi0 (l:List Str):∀a,(l.foldl insL a).Perm (a++l):=by
 induction l with
 |nil=>intro a;simp
 |cons t l ih=>
  intro a;rw[Q5];exact(ih _).trans (((zpo a t).append_right l).trans (by simpa using(List.perm_middle (a:=t) (l₁:=a) (l₂:=l)).symm))
theorem zba (l:List Str):(sortS l).Perm l:=by unfold sortS;simpa using zi0 l []
theorem zm0 (a:Str):ltS a a=false:=by
 induction a with
 |nil=>rfl
 |cons a l ih=>simp[ltS,ih]
theorem zi1 {a b c:Str} (h1:ltS a b=true) (h2:ltS b c=true):ltS a c=true:=by
 induction a generalizing b c with
 |nil=>cases b<;>cases c<;>simp_all [ltS]
 |cons x a ih=>
  cases b with
  |nil=>simp[ltS]at h1
  |cons y b=>
   cases c with
   |nil=>simp[ltS]at h2
   |cons z c=>
    simp only[ltS,Bool.or_eq_true,qqv,K6,qkq]at h1 h2 ⊢;rcases h1 with h1|⟨rfl,h1⟩
    .grind
    .grind
theorem zi2 {a b:Str} (h1:ltS a b=false) (h2:ltS b a=false):a=b:=by
 induction a generalizing b with
 |nil=>cases b with
  |nil=>rfl
  |cons=>simp[ltS]at h1
 |cons x a ih=>
  cases b with
  |nil=>simp[ltS]at h2
  |cons y b=>
   simp only[ltS,W4,decide_eq_false_iff_not,W3]at h1 h2;have:x=y:=by apply UInt8.toNat_inj.1;omega
   subst this;have d:ltS a b=false:=by
    rcases h1.2 with h|h
    .simp at h
    .exact h
   have c:ltS b a=false:=by
    rcases h2.2 with h|h
    .simp at h
    .exact h
   rw[ih d c]
def Desc (l:List Str):Prop:=l.Pairwise (fun a b=>ltS a b=false)
theorem zpp (t:Str) (l:List Str) (h:Desc l):Desc (insR t l):=by
 induction l with
 |nil=>simp[insR,Desc]
 |cons y r ih=>
  unfold Desc at h ih ⊢;rw[Y6]at h;unfold insR;split
  .rename_i hlt;rw[Y6];refine⟨fun z a=>?_,ih h.2⟩;have:=(ziz t r).mem_iff.1 a;rcases Y2.1 this with rfl|h3
   .cases hc:ltS y z with
    |false=>rfl
    |true=>have:=zi1 hc hlt;rw[zm0]at this;cases this
   .exact h.1 z h3
  .rename_i hlt;have b:ltS t y=false:=by simpa using hlt
   rw[Y6,Y6];refine⟨fun z a=>?_,h⟩;rcases Y2.1 a with rfl|h3
   .exact b
   .cases hc:ltS t z with
    |false=>rfl
    |true=>
     have c:=h.1 z h3;cases hd:ltS z y with
     |true=>have:=zi1 hc hd;rw[b]at this;cases this
     |false=>have:=zi2 c hd;subst this;rw[b]at hc;cases hc
theorem zwt {l m:List Str} (hl:Desc l) (hm:Desc m) (hp:l.Perm m):l=m:=
 List.Perm.eq_of_pairwise (le:=fun a b=>ltS a b=false) (fun _ _ _ _ c d=>zi2 c d) hl hm hp
theorem zi3 (l:List Str):∀a,Desc a.reverse->Desc (l.foldl insL a).reverse:=by
 induction l with
 |nil=>intro a h;exact h
 |cons t l ih=>
  intro a h;rw[Q5];apply ih;unfold insL;rw[V1];exact zpp t _ h
theorem ztq {l m:List Str} (h:l.Perm m):sortS l=sortS m:=by
 have a:=zi3 l [] (by simp[Desc]);have c:=zi3 m [] (by simp[Desc]);have b:((sortS l).reverse).Perm ((sortS m).reverse):=(Z0 _).trans (((zba l).trans (h.trans (zba m).symm)).trans (Z0 _).symm);have:=congrArg List.reverse (zwt a c b);simpa[sortS]using this
theorem zpq {l m:List Str} (h:sortS l=sortS m):l.Perm m:=(zba l).symm.trans (h▸zba m)
def ents (ns:List Nd) (f:Nat) (x:Nd):List Str:=(Q3 x.items.length).map (fun k=>(if x.kind=10 then printF ns f (x.keys.getD k 0)else[])++printF ns f (x.items.getD k 0))
def entS (ns:List Nd) (f:Nat) (x:Nd):List Str:=if x.kind=10/\x.ord=false then sortS (ents ns f x)else ents ns f x
theorem zan {ns:List Nd} {f i:Nat} {x:Nd} (h:ns[i]? =some x):printF ns (f+1) i=
 UInt8.ofNat (97+x.kind.toNat)::(K1 x.text.length++58::(x.text++(K1 x.items.length++40::((entS ns f x).flatten++41::(if x.ord=true then[33]else[]))))):=by
 unfold printF entS ents;rw[h]
theorem zi4 {a b:Nat} {r r':Str} {c:UInt8} (hc:dig c=false) (h:K1 a++c::r=K1 b++c::r'):a=b/\r=r':=by
 have d:=zgl (p:=dig) (K1 a) c r (fun x e=>Q1.1 (zak a) x e) hc;have f:=zgl (p:=dig) (K1 b) c r' (fun x e=>Q1.1 (zak b) x e) hc;rw[h]at d;have g:K1 a=K1 b:=d.1.symm.trans f.1;have i:c::r=c::r':=d.2.symm.trans f.2;refine⟨?_,by injection i⟩;have:=congrArg val g;rwa[zal,zal]at this
def NodesOk (ns:List Nd):Prop:=∀x∈ns,0<=x.kind/\x.kind<=11/\(x.kind=10->x.keys.length=x.items.length)
def Tall' (ns:List Nd):Nat->Nat->Prop
 | 0,_=>False
 |f+1,i=>∀x∈succ ns i,Tall' ns f x
structure TOk (ns:List Nd) (f i:Nat):Prop where
 lt:i<ns.length
 tall:Tall' ns f i
def no33 (r:Str):Prop:=r.head?≠some 33
def ElemOk (ns:List Nd) (f:Nat) (m:Bool) (e:Str):Prop:=if m=true then∃a b,TOk ns f a/\TOk ns f b/\e=printF ns f a++printF ns f b else∃b,TOk ns f b/\e=printF ns f b
section
variable {ns:List Nd}
theorem za4 (hok:NodesOk ns) {f i:Nat} (h:TOk ns f i) (r:Str):no33 (printF ns f i++r)/\(printF ns f i++r)≠[]:=by
 obtain⟨a,b⟩:=h;cases f with
 |zero=>exact absurd b id
 |succ f=>
  rw[zan (K0 a)];refine⟨?_,by simp⟩;unfold no33;have hk:=hok _ (Q0 a);intro h;simp only[Y4,V3,Option.some.injEq]at h;have:=congrArg UInt8.toNat h;rw[UInt8.toNat_ofNat',X0 (by omega)]at this;have h33:(33:UInt8).toNat=33:=rfl;omega
theorem zi5 (hok:NodesOk ns) {f:Nat} {m:Bool} {e:Str} (h:ElemOk ns f m e) (r:Str):no33 (e++r):=by
 unfold ElemOk at h;split at h
 .obtain⟨a,b,d,_,rfl⟩:=h;rw[Q9];exact(za4 hok d _).1
 .obtain⟨b,c,rfl⟩:=h;exact(za4 hok c _).1
theorem zi6 {f:Nat} {m:Bool} (hh:∀e,ElemOk ns f m e->∀r,no33 (e++r)) (L:List Str) (hL:∀e∈L,ElemOk ns f m e) (q:Str):no33 (L.flatten++41::q):=by
 cases L with
 |nil=>simp[no33]
 |cons e L=>
  grind
theorem zpr (hok:NodesOk ns) (hr:Refs ns) {f i:Nat} (hi:i<ns.length) (ht:Tall' ns (f+1) i):∀e∈entS ns f ns[i],ElemOk ns f (decide (ns[i].kind=10)) e:=by
 have c:∀e∈entS ns f ns[i],e∈ents ns f ns[i]:=by
  intro e a;unfold entS at a;split at a
  .exact(zba _).mem_iff.1 a
  .exact a
 intro e a;have b:=c e a;unfold ents at b;obtain⟨k,g,rfl⟩:=Z5.1 b;have hkl:=Q6.1 g;have d:=hok _ (Q0 hi);have hs:succ ns i=ns[i].keys++ns[i].items:=by unfold succ;rw[K0 hi]
 have hit:ns[i].items.getD k 0∈succ ns i:=by
  grind
 have ok2:∀x∈succ ns i,TOk ns f x:=fun x d=>⟨hr.succ i x d,ht x d⟩
 unfold ElemOk;by_cases h10:ns[i].kind=10
 .grind
 .grind
def SplitAt (ns:List Nd) (f:Nat):Prop:=∀(i g j:Nat) (r r':Str),TOk ns f i->TOk ns g j->no33 r->no33 r'->printF ns f i++r=printF ns g j++r'->printF ns f i=printF ns g j/\r=r'
theorem zm1 (hok:NodesOk ns) {f g:Nat} {m:Bool} (ih:SplitAt ns f) {e e' r r':Str} (h:ElemOk ns f m e) (h':ElemOk ns g m e') (hr1:no33 r) (hr2:no33 r') (he:e++r=e'++r'):e=e'/\r=r':=by
 unfold ElemOk at h h';split at h
 .rename_i hm;rw[if_pos hm]at h';obtain⟨a,b,n,d,rfl⟩:=h;obtain⟨o,j,i,c,rfl⟩:=h';rw[Q9,Q9]at he;obtain⟨p,q⟩:=ih a g o _ _ n i (za4 hok d _).1 (za4 hok c _).1 he;obtain⟨k,l⟩:=ih b g j _ _ d c hr1 hr2 q;exact⟨by rw[p,k],l⟩
 .rename_i hm;rw[if_neg hm]at h';obtain⟨b,d,rfl⟩:=h;obtain⟨j,c,rfl⟩:=h';exact ih b g j _ _ d c hr1 hr2 he
theorem zm2 (hok:NodesOk ns) {f g:Nat} {m:Bool} (ih:SplitAt ns f):∀(L M:List Str) (q q':Str),L.length=M.length->(∀e∈L,ElemOk ns f m e)->(∀e∈M,ElemOk ns g m e)->L.flatten++41::q=M.flatten++41::q'->L=M/\q=q':=by
 intro L
 induction L with
 |nil=>
  grind
 |cons e L ihL=>
  intro M q q' h i j a;cases M with
  |nil=>simp at h
  |cons e' M=>
   rw[G9,G9,Q9,Q9]at a;have b:=fun x d=>i x (.tail _ d)
   have c:=fun x d=>j x (.tail _ d)
   obtain⟨n,o⟩:=zm1 hok ih (i e (.head _)) (j e' (.head _)) (zi6 (fun e a r=>zi5 hok a r) L b q) (zi6 (fun e a r=>zi5 hok a r) M c q') a;obtain⟨k,l⟩:=ihL M q q' (by simpa using h) b c o;exact⟨by rw[n,k],l⟩
theorem zlj (f:Nat) (x:Nd):(entS ns f x).length=x.items.length:=by
 unfold entS;split
 .rw[(zba _).length_eq];simp[ents]
 .simp[ents]
theorem zps {a b:Bool} {r r':Str} (h1:no33 r) (h2:no33 r') (h:(if a=true then[33]else[])++r=(if b=true then[33]else[])++r'):a=b/\r=r':=by
 cases a<;>cases b<;>simp at h ⊢
 .exact h
 .rw[h]at h1;simp[no33]at h1
 .rw[<-h]at h2;simp[no33]at h2
 .exact h
theorem zfi (hok:NodesOk ns) (hr:Refs ns) {f g i j:Nat} (ih:SplitAt ns f) (hi:TOk ns (f+1) i) (hj:TOk ns (g+1) j) {r r':Str} (h1:no33 r) (h2:no33 r') (h:printF ns (f+1) i++r=printF ns (g+1) j++r'):
 (ns[i]'hi.lt).kind=(ns[j]'hj.lt).kind/\(ns[i]'hi.lt).text=(ns[j]'hj.lt).text/\(ns[i]'hi.lt).ord=(ns[j]'hj.lt).ord/\(ns[i]'hi.lt).items.length=(ns[j]'hj.lt).items.length/\entS ns f (ns[i]'hi.lt)=entS ns g (ns[j]'hj.lt)/\r=r':=by
 have v:=zpr hok hr hi.lt hi.tall;have m:=zpr hok hr hj.lt hj.tall;rw[zan (K0 hi.lt),zan (K0 hj.lt)]at h;have k1:=hok _ (Q0 hi.lt);have k2:=hok _ (Q0 hj.lt);have s:=zlj (ns:=ns) f (ns[i]'hi.lt);have t:=zlj (ns:=ns) g (ns[j]'hj.lt);generalize ns[i]'hi.lt=x at *;generalize ns[j]'hj.lt=y at *;simp only[Y4,Q9]at h;injection h with h3 h4
 have o:=congrArg UInt8.toNat h3;rw[UInt8.toNat_ofNat',UInt8.toNat_ofNat',X0 (by omega),X0 (by omega)]at o;have a:x.kind=y.kind:=by omega
 obtain⟨p,u⟩:=zi4 (by decide) h4;obtain⟨n,q⟩:=List.append_inj u p;obtain⟨b,c⟩:=zi4 (by decide) q;rw[<-a]at m;obtain⟨d,e⟩:=zm2 hok ih _ _ _ _ (by rw[s,t,b]) v m c;obtain⟨k,l⟩:=zps h1 h2 e;exact⟨a,n,k,b,d,l⟩
theorem zda (hok:NodesOk ns) (hr:Refs ns):∀f,SplitAt ns f:=by
 intro f
 induction f with
 |zero=>intro i g j r o k;exact absurd k.tall id
 |succ f ih=>
  intro i g j r o k l n m h;cases g with
  |zero=>exact absurd l.tall id
  |succ g=>
   obtain⟨a,b,c,d,e,p⟩:=zfi hok hr ih k l n m h;refine⟨?_,p⟩;rw[zan (K0 k.lt),zan (K0 l.lt),a,b,c,d,e]
theorem zhe (hok:NodesOk ns) (hr:Refs ns):∀(f i j:Nat),TOk ns f i->TOk ns f j->printF ns f i=printF ns f j->sameF ns f i j=true:=by
 intro f
 induction f with
 |zero=>intro i j n;exact absurd n.tall id
 |succ f ih=>
  intro i j n t h;obtain⟨a,b,c,d,e,_⟩:=zfi hok hr (zda hok hr f) n t (r:=[]) (r':=[]) (by simp[no33]) (by simp[no33]) (by rw[h]);have w:∀x∈succ ns i,TOk ns f x:=fun x E=>⟨hr.succ i x E,n.tall x E⟩
  have v:∀x∈succ ns j,TOk ns f x:=fun x E=>⟨hr.succ j x E,t.tall x E⟩
  have s1:succ ns i=(ns[i]'n.lt).keys++(ns[i]'n.lt).items:=by unfold succ;rw[K0 n.lt]
  have s2:succ ns j=(ns[j]'t.lt).keys++(ns[j]'t.lt).items:=by unfold succ;rw[K0 t.lt]
  rw[s1]at w;rw[s2]at v;have S:=hok _ (Q0 n.lt);have M:=hok _ (Q0 t.lt);unfold sameF;rw[K0 n.lt,K0 t.lt];generalize ns[i]'n.lt=x at *;generalize ns[j]'t.lt=y at *;simp only;rw[if_neg (by rintro(h|h|h|h)<;>contradiction)];have P:∀k,k<x.items.length->TOk ns f (x.items.getD k 0):=fun k m=>w _ (W1 _ (by rw[K2,K0 m];exact Q0 m))
  have R:∀k,k<y.items.length->TOk ns f (y.items.getD k 0):=fun k m=>v _ (W1 _ (by rw[K2,K0 m];exact Q0 m))
  have K:x.kind=10->∀k,k<x.items.length->TOk ns f (x.keys.getD k 0):=fun q k m=>w _ (X8 _ (by rw[K2,K0 (by rw[S.2.2 q];exact m)];exact Q0 _))
  have I:y.kind=10->∀k,k<y.items.length->TOk ns f (y.keys.getD k 0):=fun q k m=>v _ (X8 _ (by rw[K2,K0 (by rw[M.2.2 q];exact m)];exact Q0 _))
  have J:∀{a b a' b':Nat},TOk ns f a->TOk ns f b->TOk ns f a'->TOk ns f b'->printF ns f a++printF ns f b=printF ns f a'++printF ns f b'->sameF ns f a a'=true/\sameF ns f b b'=true:=by
   intro a b a' b' L N B C u;obtain⟨z,D⟩:=zda hok hr f a f a' _ _ L B (by simpa using(za4 hok N []).1) (by simpa using(za4 hok C []).1) u;exact⟨ih a a' L B z,ih b b' N C D⟩
  by_cases hm:x.kind=10/\x.ord=false
  .rw[if_pos hm];unfold entS at e;rw[if_pos hm,if_pos ⟨a▸hm.1,c▸hm.2⟩]at e;have O:=zpq e;rw[Q1];intro p H;obtain⟨k,m,A⟩:=F6.1 H;have g:k<x.items.length:=by rw[E1]at m;omega
   have F:k<x.keys.length:=by rw[E1]at m;omega
   rw[J5]at A;subst A;have s:(printF ns f (x.keys.getD k 0)++printF ns f (x.items.getD k 0))∈ents ns f y:=by
    refine O.mem_iff.1 ?_;unfold ents;exact Z5.2 ⟨k,Q6.2 g,by rw[if_pos hm.1]⟩
   unfold ents at s;obtain⟨l,Q,u⟩:=Z5.1 s;have o:=Q6.1 Q;rw[if_pos (a▸hm.1)]at u;obtain⟨z,D⟩:=J (K hm.1 k g) (P k g) (I (a▸hm.1) l o) (R l o) u.symm;have G:l<y.keys.length:=by rw[M.2.2 (a▸hm.1)];exact o
   rw[List.any_eq_true];refine⟨(y.keys[l],y.items[l]),F6.2 ⟨l,by rw[E1];omega,by rw[J5]⟩,?_⟩;rw[K2,K0 F,K2,K0 G]at z;rw[K2,K0 g,K2,K0 o]at D;simp only[G5]at z D;rw[z,D];rfl
  .rw[if_neg hm];unfold entS at e;rw[if_neg hm,if_neg (by rw[<-a,<-c];exact hm)]at e;unfold ents at e;rw[Q1];intro k m;have g:=Q6.1 m;have u:((Q3 x.items.length).map (fun k=>(if x.kind=10 then printF ns f (x.keys.getD k 0)else[])++printF ns f (x.items.getD k 0)))[k]? =((Q3 y.items.length).map (fun k=>(if y.kind=10 then printF ns f (y.keys.getD k 0)else[])++printF ns f (y.items.getD k 0)))[k]? :=by rw[e]
   rw[G8,G8,G2 g,G2 (d▸g)]at u;simp only[Z3,Option.some.injEq]at u;by_cases q:x.kind=10
   .grind
   .grind
end
end Gr
theorem zvq (s:Gr.Str) (k:Nat) (i:Int) (hi:i=k) (h:k<=s.length) (W:World):(Instr.slice 9 (.string ⟨s.toArray⟩) none (some (.int .i64 i)) none).run prog W=.ok (.string ⟨(s.take k).toArray⟩) W:=by
 subst hi;rw[run_slice_string_h (P:=prog) W 9 ⟨s.toArray⟩ underlying9 .i64 k (by omega) (by simp[ByteArray.size];omega)]
 congr 2
 apply ByteArray.ext;simp
theorem zyv (s:Gr.Str) (k:Nat) (i:Int) (hi:i=k) (h:k<=s.length) (W:World):(Instr.slice 9 (.string ⟨s.toArray⟩) (some (.int .i64 i)) none none).run prog W=.ok (.string ⟨(s.drop k).toArray⟩) W:=by
 subst hi;rw[run_slice_string_l (P:=prog) W 9 ⟨s.toArray⟩ underlying9 .i64 k (by omega) (by simp[ByteArray.size];omega)]
 congr 2
 apply ByteArray.ext;simp[ByteArray.size];rw[U6 (by simp)]
theorem zw0 (a b:Gr.Str):(⟨a.toArray⟩:ByteArray)++⟨b.toArray⟩=⟨(a++b).toArray⟩:=by
 apply ByteArray.ext;simp
theorem zad (a b:Gr.Str) (h:a.length+b.length<=9223372036854775807) (W:World):(Op.stringOp .add ⟨a.toArray⟩ ⟨b.toArray⟩).run prog W=.ok (.string ⟨(a++b).toArray⟩) W:=by
 rw[run_string_add_sum (P:=prog) (w:=W) ⟨a.toArray⟩ ⟨b.toArray⟩ (by simpa[ByteArray.size]using h),zw0]
theorem zp7 (a b:Gr.Str):((⟨a.toArray⟩:ByteArray)==⟨b.toArray⟩)=decide (a=b):=by
 show(a.toArray==b.toArray)=_;rw[Z9];simp
section
variable {P:Program} {ops:Array Oper} {md:Region.Mode}
def nopOf (o:Oper):Oper:={o with op:=.move (.const (.bool false)),dst:=none}
def zhp (md:Region.Mode) (ops:Array Oper):Bool:=(Q3 ops.size).all fun j=>((ops[j]?).map (·.after.all fun e=>!Region.binds md e || decide (e.on<j))).getD true
def apartB (ops:Array Oper):Bool:=(Q3 ops.size).all fun i=>(Q3 ops.size).all fun j=>decide (i=j) || match ops[i]?.bind (·.dst),ops[j]?.bind (·.dst)with
 |some a,some b=>decide (a≠b)
 |_,_=>true
def waitsB (md:Region.Mode) (ops:Array Oper) (s:Nat) (d:Tmp):Bool:=(Q3 ops.size).all fun j=>!(decide (ops[j]?.bind (·.dst)=some d)) || Region.waitsFor md ops s j
theorem zt2 {i j:Nat} {a:Tmp} (h:apartB ops=true) (hi:i<ops.size) (hj:j<ops.size) (hne:i≠j) (ha:ops[i]?.bind (·.dst)=some a):ops[j]?.bind (·.dst)≠some a:=by
 intro c;have b:=Q1.1 (Q1.1 h i (Q6.2 hi)) j (Q6.2 hj);rw[ha,c]at b;simp[hne]at b
theorem zhq {C:World->Prop} {aF:Act} {d:Tmp}:∀(fuel:Nat) (listed:Array Bool) (a:Act),(∀j,listed.getD j true=false->ops[j]?.bind (·.dst)≠some d)->
 wpAnyQ P md ops C (fun a'=>a'=aF) fuel listed a->a.tmps[d]? =aF.tmps[d]?
 | 0,_,_,_,h=>by rw[h.2]
 |fuel+1,listed,a,hd,h=>by
  cases hr:Region.ready md ops listed with
  |nil=>rw[h.1 hr]
  |cons i l=>
   have n:i∈Region.ready md ops listed:=by rw[hr];exact .head _
   obtain⟨g,o,e,_⟩:=mem_ready.1 n;have k:o.dst≠some d:=by have:=hd i g;rwa[e]at this
   have f:∀j,(listed.setIfInBounds i true).getD j true=false->ops[j]?.bind (·.dst)≠some d:=by
    intro j hj;by_cases hij:i=j
    .subst hij;rw[e];exact k
    .simp_all
   have c:∀v,wpAnyQ P md ops C (fun a'=>a'=aF) fuel (listed.setIfInBounds i true) (a.put o.dst v)->a.tmps[d]? =aF.tmps[d]? :=by
    intro v m;have:=zhq fuel _ _ f m;rw[<-this];unfold Act.put;cases hod:o.dst with
    |none=>rfl
    |some d2=>
     grind
   have b:=h.2 i n;unfold qOp at b;simp only[e]at b;split at b
   .obtain⟨v,_,m⟩:=b;exact c v m
   .exact c _ b
theorem zt3 {a:Act} {dst:Option Tmp} {u v:Value} (h:∀d,dst=some d->(a.put dst u).tmps[d]? =(a.put dst v).tmps[d]?):a.put dst u=a.put dst v:=by
 cases dst with
 |none=>rfl
 |some d=>
  have b:=h d rfl;unfold Act.put at b ⊢;simp only at b ⊢;by_cases hd:d<a.tmps.size
  .grind
  .rw[D2 (R7.1 hd),D2 (R7.1 hd)]
theorem znb {listed:Array Bool} (he:zhp md ops=true) (hsz:listed.size=ops.size) (hr:Region.ready md ops listed=[]):∀j,j<ops.size->listed.getD j false=true:=by
 intro j
 induction j using W0 with
 |_ j ih=>
  intro a;cases hl:listed.getD j false with
  |true=>rfl
  |false=>
   exfalso;have d:j∈Region.ready md ops listed:=by
    rw[mem_ready];refine⟨getD_in (by omega) hl,ops[j],E3 a,fun e b g=>?_⟩;have c:=Q1.1 he j (Q6.2 a);rw[E3 a]at c;simp only[Z3,G5]at c;have f:=Array.all_eq_true'.1 c e b;simp only[g,L8,L9,qqv]at f;exact ih e.on f (by omega)
   rw[hr]at d;cases d
variable {s:Nat} {os:Oper} {D:Bool->World->Prop} {aF:Act} {Q:Exit->Act->World->Prop}
theorem zqm (_hs:ops[s]? =some os) {j:Nat} (hne:j≠s):(ops.setIfInBounds s (nopOf os))[j]? =ops[j]? :=Array.getElem?_setIfInBounds_ne (Ne.symm hne)
theorem zhr (hs:ops[s]? =some os):(ops.setIfInBounds s (nopOf os))[s]? =some (nopOf os):=Array.getElem?_setIfInBounds_self_of_lt (Y5.1 hs).1
theorem zkl (hs:ops[s]? =some os) (hd:os.dst=none) (j:Nat):(ops.setIfInBounds s (nopOf os))[j]?.bind (·.dst)=ops[j]?.bind (·.dst):=by
 by_cases h:j=s
 .subst h;rw[zhr hs,hs];simp[nopOf,hd]
 .rw[zqm hs h]
theorem zkm (hs:ops[s]? =some os) (hd:os.dst=none) (t:Array Value):yielded (ops.setIfInBounds s (nopOf os)) t=yielded ops t:=by
 funext j
 unfold yielded;rw[zkl hs hd]
theorem zjb (hs:ops[s]? =some os) (listed:Array Bool) (i:Nat):i∈Region.ready md (ops.setIfInBounds s (nopOf os)) listed↔i∈Region.ready md ops listed:=by
 rw[mem_ready,mem_ready];by_cases h:i=s
 .subst h;rw[zhr hs,hs];constructor
  .rintro⟨a,o,c,b⟩;injection c with c
   subst c;exact⟨a,os,rfl,b⟩
  .rintro⟨a,o,c,b⟩;injection c with c
   subst c;exact⟨a,_,rfl,b⟩
 .rw[zqm hs h]
theorem zqn {p q:Tmp} {ty:TypeId} (hs:ops[s]? =some os) (hd:os.dst=none) (hg:os.guard=none) (hop:os.op=.store ty (.tmp p) (.tmp q)) (he:zhp md ops=true) (hap:apartB ops=true) (hp:waitsB md ops s p=true) (hq:waitsB md ops s q=true)
 (hst:∀w,D false w->∃w',(execOp aF.eval os).run P w=.ok .skip w'/\D true w') (hend:∀w,D true w->Q .normal aF w):
 ∀(fuel:Nat) (listed:Array Bool) (a:Act) (w:World),listed.size=ops.size->(∀b,wpAnyQ P md (ops.setIfInBounds s (nopOf os)) (D b) (fun a'=>a'=aF) fuel listed a)->D (listed.getD s false) w->wpAny P md ops Q fuel listed a w:=by
 have T:s<ops.size:=(Y5.1 hs).1;have h:∀(listed:Array Bool) (w:World),listed.size=ops.size->Region.ready md ops listed=[]->D (listed.getD s false) w->D true w:=fun listed w z t n=>by
  rwa[znb he z t s T]at n
 have r:∀listed,Region.ready md (ops.setIfInBounds s (nopOf os)) listed=[]↔Region.ready md ops listed=[]:=fun listed=>by
  rw[D8,D8];exact forall_congr' (fun i=>not_congr (zjb hs listed i))
 intro fuel
 induction fuel with
 |zero=>
  intro listed a w z t n;have f:=t true;refine⟨(r listed).1 f.1,?_⟩;rw[f.2];exact hend w (h listed w z ((r listed).1 f.1) n)
 |succ fuel ih=>
  intro listed a w z t n;refine⟨fun hr=>?_,fun i hi=>?_⟩
  .rw[(t true).1 ((r listed).2 hr)];exact hend w (h listed w z hr n)
  .obtain⟨N,o,y,G⟩:=mem_ready.1 hi;have H:i<ops.size:=(Y5.1 y).1;have I:=(zjb (md:=md) hs listed i).2 hi;have m:(listed.setIfInBounds i true).size=ops.size:=by simpa using z
   by_cases his:i=s
   .subst his;obtain rfl:o=os:=Option.some.inj (y.symm.trans hs);have J:∀b,wpAnyQ P md (ops.setIfInBounds i (nopOf o)) (D b) (fun a'=>a'=aF) fuel (listed.setIfInBounds i true) a:=fun b=>by
     have f:=(t b).2 i I;unfold qOp at f;rw[zhr hs]at f;simp only at f;rw[if_pos (show Region.wanted (nopOf o) _=true by simp[Region.wanted,nopOf,hg])]at f;obtain⟨v,_,Y⟩:=f;exact Y
    have k:∀d,waitsB md ops i d=true->a.tmps[d]? =aF.tmps[d]? :=fun d Z=>by
     refine zhq (C:=D true) fuel _ a (fun j hj E=>?_) (J true);rw[zkl hs hd]at E;have u:j<ops.size:=by
      grind
     have R:=Q1.1 Z j (Q6.2 u);rw[qqk E]at R;simp only[L8,L9]at R;obtain⟨oj,O,e,U,X,V⟩:=Region.waitsFor_spec R;obtain rfl:oj=o:=Option.some.inj (O.symm.trans y);have h6:=G e U X;rw[V]at h6;by_cases hij:i=j
     .grind
     .simp_all
    have x:listed.getD i false=false:=getD_both N;rw[x]at n;obtain⟨w',F,hD⟩:=hst w n;have S:execOp a.eval o=execOp aF.eval o:=by
     have e1:a.eval (.tmp p)=aF.eval (.tmp p):=by
      show a.tmps.getD p undef=aF.tmps.getD p undef;rw[X6,X6,k p hp]
     have e2:a.eval (.tmp q)=aF.eval (.tmp q):=by
      show a.tmps.getD q undef=aF.tmps.getD q undef;rw[X6,X6,k q hq]
     unfold execOp;rw[hop];simp only[e1,e2]
    unfold wpOp;rw[y];simp only[Region.wanted,hg,if_true];left;unfold Oper.wp;rw[S,F];show wpAny P md ops Q fuel (listed.setIfInBounds i true) (a.put o.dst undef) w';rw[hd];refine ih _ a w' m J ?_;rw[show(listed.setIfInBounds i true).getD i false=true from by
     have:i<listed.size:=by omega
     simp[this]]
    exact hD
   .have x:(listed.setIfInBounds i true).getD s false=listed.getD s false:=getD_set_ne false his;have A:(ops.setIfInBounds s (nopOf os))[i]? =some o:=by rw[zqm hs his,y]
    have c:∀b,(if Region.wanted o (yielded ops a.tmps)then o.quiet P a (D b) (wpAnyQ P md (ops.setIfInBounds s (nopOf os)) (D b) (fun a'=>a'=aF) fuel (listed.setIfInBounds i true))else wpAnyQ P md (ops.setIfInBounds s (nopOf os)) (D b) (fun a'=>a'=aF) fuel (listed.setIfInBounds i true) (a.put o.dst undef)):=fun b=>by
     have f:=(t b).2 i I;unfold qOp at f;rw[A]at f;simp only[zkm hs hd]at f;exact f
    unfold wpOp;rw[y];simp only;by_cases hw:Region.wanted o (yielded ops a.tmps)=true
    .rw[if_pos hw];left;simp only[hw,if_true]at c;have B:∀(b b':Bool) (v v':Value),wpAnyQ P md (ops.setIfInBounds s (nopOf os)) (D b) (fun a'=>a'=aF) fuel (listed.setIfInBounds i true) (a.put o.dst v)->wpAnyQ P md (ops.setIfInBounds s (nopOf os)) (D b') (fun a'=>a'=aF) fuel (listed.setIfInBounds i true) (a.put o.dst v')->a.put o.dst v=a.put o.dst v':=fun b b' v v' k1 k2=>by
      refine zt3 (fun d L=>?_);have g:∀j,(listed.setIfInBounds i true).getD j true=false->(ops.setIfInBounds s (nopOf os))[j]?.bind (·.dst)≠some d:=fun j hj=>by
       rw[zkl hs hd];have hij:i≠j:=by
        rintro rfl;have:i<listed.size:=by omega
        simp[this]at hj
       by_cases u:j<ops.size
       .exact zt2 hap H u hij (by rw[y];exact L)
       .grind
      rw[zhq fuel _ _ g k1,zhq fuel _ _ g k2]
     obtain⟨v,Y,hk⟩:=c (listed.getD s false);refine Oper.wp_of_quiet (C:=D (listed.getD s false)) (K:=fun a'=>∀b,wpAnyQ P md (ops.setIfInBounds s (nopOf os)) (D b) (fun W=>W=aF) fuel (listed.setIfInBounds i true) a') n (fun a' w' M l=>ih _ a' w' m l (by rw[x];exact M)) ⟨v,Y,fun b=>?_⟩;obtain⟨v',_,l⟩:=c b;rw[B _ _ v v' hk l];exact l
    .grind
theorem zbd {id:Nat} {l:List Oper} {a:Act} {w:World} {p q:Tmp} {ty:TypeId} (s:Nat) (hm:P.follows .mixedOrders=true) (l':List Oper) (hs:l.toArray[s]? =some os) (hl':l'=l.set s (nopOf os)) (hd:os.dst=none) (hg:os.guard=none) (hop:os.op=.store ty (.tmp p) (.tmp q))
 (hB:Region.lexB .any l'.toArray=true) (he:zhp .any l.toArray=true) (hap:apartB l.toArray=true) (hp:waitsB .any l.toArray s p=true) (hq:waitsB .any l.toArray s q=true) (D:Bool->World->Prop) (hD:D false {w with drawn:=w.drawn+1})
 (h:∀b,wpQuiet P l'.toArray (D b) (fun a'=>a'=aF) l' a)
 (hst:∀w,D false w->∃w',(execOp aF.eval os).run P w=.ok .skip w'/\D true w') (hend:∀w,D true w->Q .normal aF w):(Code.region id l.toArray true).wp P Q a w:=by
 simp only[Region.lexB,K6]at hB;have e:l.toArray.setIfInBounds s (nopOf os)=l'.toArray:=by rw[hl'];simp
 have c:l'.length=l.toArray.size:=by rw[hl'];simp
 refine wp_region_any hm ?_;have hsl:s<l.toArray.size:=(Y5.1 hs).1;refine zqn hs hd hg hop he hap hp hq hst hend _ _ a _ (by simp) (fun b=>?_) (by rw[getD_replicate_false];exact hD);rw[e,<-c];have:=wpAnyQ_lex (C:=D b) (md:=.any) hB.1 l' 0 (J9 l'.length false) a (by simp) (by simpa using hB.2) (h b);exact this
end
structure WL (g:Nat) (t:TypeId) (w0:World) (cs:Array Value) where
 w:World
 h:KB g w0 w
 hc:Blk w g t cs
theorem Calls.late {P:Program} {f:FuncId} {args:Array Value} {g:Nat} {t:TypeId} {w0:World} {cs:Array Value} {x:WL g t w0 cs} {v:Value} (h:Calls P f args x.w fun e w'=>e=.returned v/\Below x.w.heap.size x.w w'):
 Calls P f args x.w fun e w''=>e=.returned v/\∃y:WL g t w0 cs,w''=y.w:=h.mono fun _ _ ⟨b,a⟩=>⟨b,⟨_,x.h.trans (KB.of_below a),x.hc.below a x.hc.lt⟩,rfl⟩
def tl:Nat->Code->Code
 | 0,c=>c
 |n+1,.seq _ b=>tl n b
 |_+1,c=>c
namespace Flt
open Ieee
theorem b52:Ieee.double.binade=4503599627370496:=by decide
theorem sgnW:Ieee.double.signWeight=9223372036854775808:=by decide
theorem infR:Ieee.double.infRung=9218868437227405312:=by decide
theorem leastP:Ieee.double.leastPlace=-1074:=by decide
theorem fracB:Ieee.double.fractionBits=52:=rfl
theorem cut0 (neg:Bool) (n:Nat):Toward.even.cut neg n 0=n:=by
 have h:(1:Nat) <<<min 0 (n.log2+2)=1:=by rw[Nat.zero_min];rfl
 unfold Toward.cut;rw[h];simp[R4]
theorem zp2 (neg:Bool) (K d:Nat) (hK:0<K):Toward.even.cut neg (K*2 ^ d) d=K:=by
 have a:0<2 ^ d:=Q2 d;have hl:d<=(K*2 ^ d).log2:=(R5 (by have:=D9 hK a;omega)).2 (Nat.le_mul_of_pos_left _ hK);have h:(1:Nat) <<<min d ((K*2 ^ d).log2+2)=2 ^ d:=by rw[X3 (by omega),U1,F8]
 unfold Toward.cut;rw[h];simp[Nat.mul_div_cancel _ a,Nat.mul_mod_left]
theorem zwx (M:Nat) (p last:Int) (hM:M≠0) (hlast:max (p+(M.log2:Int)-52) (-1074)=last) (h:last<=p):Ieee.double.nearest false M p=min ((last+1074).toNat*4503599627370496+M*2 ^ (p-last).toNat) 9218868437227405312:=by
 unfold Format.nearest;rw[if_neg hM,leastP,b52,infR,fracB];simp only[Format.word,X1,if_false];rw[show((52:Nat):Int)=52 from rfl,hlast,show(last-p).toNat=0 from by omega,cut0,U1,show last- -1074=last+1074 from by omega]
theorem zi9 (M K:Nat) (p last:Int) (hM:M≠0) (hlast:max (p+(M.log2:Int)-52) (-1074)=last) (h:p<=last) (hK:M=K*2 ^ (last-p).toNat):Ieee.double.nearest false M p=min ((last+1074).toNat*4503599627370496+K) 9218868437227405312:=by
 unfold Format.nearest;rw[if_neg hM,leastP,b52,infR,fracB];simp only[Format.word,X1,if_false];rw[show((52:Nat):Int)=52 from rfl,hlast,show(p-last).toNat=0 from by omega,show last- -1074=last+1074 from by omega,U1,Nat.pow_zero,F9,hK,zp2];rcases Y7 K with h0|h0
 .grind
 .exact h0
theorem zki (m L:Nat) (h1:2 ^ L<=m) (h2:m<2 ^ (L+1)):m.log2=L:=by
 have c:m≠0:=by have:=Q2 L;omega
 have a:=(R5 c).2 h1;have b:=(Nat.log2_lt c).2 h2;omega
def lastP (L:Nat) (e:Int):Int:=max (e+L-52) (-1074)
def sig (m L:Nat) (e:Int):Nat:=m*2 ^ (e-lastP L e).toNat
def fw (m L:Nat) (e:Int):Nat:=(lastP L e+1074).toNat*4503599627370496+sig m L e
structure Fits (m L:Nat) (e:Int):Prop where
 odd:m%2=1
 lo:2 ^ L<=m
 hi:m<2 ^ (L+1)
 len:L+1<=53
 e0:-1074<=e
 e1:e+L+1<=1024
section
variable {m L:Nat} {e:Int}
theorem Fits.last_le (h:Fits m L e):lastP L e<=e:=by have:=h.len;have:=h.e0;unfold lastP;omega
theorem zfn (a:Nat) (h:a<=53):2 ^ a<=9007199254740992:=V2 (n:=2) (by omega) h
theorem Fits.sig_bd (h:Fits m L e):0<sig m L e/\sig m L e<9007199254740992/\(4503599627370496<=sig m L e\/lastP L e=-1074)/\lastP L e<=971/\-1074<=lastP L e:=by
 have h1:=h.len;have h2:=h.e0;have h3:=h.e1;have d:=h.lo;have b:=h.hi;have h0:=h.last_le;have hd:L+(e-lastP L e).toNat<=52:=by unfold lastP;omega
 have a:0<m:=by have:=Q2 L;omega
 refine⟨D9 a (Q2 _),?_,?_,by unfold lastP;omega,by unfold lastP;omega⟩
 .have:sig m L e<2 ^ (L+1)*2 ^ (e-lastP L e).toNat:=V5 b (Q2 _);rw[<-X9]at this;exact X2 this (zfn _ (by omega))
 .by_cases hc:e+L-52< -1074
  .right;unfold lastP;omega
  .left;have c:L+(e-lastP L e).toNat=52:=by unfold lastP;omega
   have:2 ^ L*2 ^ (e-lastP L e).toNat<=sig m L e:=W5 _ d;rw[<-X9,c]at this;exact this
theorem Fits.fw_lt (h:Fits m L e):0<fw m L e/\fw m L e<9218868437227405312:=by
 obtain⟨a,b,c,d,f⟩:=h.sig_bd;unfold fw;omega
theorem Fits.read (h:Fits m L e):Ieee.double.read (fw m L e)=.number false (sig m L e) (lastP L e):=by
 obtain⟨a,b,c,d,f⟩:=h.sig_bd;obtain⟨j,l⟩:=h.fw_lt;obtain⟨k,i⟩:∃k:Nat,lastP L e=-1074+k:=⟨(lastP L e+1074).toNat,by omega⟩
 have g:fw m L e=k*4503599627370496+sig m L e:=by unfold fw;rw[i,show(-1074+(k:Int)+1074).toNat=k from by omega]
 unfold Format.read;rw[sgnW,b52,infR,leastP];have n:fw m L e /9223372036854775808=0:=L0 (by omega);have o:fw m L e%9223372036854775808=fw m L e:=X0 (by omega);rw[n,o];simp only[R1];rw[i,g];rw[g]at j l;by_cases hn:k*4503599627370496+sig m L e<4503599627370496
 .grind
 .grind
theorem Fits.ofNat (h:Fits m L e):floatOfInt .f64 (m:Int)=(L+1022)*4503599627370496+m*2 ^ (52-L):=by
 have h1:=h.len;have d:=h.lo;have a:=h.hi;have c:m≠0:=by have:=Q2 L;omega
 have b:=zki m L d a;unfold floatOfInt FloatKind.nearest FloatKind.encode FloatKind.format;simp only[Format.write];rw[show decide ((m:Int)<0)=false from by simp,Int.natAbs_natCast,zwx m 0 ((L:Int)-52) c (by rw[b];omega) (by omega)];have f:((L:Int)-52+1074).toNat=L+1022:=by omega
 have g:(0-((L:Int)-52)).toNat=52-L:=by omega
 rw[f,g];have:m*2 ^ (52-L)<9007199254740992:=by
  have:m*2 ^ (52-L)<2 ^ (L+1)*2 ^ (52-L):=V5 a (Q2 _);rw[<-X9,show L+1+(52-L)=53 from by omega]at this;exact this
 omega
theorem Fits.full (h:Fits m L e):4503599627370496<=m*2 ^ (52-L)/\m*2 ^ (52-L)<9007199254740992:=by
 have h1:=h.len;have a:=h.lo;have b:=h.hi;constructor
 .have:2 ^ L*2 ^ (52-L)<=m*2 ^ (52-L):=W5 _ a;rw[<-X9,show L+(52-L)=52 from by omega]at this;exact this
 .have:m*2 ^ (52-L)<2 ^ (L+1)*2 ^ (52-L):=V5 b (Q2 _);rw[<-X9,show L+1+(52-L)=53 from by omega]at this;exact this
theorem zdp (k s:Nat) (hk:1<=k) (hk2:k<=2046) (hs:4503599627370496<=s) (hs2:s<9007199254740992):Ieee.double.read (k*4503599627370496+(s-4503599627370496))=.number false s ((k:Int)-1075):=by
 unfold Format.read;rw[sgnW,b52,infR,leastP];have a:(k*4503599627370496+(s-4503599627370496)) /9223372036854775808=0:=L0 (by omega);have b:(k*4503599627370496+(s-4503599627370496))%9223372036854775808=k*4503599627370496+(s-4503599627370496):=X0 (by omega);have c:(k*4503599627370496+(s-4503599627370496))%4503599627370496=s-4503599627370496:=by omega
 have d:(k*4503599627370496+(s-4503599627370496)) /4503599627370496=k:=by omega
 simp only[a,b,c,d,R1];rw[if_neg (by omega),if_pos (by omega),show 4503599627370496+(s-4503599627370496)=s from by omega,show -1074+((k-1:Nat):Int)=(k:Int)-1075 from by omega];rfl
theorem Fits.mul_one (h:Fits m L e) (hn:-1022<=e+L):Ieee.double.mul 4607182418800017408 ((e+L+1023).toNat*4503599627370496+(m*2 ^ (52-L)-4503599627370496))=some (fw m L e):=by
 obtain⟨j,i⟩:=h.full;have h1:=h.len;have h2:=h.e0;have h3:=h.e1;obtain⟨g0,d⟩:=h.fw_lt;have c:=zdp 1023 4503599627370496 (by omega) (by omega) (by omega) (by omega);rw[show 1023*4503599627370496+(4503599627370496-4503599627370496)=4607182418800017408 from rfl]at c;have g:=zdp (e+L+1023).toNat (m*2 ^ (52-L)) (by omega) (by omega) j i;unfold Format.mul;rw[c,g];simp only[Datum.product,Z3,Format.write,L3];generalize hS:m*2 ^ (52-L)=S at *;have f:(4503599627370496*S).log2=104:=zki _ _ (by omega) (by omega);have a:lastP L e=e+L-52:=by unfold lastP;omega
 have b:sig m L e=S:=by unfold sig;rw[a,show(e-(e+↑L-52)).toNat=52-L from by omega,hS]
 rw[zi9 (4503599627370496*S) S _ (e+L-52) (by omega) (by rw[f];omega) (by omega) (by rw[show(e+(L:Int)-52-(((1023:Nat):Int)-1075+(((e+L+1023).toNat:Int)-1075))).toNat=52 from by omega,U2])];unfold fw at d ⊢;rw[a,b]at d ⊢;refine congrArg some ?_;exact X3 (by omega)
theorem Fits.mul_small (h:Fits m L e) (hn:e+L< -1022):Ieee.double.mul 4368491638549381120 ((e+L+1076).toNat*4503599627370496+(m*2 ^ (52-L)-4503599627370496))=some (fw m L e):=by
 obtain⟨k,j⟩:=h.full;have h1:=h.len;have h2:=h.e0;have h3:=h.e1;obtain⟨g0,d⟩:=h.fw_lt;have c:=zdp 970 4503599627370496 (by omega) (by omega) (by omega) (by omega);rw[show 970*4503599627370496+(4503599627370496-4503599627370496)=4368491638549381120 from rfl]at c;have g:=zdp (e+L+1076).toNat (m*2 ^ (52-L)) (by omega) (by omega) k j;unfold Format.mul;rw[c,g];simp only[Datum.product,Z3,Format.write,L3];have a:lastP L e=-1074:=by unfold lastP;omega
 obtain⟨q,hq⟩:∃q:Nat,e=-1074+q:=⟨(e+1074).toNat,by omega⟩
 have b:sig m L e=m*2 ^ q:=by unfold sig;rw[a,show(e- -1074).toNat=q from by omega]
 have i:4503599627370496*(m*2 ^ (52-L))=m*2 ^ q*2 ^ (104-L-q):=by
  rw[show(4503599627370496:Nat)=2 ^ 52 from by decide,<-X5,U2 (2 ^ 52) m,X5,<-X9,X5,<-X9,show 52+(52-L)=q+(104-L-q)from by omega]
 have f:(4503599627370496*(m*2 ^ (52-L))).log2=104:=zki _ _ (by omega) (by omega);rw[zi9 _ (m*2 ^ q) (((970:Nat):Int)-1075+(((e+L+1076).toNat:Int)-1075)) (-1074) (by omega) (by rw[f];omega) (by omega) (by rw[i,show((-1074:Int)-(((970:Nat):Int)-1075+(((e+L+1076).toNat:Int)-1075))).toNat=104-L-q from by omega])];unfold fw at d ⊢;rw[a,b]at d ⊢;refine congrArg some ?_;exact X3 (by omega)
theorem Fits.order_self (h:Fits m L e):Ieee.double.order (fw m L e) (fw m L e)=some .eq:=by
 unfold Format.order;rw[h.read];simp[Datum.order]
theorem Fits.order_zero (h:Fits m L e):Ieee.double.order (fw m L e) 0=some .gt:=by
 obtain⟨a,b,c,d,f⟩:=h.sig_bd;unfold Format.order;have g:Ieee.double.read 0=.number false 0 (-1074):=by decide
 rw[h.read,g];simp only[Datum.order,signed,X1,if_false,Nat.zero_shiftLeft];rw[show min (lastP L e) (-1074)=-1074 from by omega,U1];have:0<sig m L e*2 ^ (lastP L e- -1074).toNat:=D9 a (Q2 _);generalize sig m L e*2 ^ (lastP L e- -1074).toNat=N at this;simp only[compare,compareOfLessAndEq];rw[if_neg (by omega),if_neg (by omega)]
theorem Fits.order_max (h:Fits m L e):Ieee.double.order (fw m L e) 9218868437227405311=some .lt\/Ieee.double.order (fw m L e) 9218868437227405311=some .eq:=by
 obtain⟨a,b,c,d,f⟩:=h.sig_bd;unfold Format.order;have g:Ieee.double.read 9218868437227405311=.number false 9007199254740991 971:=by decide
 rw[h.read,g];simp only[Datum.order,signed,X1,if_false];rw[show min (lastP L e) 971=lastP L e from by omega,show(lastP L e-lastP L e).toNat=0 from by omega,G6,U1];have:sig m L e<=9007199254740991*2 ^ (971-lastP L e).toNat:=Y0 (by omega) (Z4 9007199254740991 (Q2 _));generalize 9007199254740991*2 ^ (971-lastP L e).toNat=N at this;simp only[compare,compareOfLessAndEq];by_cases h:(sig m L e:Int)<(N:Int)
 .rw[if_pos h];exact .inl rfl
 .grind
theorem Fits.fields (h:Fits m L e):∃z:Nat,z<=52/\sig m L e=m*2 ^ z/\e=lastP L e+z/\
 ((fw m L e /4503599627370496=0/\fw m L e%4503599627370496=m*2 ^ z/\e=-1074+z)\/(∃k:Nat,fw m L e /4503599627370496=k+1/\k+1<=2046/\fw m L e%4503599627370496+4503599627370496=m*2 ^ z/\e=(k:Int)-1074+z)):=by
 obtain⟨a,b,c,d,f⟩:=h.sig_bd;have h1:=h.len;have h2:=h.e0;have h3:=h.e1;have h0:=h.last_le;refine⟨(e-lastP L e).toNat,by unfold lastP;omega,rfl,by omega,?_⟩;obtain⟨k,j⟩:∃k:Nat,lastP L e=-1074+k:=⟨(lastP L e+1074).toNat,by omega⟩
 have g:fw m L e=k*4503599627370496+sig m L e:=by unfold fw;rw[j,show(-1074+(k:Int)+1074).toNat=k from by omega]
 have i:m*2 ^ (e-lastP L e).toNat=sig m L e:=rfl;rw[i,g];by_cases hn:sig m L e<4503599627370496
 .omega
 .grind
theorem zyt (m z:Nat) (hm:m%2=1) (hz:m*2 ^ z<18446744073709551616):Lib.ctz 64 (m*2 ^ z)=z:=by
 have b:0<m*2 ^ z:=D9 (by omega) (Q2 _);obtain⟨q,a,_⟩:=Lib.ctzFrom_spec 64 (m*2 ^ z) b hz;unfold Lib.ctz;rw[if_neg (by omega)];generalize Lib.ctzFrom 64 (m*2 ^ z)=c at a;rcases Nat.lt_trichotomy c z with h|h|h
 .obtain⟨d,rfl⟩:∃d,z=c+(d+1):=⟨z-c-1,by omega⟩
  rw[X9,J2]at a;have:=E6 (Q2 c) a;rw[Y9,<-X5]at this;omega
 .exact h
 .obtain⟨d,rfl⟩:∃d,c=z+(d+1):=⟨c-z-1,by omega⟩
  rw[X9,X5,U2 m]at a;have:=E6 (Q2 z) a;rw[Y9,X5,J2]at this;omega
end
end Flt
theorem zbx (a b:Nat) (ha:a<18446744073709551616) (hb:b<18446744073709551616):
 bits .andNot .u64 (a:Int) (b:Int)=((a &&& (18446744073709551615-b):Nat):Int):=by
 have hx:a &&& (18446744073709551615-b)<2 ^ 64:=Nat.and_lt_two_pow _ (by omega);have c:(BitVec.ofInt 64 (a:Int)).toNat=a:=by
  grind
 have d:(BitVec.ofInt 64 (b:Int)).toNat=b:=by
  grind
 show IntKind.u64.wrap ((BitVec.ofInt 64 (a:Int) &&& ~~~ BitVec.ofInt 64 (b:Int)).toNat:Int)=_;rw[BitVec.toNat_and,BitVec.toNat_not,c,d,IntKind.wrap_u64];rw[show 2 ^ 64-1-b=18446744073709551615-b from by omega];omega
theorem zew (a n:Nat):a &&& (2 ^ n-1)=a%2 ^ n:=Nat.and_two_pow_sub_one_eq_mod a n
theorem zwy (a n:Nat) (h:a<2 ^ n):a &&& 2 ^ n=0:=by
 apply Nat.eq_of_testBit_eq;intro i;rw[Nat.testBit_and,Nat.testBit_two_pow,Nat.zero_testBit];by_cases hi:n=i
 .subst hi;rw[Nat.testBit_lt_two_pow h];rfl
 .simp[hi]
theorem zyu (f k n:Nat) (h:f<2 ^ n):f ||| (k*2 ^ n)=f+k*2 ^ n:=by
 rw[Nat.or_comm,U2,<-Nat.two_pow_add_eq_or_of_lt h,D4]
theorem zkj (a:Nat) (h:a<9223372036854775808):bits .andNot .u64 (a:Int) 9223372036854775808=(a:Int):=by
 have:=zbx a 9223372036854775808 (by omega) (by omega);rw[show(18446744073709551615-9223372036854775808:Nat)=2 ^ 63-1 from by decide,zew,X0 (by omega)]at this;exact this
theorem ztu (a:Nat) (h:a<18446744073709551616):bits .and .u64 (a:Int) 4503599627370495=((a%4503599627370496:Nat):Int):=by
 have:=bits_and_u64_nat a 4503599627370495 h (by omega);rw[show(4503599627370495:Nat)=2 ^ 52-1 from by decide,zew]at this;exact this
theorem zm6 (a:Nat) (h:a<9223372036854775808):bits .andNot .u64 (a:Int) 9218868437227405312=((a%4503599627370496:Nat):Int):=by
 have:=zbx a 9218868437227405312 (by omega) (by omega);rw[show(18446744073709551615-9218868437227405312:Nat)=(2 ^ 52-1) ||| 2 ^ 63 from by decide,Nat.and_or_distrib_left,zew,zwy a 63 (by omega),Nat.or_zero]at this;exact this
theorem zp3 (f k:Nat) (h:f<4503599627370496) (hk:k<4096):bits .or .u64 (f:Int) ((k*4503599627370496:Nat):Int)=((k*4503599627370496+f:Nat):Int):=by
 have:=bits_or_u64_nat f (k*4503599627370496) (by omega) (by omega);rw[show f |||k*4503599627370496=f+k*4503599627370496 from zyu f k 52 h,D4]at this;exact this
theorem or_one (f:Nat) (h:f<4503599627370496):bits .or .u64 (f:Int) 4503599627370496=((f+4503599627370496:Nat):Int):=by
 have:=zp3 f 1 h (by omega);rw[F8,D4]at this;exact this
theorem zwz (k:Nat) (h:k<2048):bits .and .i64 (k:Int) 2047=(k:Int):=by
 have a:(BitVec.ofInt 64 (k:Int)).toNat=k:=by
  grind
 have b:(BitVec.ofInt 64 (2047:Int)).toNat=2047:=by decide
 show IntKind.i64.wrap ((BitVec.ofInt 64 (k:Int) &&& BitVec.ofInt 64 2047).toNat:Int)=_;rw[BitVec.toNat_and,a,b,show(2047:Nat)=2 ^ 11-1 from by decide,zew,X0 (by omega)];simp[IntKind.wrap,IntKind.signed,IntKind.bits];omega
theorem zcm (f:Nat) (w:World):(callFunc 114 #[.float .f64 f]).run prog w=.ok (.value (.int .u64 f)) w:=by
 rw[run_callFunc_extern func114 (by kernel_rfl) (by kernel_rfl) (by kernel_rfl) (e:=Extern.MathFloatBits.float64bits) (by kernel_rfl)];rfl
theorem za2 (n:Int) (w:World):(callFunc 104 #[.int .u64 n]).run prog w=.ok (.value (.float .f64 n.toNat)) w:=by
 rw[run_callFunc_extern func104 (by kernel_rfl) (by kernel_rfl) (by kernel_rfl) (e:=Extern.MathFloatBits.float64frombits) (by kernel_rfl)];rfl
theorem zhi (f:Nat) (hf:f<9223372036854775808) (w:World):Calls prog 142 #[.float .f64 f] w fun e w'=>e=.returned (.float .f64 f)/\w=w':=by
 have c1:=fun W=>zcm f W
 have c2:=fun W=>za2 (f:Int) W
 have c3:=zkj f hf;go_enter func142,ntmps142;go_wp2;go_ret;exact⟨rfl,rfl⟩
theorem zp4 (f:Nat) (hf:f<9223372036854775808) (w:World):Calls prog 110 #[.float .f64 f] w fun e w'=>e=.returned (.bool false)/\w=w':=by
 have c1:=fun W=>zcm f W
 have h0:(0:Int)<=(f:Int):=by omega
 have h1:(f:Int)<=9223372036854775807:=by omega
 have h2:IntKind.i64.wrap (f:Int)=(f:Int):=J0 _ (by omega);have h3:decide ((f:Int)<0)=false:=by simp
 go_enter func110,ntmps110;go_wp2;go_ret;exact⟨rfl,rfl⟩
theorem zln (f:Nat) (hf:f<9223372036854775808) (ho:(FloatKind.f64.format.order f 9218868437227405311==some Ordering.gt)=false) (w:World):Calls prog 111 #[.float .f64 f,.int .i64 0] w fun e w'=>e=.returned (.bool false)/\w=w':=by
 have a:=hid (fun W=>zhi f hf W);go_enter func111,ntmps111;go_wp2_with fail;refine(a.out _).mono ?_;rintro e w1 ⟨rfl,rfl⟩;go_wp2;go_ret;exact⟨rfl,rfl⟩
theorem ztv (f:Nat) (ho:(FloatKind.f64.format.order f f != some Ordering.eq)=false) (w:World):Calls prog 140 #[.float .f64 f] w fun e w'=>e=.returned (.bool false)/\w=w':=by
 go_enter func140,ntmps140;go_wp2;go_ret;exact⟨rfl,rfl⟩
theorem zp5 (f:Nat) (hf:f<9223372036854775808) (ho:(FloatKind.f64.format.order f 4503599627370496==some Ordering.lt)=false) (w:World):Calls prog 141 #[.float .f64 f] w fun e w'=>e=.returned (.tuple #[.float .f64 f,.int .i64 0])/\w=w':=by
 have a:=hid (fun W=>zhi f hf W);go_enter func141,ntmps141;go_wp2_with fail;refine(a.out _).mono ?_;rintro e w1 ⟨rfl,rfl⟩;go_wp2;go_ret2;exact⟨rfl,rfl⟩
namespace Flt
section
variable {m L:Nat} {e:Int}
theorem Fits.o_max (h:Fits m L e):(FloatKind.f64.format.order (fw m L e) 9218868437227405311==some Ordering.gt)=false:=by
 show(Ieee.double.order (fw m L e) 9218868437227405311==some Ordering.gt)=false;rcases h.order_max with h1|h1<;>rw[h1]<;>rfl
theorem Fits.o_self (h:Fits m L e):(FloatKind.f64.format.order (fw m L e) (fw m L e) != some Ordering.eq)=false:=by
 show(Ieee.double.order (fw m L e) (fw m L e) != some Ordering.eq)=false;rw[h.order_self];rfl
theorem Fits.o_zero (h:Fits m L e):(FloatKind.f64.format.order (fw m L e) 0==some Ordering.eq)=false:=by
 show(Ieee.double.order (fw m L e) 0==some Ordering.eq)=false;rw[h.order_zero];rfl
theorem Fits.at0 (h:Fits m L e):Fits m L 0:=⟨h.odd,h.lo,h.hi,h.len,by omega,by have:=h.len;omega⟩
theorem Fits.o_norm (h:Fits m L 0):(FloatKind.f64.format.order (fw m L 0) 4503599627370496==some Ordering.lt)=false:=by
 show(Ieee.double.order (fw m L 0) 4503599627370496==some Ordering.lt)=false;obtain⟨a,b,c,d,f⟩:=h.sig_bd;have hlen:=h.len;have hlp:lastP L 0=(L:Int)-52:=by unfold lastP;omega
 have c2:4503599627370496<=sig m L 0:=by rcases c with c|c<;>omega
 unfold Ieee.Format.order;have g:Ieee.double.read 4503599627370496=.number false 4503599627370496 (-1074):=by decide
 rw[h.read,g];simp only[Ieee.Datum.order,Ieee.signed,X1,if_false];rw[show min (lastP L 0) (-1074)=-1074 from by omega,show((-1074:Int)- -1074).toNat=0 from rfl,G6,U1];have:sig m L 0<=sig m L 0*2 ^ (lastP L 0- -1074).toNat:=Z4 _ (Q2 _);generalize sig m L 0*2 ^ (lastP L 0- -1074).toNat=N at this;simp only[compare,compareOfLessAndEq];rw[if_neg (by omega)];split<;>rfl
theorem Fits.fw0 (h:Fits m L 0):fw m L 0=(L+1022)*4503599627370496+m*2 ^ (52-L):=by
 have hlen:=h.len;have a:lastP L 0=(L:Int)-52:=by unfold lastP;omega
 unfold fw sig;rw[a,show((L:Int)-52+1074).toNat=L+1022 from by omega,show(0-((L:Int)-52)).toNat=52-L from by omega]
theorem Fits.parts0 (h:Fits m L 0):fw m L 0 /4503599627370496=L+1023/\fw m L 0%4503599627370496=m*2 ^ (52-L)-4503599627370496:=by
 obtain⟨f1,f2⟩:=h.full;rw[h.fw0];omega
end
end Flt
open Flt in
theorem zp6 (m L:Nat) (e:Int) (h:Flt.Fits m L e) (f:Nat) (hf:fw m L 0=f) (w:World):Calls prog 109 #[.float .f64 f,.int .i64 e] w fun r w'=>r=.returned (.float .f64 (fw m L e))/\w=w':=by
 have a:=h.at0;have l:=a.fw_lt.2;have u:=a.o_zero;have o:=hid (fun W=>zln f (by omega) (by rw[<-hf];exact a.o_max) W);have s:=hid (fun W=>ztv f (by rw[<-hf];exact a.o_self) W);have n:=hid (fun W=>zp5 f (by omega) (by rw[<-hf];exact a.o_norm) W);obtain⟨k,i⟩:=a.parts0;rw[hf]at u k i l;have c1:=fun W=>zcm f W
 have hlen:=h.len;have he0:=h.e0;have he1:=h.e1;have q:=hid h;have i1:(f:Int) /4503599627370496=(L:Int)+1023:=by omega
 have i2:IntKind.i64.wrap ((L:Int)+1023)=(L:Int)+1023:=J0 _ (by omega);have i3:bits .and .i64 ((L:Int)+1023) 2047=(L:Int)+1023:=by have:=zwz (L+1023) (by omega);simpa using this
 have p:bits .andNot .u64 (f:Int) 9218868437227405312=((m*2 ^ (52-L)-4503599627370496:Nat):Int):=by rw[zm6 f (by omega),i]
 have g:m*2 ^ (52-L)-4503599627370496<4503599627370496:=by omega
 by_cases hn:-1022<=e+L
 .obtain⟨X,c⟩:=ex ((e+L+1023).toNat*4503599627370496+(m*2 ^ (52-L)-4503599627370496))
  have b:=q.out.mul_one hn;have j:bits .or .u64 ((m*2 ^ (52-L)-4503599627370496:Nat):Int) ((e+(L:Int)+1023)*4503599627370496)=(X:Int):=by
   have:=zp3 (m*2 ^ (52-L)-4503599627370496) (e+L+1023).toNat g (by omega);rw[c]at this;rw[show(e+(L:Int)+1023)*4503599627370496=(((e+L+1023).toNat*4503599627370496:Nat):Int)from by omega];exact this
  rw[c]at b;have v:=fun W=>za2 (X:Int) W
  have t:=fun W=>run_float_arith (P:=prog) (w:=W) .mul 89 .f64 4607182418800017408 X (fw m L e) b
  obtain⟨Q,d⟩:=ex (m*2 ^ (52-L)-4503599627370496)
  rw[d]at p j;clear h a hf k i g c b d;go_enter func109,ntmps109;go_wp2_with (first| ((with_reducible refine(o.out _).mono ?_);rintro _ _ ⟨rfl,rfl⟩)| ((with_reducible refine(s.out _).mono ?_);rintro _ _ ⟨rfl,rfl⟩)| ((with_reducible refine(n.out _).mono ?_);rintro _ _ ⟨rfl,rfl⟩));go_ret;exact⟨rfl,rfl⟩
 .obtain⟨X,c⟩:=ex ((e+L+1076).toNat*4503599627370496+(m*2 ^ (52-L)-4503599627370496))
  have b:=q.out.mul_small (by omega);have j:bits .or .u64 ((m*2 ^ (52-L)-4503599627370496:Nat):Int) ((e+(L:Int)+53+1023)*4503599627370496)=(X:Int):=by
   have:=zp3 (m*2 ^ (52-L)-4503599627370496) (e+L+1076).toNat g (by omega);rw[c]at this;rw[show(e+(L:Int)+53+1023)*4503599627370496=(((e+L+1076).toNat*4503599627370496:Nat):Int)from by omega];exact this
  rw[c]at b;have v:=fun W=>za2 (X:Int) W
  have t:=fun W=>run_float_arith (P:=prog) (w:=W) .mul 89 .f64 4368491638549381120 X (fw m L e) b
  obtain⟨Q,d⟩:=ex (m*2 ^ (52-L)-4503599627370496)
  rw[d]at p j;clear h a hf k i g c b d;go_enter func109,ntmps109;go_wp2_with (first| ((with_reducible refine(o.out _).mono ?_);rintro _ _ ⟨rfl,rfl⟩)| ((with_reducible refine(s.out _).mono ?_);rintro _ _ ⟨rfl,rfl⟩)| ((with_reducible refine(n.out _).mono ?_);rintro _ _ ⟨rfl,rfl⟩));go_ret;exact⟨rfl,rfl⟩
namespace Cal
def leapB (y:Int):Bool:=(y.tmod 4==0) && (!(y.tmod 100==0) || (y.tmod 400==0))
def lp (y:Int):Int:=if leapB y=true then 1 else 0
def dim (y m:Int):Int:=if m=2 then 28+lp y else if m=4\/m=6\/m=9\/m=11 then 30 else 31
def tbl (m:Int):Int:=if m<=3 then 59 else if m<=4 then 90 else if m<=5 then 120 else if m<=6 then 151 else if m<=7 then 181 else if m<=8 then 212 else if m<=9 then 243 else if m<=10 then 273 else if m<=11 then 304 else if m<=12 then 334 else 365
def cum (y m:Int):Int:=if m<=1 then 0 else if m<=2 then 31 else tbl m+lp y
def fst (y:Int):Int:=365*y+(y+3) /4-(y+99) /100+(y+399) /400
def num (y m d:Int):Int:=fst y+cum y m+d-1-719528
def vld (y m d:Int):Bool:=decide (0<=y) && decide (y<=9999) && decide (1<=m) && decide (m<=12) && decide (1<=d) && decide (d<=dim y m)
theorem zyy (y:Int):0<=lp y/\lp y<=1:=by unfold lp;split<;>omega
theorem zqe (y:Int) (h:0<=y):leapB y=true↔(y%4=0/\(y%100≠0\/y%400=0)):=by
 unfold leapB;rw[V9 h,V9 h,V9 h];simp
theorem zlq (y:Int) (h:0<=y):fst (y+1)=fst y+365+lp y:=by
 unfold lp;have hl:=zqe y h;unfold fst;by_cases c:leapB y=true
 .grind
 .grind
theorem zlr (a b:Int) (_h0:0<=a) (h:a<=b):fst a+365*(b-a)<=fst b:=by unfold fst;omega
theorem zyz (a:Int) (h0:0<=a) (h:a<=10000):0<=fst a/\fst a<=3652425:=by unfold fst;omega
theorem zy0 (n:Int) (h0:0<=n):fst (n /366)<=n:=by unfold fst;omega
theorem zqf:fst 10000=3652425:=by decide
theorem zy1 (y m:Int):28<=dim y m/\dim y m<=31:=by
 have:=zyy y;unfold dim;split
 .omega
 .split<;>omega
theorem zz2 (y:Int):cum y 1=0:=rfl
theorem zho (y m:Int) (h1:1<=m) (h2:m<=12):cum y (m+1)=cum y m+dim y m:=by
 have a:m=1\/m=2\/m=3\/m=4\/m=5\/m=6\/m=7\/m=8\/m=9\/m=10\/m=11\/m=12:=by omega
 rcases a with rfl|rfl|rfl|rfl|rfl|rfl|rfl|rfl|rfl|rfl|rfl|rfl<;>simp[cum,dim,tbl]<;>omega
theorem zy2 (m:Int):59<=tbl m/\tbl m<=365:=by
 unfold tbl
 iterate 10 (split;decide)
 decide
theorem zy3 (y m:Int):0<=cum y m/\cum y m<=366:=by
 have:=zyy y;have:=zy2 m;unfold cum;split
 .omega
 .split<;>omega
theorem zy4 (y:Int):cum y 13=365+lp y:=rfl
theorem zls (y a b:Int) (h1:1<=a) (h:a<=b) (h2:b<=13):cum y a<=cum y b:=by
 have c:∀k:Nat,∀a:Int,1<=a->a+k<=13->cum y a<=cum y (a+k):=by
  intro k
  induction k with
  |zero=>intro a _ _;simp
  |succ k ih=>
   intro a h1 h2;have h3:=ih a h1 (by omega);have h4:=zho y (a+k) (by omega) (by omega);have:=zy1 y (a+k);rw[show a+((k+1:Nat):Int)=a+k+1 from by omega];omega
 have:=c (b-a).toNat a h1 (by omega);rwa[show a+((b-a).toNat:Int)=b from by omega]at this
theorem z0g {y m d:Int} (h:0<=y/\y<=9999/\1<=m/\m<=12/\1<=d/\d<=dim y m):vld y m d=true:=by
 simp[vld];omega
theorem zqg {y m d:Int} (h:vld y m d=true):0<=y/\y<=9999/\1<=m/\m<=12/\1<=d/\d<=dim y m:=by
 simp[vld]at h;omega
theorem zkk {y m d:Int} (h1:1<=m) (h2:m<=12) (h3:1<=d) (h4:d<=dim y m):0<=cum y m+d-1/\cum y m+d-1<365+lp y:=by
 have:=zy3 y m;have:=zho y m h1 h2;have a:=zls y (m+1) 13 (by omega) (by omega) (by omega);rw[zy4]at a;omega
theorem zvs {y m d y' m' d':Int} (h:vld y m d=true) (h':vld y' m' d'=true) (hl:y<y'\/y=y'/\(m<m'\/m=m'/\d<d')):num y m d<num y' m' d':=by
 have a:=zqg h;have b:=zqg h';have ia:=zkk (y:=y) (m:=m) (d:=d) (by omega) (by omega) (by omega) (by omega);have ib:=zkk (y:=y') (m:=m') (d:=d') (by omega) (by omega) (by omega) (by omega);unfold num;rcases hl with hl|⟨rfl,hl|⟨rfl,hl⟩⟩
 .have c:=zlq y (by omega);have e:=zlr (y+1) y' (by omega) (by omega);omega
 .have c:=zho y m (by omega) (by omega);have e:=zls y (m+1) m' (by omega) (by omega) (by omega);omega
 .omega
theorem zz3 {y m d y' m' d':Int} (h:vld y m d=true) (h':vld y' m' d'=true) (hn:num y m d=num y' m' d'):y=y'/\m=m'/\d=d':=by
 by_cases c1:y<y'\/y=y'/\(m<m'\/m=m'/\d<d')
 .have:=zvs h h' c1;omega
 .by_cases c2:y'<y\/y'=y/\(m'<m\/m'=m/\d'<d)
  .have:=zvs h' h c2;omega
  .omega
theorem z0h {y m d:Int} (h:vld y m d=true):-719528<=num y m d/\num y m d<=2932896:=by
 have a:=zqg h;have ia:=zkk (y:=y) (m:=m) (d:=d) (by omega) (by omega) (by omega) (by omega);have h1:=zlq y (by omega);have b:=zlr (y+1) 10000 (by omega) (by omega);have h3:=zyz y (by omega) (by omega);rw[zqf]at b;unfold num;omega
end Cal
namespace Gr
def numAt (s:List UInt8) (a n:Nat):Option Nat:=if a+n<=s.length/\((s.drop a).take n).all dig=true then some (val ((s.drop a).take n))else none
def isAt (s:List UInt8) (a:Nat) (c:UInt8):Bool:=s[a]? ==some c
def dateAt (s:List UInt8):Option (Nat×Nat×Nat):=
 match numAt s 0 4,numAt s 5 2,numAt s 8 2 with
 |some y,some m,some d=>if(isAt s 4 45 && isAt s 7 45)=true then some (y,m,d)else none
 |_,_,_=>none
structure Ck where
 h:Nat
 m:Nat
 s:Nat
 nanos:Nat
 stop:Nat
def clockAt (s:List UInt8) (a:Nat):Option Ck:=
 match numAt s a 2,numAt s (a+3) 2,numAt s (a+6) 2 with
 |some h,some m,some c=>
  if(isAt s (a+2) 58 && isAt s (a+5) 58)=true then
   if isAt s (a+8) 46=true then
    if((s.drop (a+9)).takeWhile dig).length=0\/9<((s.drop (a+9)).takeWhile dig).length then none
    else some ⟨h,m,c,val ((s.drop (a+9)).takeWhile dig)*10 ^ (9-((s.drop (a+9)).takeWhile dig).length),a+9+((s.drop (a+9)).takeWhile dig).length⟩
   else some ⟨h,m,c,0,a+8⟩
  else none
 |_,_,_=>none
structure Zn where
 z:UInt8
 h:Nat
 m:Nat
 stop:Nat
def zoneAt (s:List UInt8) (a:Nat):Option Zn:=
 if isAt s a 90=true then some ⟨90,0,0,a+1⟩
 else match numAt s (a+1) 2,numAt s (a+4) 2 with
  |some h,some m=>if((isAt s a 43 || isAt s a 45) && isAt s (a+3) 58)=true then some ⟨s.getD a 0,h,m,a+6⟩else none
  |_,_=>none
structure Mo where
 date:Bool
 time:Bool
 y:Nat
 m:Nat
 d:Nat
 h:Nat
 mi:Nat
 c:Nat
 nanos:Nat
 z:UInt8
 zh:Nat
 zm:Nat
def rd (s:List UInt8):Option Mo:=
 match dateAt s with
 |none=>match clockAt s 0 with
  |some k=>if k.stop=s.length then some ⟨false,true,0,0,0,k.h,k.m,k.s,k.nanos,0,0,0⟩else none
  |none=>none
 |some (y,m,d)=>
  if s.length=10 then some ⟨true,false,y,m,d,0,0,0,0,0,0,0⟩
  else if(isAt s 10 84 || isAt s 10 32)=true then match clockAt s 11 with
   |none=>none
   |some k=>if k.stop=s.length then some ⟨true,true,y,m,d,k.h,k.m,k.s,k.nanos,0,0,0⟩
    else match zoneAt s k.stop with
     |some z=>if z.stop=s.length then some ⟨true,true,y,m,d,k.h,k.m,k.s,k.nanos,z.z,z.h,z.m⟩else none
     |none=>none
  else none
def okR (x:Mo):Bool:=(!x.date || Cal.vld x.y x.m x.d) && decide (x.h<=23) && decide (x.mi<=59) && decide (x.c<=59) && decide (x.zh<=23) && decide (x.zm<=59)
def offS (x:Mo):Int:=if x.z=45 then -((3600*x.zh+60*x.zm:Nat):Int)else((3600*x.zh+60*x.zm:Nat):Int)
def secs (x:Mo):Int:=Cal.num x.y x.m x.d*86400+(3600*x.h+60*x.mi+x.c:Nat)-offS x
def pd:Nat->Nat->List UInt8
 | 0,_=>[]
 |w+1,x=>pd w (x /10)++[ch (x%10)]
theorem za9 (w x:Nat):(pd w x).length=w:=by
 induction w generalizing x with
 |zero=>rfl
 |succ w ih=>unfold pd;rw[Q4,ih];rfl
theorem zt0 (w x:Nat):pd (w+1) x=ch (x /10 ^ w%10)::pd w x:=by
 induction w generalizing x with
 |zero=>simp[pd]
 |succ w ih=>
  rw[pd,ih,Y4];rw[show pd (w+1) x=pd w (x /10)++[ch (x%10)]from rfl,Nat.div_div_eq_div_mul,Y9,U2 10]
theorem zqh (w:Nat):pd w 0=K4 w 48:=by
 induction w with
 |zero=>rfl
 |succ w ih=>rw[pd,Nat.zero_div,ih,List.replicate_succ'];rfl
theorem zqi (w x:Nat) (hw:1<=w) (hx:x<10 ^ w):K4 (w-(K1 x).length) 48++K1 x=pd w x:=by
 induction w generalizing x with
 |zero=>omega
 |succ w ih=>
  by_cases h:x<10
  .rw[Y1 h,pd,show x /10=0 from by omega,zqh,show x%10=x from by omega];rfl
  .rcases Y7 w with h0|h0
   .subst h0;simp at hx;omega
   .have a:=ih (x /10) h0 (by rw[Y9]at hx;omega);rw[zay h,pd,<-a,Q4,Q9]
    congr 2
    simp
def trimZ (l:List UInt8):List UInt8:=(l.reverse.dropWhile (fun c=>c==48)).reverse
def nanoS (n:Nat):List UInt8:=if n=0 then[]else 46::trimZ (pd 9 n)
def dateS (y m d:Nat):List UInt8:=pd 4 y++45::(pd 2 m++45::pd 2 d)
def clkS (h m s n:Nat):List UInt8:=pd 2 h++58::(pd 2 m++58::(pd 2 s++nanoS n))
def locS (x:Mo):List UInt8:=(if x.date=true then dateS x.y x.m x.d else[])++((if(x.date && x.time)=true then[84]else[])++(if x.time=true then clkS x.h x.mi x.c x.nanos else[]))
theorem zna (w:Nat):trimZ (K4 w 48)=[]:=by
 unfold trimZ;rw[List.reverse_replicate]
 induction w with
 |zero=>rfl
 |succ w ih=>rw[List.replicate_succ,U3,if_pos (by decide)];exact ih
theorem zgp (l:List UInt8) (c:UInt8):trimZ (l++[c])=if c=48 then trimZ l else l++[c]:=by
 unfold trimZ;rw[G0,D3,List.reverse_nil,U4,List.singleton_append,U3];by_cases h:c=48
 .grind
 .grind
theorem zqj (w x:Nat) (hx:x<10 ^ w) (h:0<x):trimZ (pd w x)≠[]:=by
 induction w generalizing x with
 |zero=>simp at hx;omega
 |succ w ih=>
  rw[pd,zgp];split
  .rename_i hc;have a:=congrArg dv hc;rw[zwp _ (by omega)]at a;have h2:x%10=0:=a;exact ih (x /10) (by rw[Y9]at hx;omega) (by omega)
  .simp
noncomputable def dateOf (n:Int):Nat×Nat×Nat:=
 open Classical in if h:∃t:Nat×Nat×Nat,Cal.vld t.1 t.2.1 t.2.2=true/\Cal.num t.1 t.2.1 t.2.2=n then h.choose else(0,0,0)
theorem zja {n:Int} {y m d:Nat} (hv:Cal.vld y m d=true) (hn:Cal.num y m d=n):dateOf n=(y,m,d):=by
 have h:∃t:Nat×Nat×Nat,Cal.vld t.1 t.2.1 t.2.2=true/\Cal.num t.1 t.2.1 t.2.2=n:=⟨(y,m,d),hv,hn⟩
 unfold dateOf;rw[dif_pos h];obtain⟨e,f⟩:=h.choose_spec;obtain⟨a,b,c⟩:=Cal.zz3 e hv (f.trans hn.symm);apply Prod.ext
 .exact Int.ofNat.inj a
 .grind
noncomputable def momS (day:Int) (r nanos:Nat):List UInt8:=
 dateS (dateOf day).1 (dateOf day).2.1 (dateOf day).2.2++84::(clkS (r /3600) (r /60%60) (r%60) nanos++[90])
noncomputable def insP (s:List UInt8):List UInt8×Nat:=
 match rd s with
 |none=>([],3)
 |some x=>if x.z=0 then([],3)else if okR x=false then([],13)
  else if secs x< -62167219200\/253402300800<=secs x then([],13)else(momS (secs x /86400) (secs x%86400).toNat x.nanos,0)
def locP (s:List UInt8):List UInt8×Nat:=
 match rd s with
 |none=>([],3)
 |some x=>if x.z≠0 then([],3)else if okR x=false then([],13)else(locS x,0)
noncomputable def insB (s:List UInt8):Bool:=decide ((insP s).2=0/\(insP s).1=s)
def locB (s:List UInt8):Bool:=decide ((locP s).2=0/\(locP s).1=s)
end Gr
open Gr
def tw (s:Gr.Str) (a n:Nat):Int:=match numAt s a n with
 |some v=>(v:Int)
 |none=>-1
theorem zd6 (c:UInt8) (b:Nat) (hb:c.toNat=b):Gr.dig c=(decide (48<=b) && decide (b<=57))/\Gr.dv c=b-48:=by
 subst hb;refine⟨?_,rfl⟩;rw[Z9,zbl];simp
theorem zcn (s:Gr.Str) (a k:Nat) (h:a+k<s.length):(s.drop a).take (k+1)=(s.drop a).take k++[s[a+k]]:=by
 rw[Q7 (by simp;omega),G7]
theorem zdr (s:Gr.Str) (a n k:Nat) (hk:k<n) (h:a+k<s.length) (hd:Gr.dig s[a+k]=false):numAt s a n=none:=by
 unfold numAt;rw[if_neg];rintro⟨h1,b⟩;rw[Q1]at b;have:=b s[a+k] (by
  rw[List.mem_take_iff_getElem];exact⟨k,by simp;omega,by rw[G7]⟩)
 rw[hd]at this;cases this
theorem zdd (s:Gr.Str) (a n:Nat) (h:s.length<a+n):numAt s a n=none:=by
 unfold numAt;rw[if_neg (fun hc=>by omega)]
theorem zjd (s:Gr.Str) (a n:Nat) (h:a+n<=s.length) (hd:((s.drop a).take n).all Gr.dig=true):numAt s a n=some (Gr.val ((s.drop a).take n)):=by
 unfold numAt;rw[if_pos ⟨h,hd⟩]
theorem zlu (l:Gr.Str) (hd:l.all Gr.dig=true) (h:l.length<=9):Gr.val l<1000000000:=X2 (zfe l hd) (V2 (n:=10) (by omega) h)
theorem zcz {s:Gr.Str} {a n v:Nat} (h:numAt s a n=some v) (hn:n<=9):v<1000000000/\v<10 ^ n/\a+n<=s.length:=by
 unfold numAt at h;split at h
 .rename_i hc;injection h with h
  subst h;have b:((s.drop a).take n).length=n:=by simp;omega
  have:=zfe _ hc.2;rw[b]at this;exact⟨zlu _ hc.2 (by omega),this,hc.1⟩
 .cases h
theorem zco (s:Gr.Str) (hl:s.length<=1073741823) (a n:Nat) (i j:Int) (hi:i=(a:Int)) (hj:j=(n:Int)) (ha:a<=2147483647) (hn:n<=9) (w:World):
 Calls prog 202 #[.string ⟨s.toArray⟩,.int .i64 i,.int .i64 j] w fun e w'=>e=.returned (.int .i64 (tw s a n))/\w=w':=by
 subst hi;subst hj;obtain⟨r,q⟩:=ex (tw s a n)
 have p:=hid q;rw[q];clear q;by_cases hlen:s.length<a+n
 .have l:(s.length:Int)<(a:Int)+(n:Int):=by omega
  have g:Hid (r=-1):=hid (by rw[<-p.out];unfold tw;rw[zdd s a n hlen]);go_enter func202,ntmps202;go_wp2;go_ret;rw[g.out];exact⟨rfl,rfl⟩
 .have l:¬(s.length:Int)<(a:Int)+(n:Int):=by omega
  go_enter func202,ntmps202;go_wp2_with fail;go_loop [7,8] (fun s7 s8=>∃k v:Nat,k<=n/\v<=999999999/\s7=.int .i64 (v:Int)/\s8=.int .i64 ((a+k:Nat):Int)/\Hid (((s.drop a).take k).all Gr.dig=true/\v=Gr.val ((s.drop a).take k))) (fun _ s8=>a+n-(intOf s8).toNat)
  case atStart=>exact⟨0,0,by omega,by omega,rfl,rfl,hid ⟨by simp,by simp[Gr.val]⟩⟩
  case round=>
   obtain⟨k,v,hk,hv,rfl,rfl,o⟩:=hrel;by_cases hlt:k<n
   .have h:((a+k:Nat):Int)<(a:Int)+(n:Int):=by omega
    have c:a+k<s.length:=by omega
    obtain⟨b,m⟩:∃b:Nat,(s[a+k]'c).toNat=b:=⟨_,rfl⟩
    have hbv:(((⟨s.toArray⟩:ByteArray)[a+k]'(by simpa[ByteArray.size]using c)).toNat:Int)=(b:Int):=by rw[<-m];rfl
    have hbl:b<256:=by rw[<-m];exact(s[a+k]'c).toNat_lt
    have d:=hid (zd6 (s[a+k]'c) b m);clear m;by_cases h48:48<=b
    .have t:¬(b:Int)<48:=by omega
     have b48:(48:Int)<=(b:Int):=by omega
     by_cases h57:b<=57
     .have x:¬(57:Int)<(b:Int):=by omega
      have y:=hid (zcn s a k c);have f:Hid (((s.drop a).take (k+1)).all Gr.dig=true/\10*v+(b-48)=Gr.val ((s.drop a).take (k+1))):=hid (by
       rw[y.out,Z8,o.out.1,zbp,<-o.out.2,d.out.2];exact⟨by simp[d.out.1,h48,h57],rfl⟩)
      have u:10*v+(b-48)<=999999999:=by
       rw[f.out.2];have:=zlu _ f.out.1 (by simp;omega);omega
      clear l;go_wp2;go_round
      case rel=>exact⟨k+1,10*v+(b-48),by omega,u,by exact congrArg (Value.int .i64) (by omega),by go_num,f⟩
      case measure=>simp[intOf];omega
     .have x:(57:Int)<(b:Int):=by omega
      have g:Hid (r=-1):=hid (by rw[<-p.out];unfold tw;rw[zdr s a n k hlt c (by rw[d.out.1];simp[h57])]);go_wp2;go_ret;rw[g.out];exact⟨rfl,rfl⟩
    .have t:(b:Int)<48:=by omega
     have g:Hid (r=-1):=hid (by rw[<-p.out];unfold tw;rw[zdr s a n k hlt c (by rw[d.out.1];simp[h48])]);go_wp2;go_ret;rw[g.out];exact⟨rfl,rfl⟩
   .obtain rfl:k=n:=by omega
    have h:¬((a+k:Nat):Int)<(a:Int)+(k:Int):=by omega
    have g:Hid (r=(v:Int)):=hid (by rw[<-p.out];unfold tw;rw[zjd s a k (by omega) o.out.1,o.out.2]);go_wp2;go_ret;rw[g.out];exact⟨rfl,rfl⟩
theorem zcp (s:Gr.Str) (_hl:s.length<=1073741823) (a:Nat) (i:Int) (hi:i=(a:Int)) (c:UInt8) (j:Int) (hj:j=(c.toNat:Int)) (w:World):
 Calls prog 186 #[.string ⟨s.toArray⟩,.int .i64 i,.int .u8 j] w fun e w'=>e=.returned (.bool (isAt s a c))/\w=w':=by
 subst hi;subst hj;obtain⟨r,g⟩:=ex (isAt s a c)
 have m:=hid g;rw[g];clear g;obtain⟨d,h⟩:∃d:Nat,c.toNat=d:=⟨_,rfl⟩
 have n:=hid h;rw[h];clear h;by_cases hlt:a<s.length
 .have f:(a:Int)<(s.length:Int):=by omega
  obtain⟨b,l⟩:∃b:Nat,(s[a]'hlt).toNat=b:=⟨_,rfl⟩
  have hbv:(((⟨s.toArray⟩:ByteArray)[a]'(by simpa[ByteArray.size]using hlt)).toNat:Int)=(b:Int):=by rw[<-l];rfl
  have k:Hid (((b:Int)==(d:Int))=r):=hid (by
   rw[<-m.out];unfold isAt;rw[K0 hlt,Z9];simp only[qkq,Option.some.injEq];rw[<-UInt8.toNat_inj,n.out,l];omega)
  clear l;go_enter func186,ntmps186;go_wp2;go_ret;rw[<-k.out];exact⟨rfl,rfl⟩
 .have f:¬(a:Int)<(s.length:Int):=by omega
  have k:Hid (r=false):=hid (by
   rw[<-m.out];unfold isAt;rw[List.getElem?_eq_none (by omega)];rfl)
  go_enter func186,ntmps186;go_wp2;go_ret;rw[k.out];exact⟨rfl,rfl⟩
theorem zq1 (y:Int) (w:World):
 Calls prog 203 #[.int .i64 y] w fun e w'=>e=.returned (.bool (Cal.leapB y))/\w=w':=by
 go_enter func203,ntmps203;go_wp2
 all_goals go_ret
 all_goals exact⟨congrArg (fun b=>Ending.returned (.bool b)) (by simp[Cal.leapB, *]),rfl⟩
theorem zd8 (y m:Int) (_h1:1<=m) (_h2:m<=12) (w:World):
 Calls prog 188 #[.int .i64 y,.int .i64 m] w fun e w'=>e=.returned (.int .i64 (Cal.dim y m))/\w=w':=by
 go_enter func188,ntmps188;go_wp2_with (go_at_call 203;refine(zq1 _ _).mono ?_;rintro e w' ⟨rfl,rfl⟩)
 all_goals go_ret
 all_goals exact⟨congrArg (fun b=>Ending.returned (.int .i64 b)) (by simp_all [Cal.dim,Cal.lp]),rfl⟩
theorem zje (y m d:Int) (h0:0<=y) (h1:y<=20000) (h2:1<=m) (h3:m<=12) (h4:0<=d) (h5:d<=1000) (w:World):
 Calls prog 201 #[.int .i64 y,.int .i64 m,.int .i64 d] w fun e w'=>e=.returned (.int .i64 (Cal.num y m d))/\w=w':=by
 have o:Hid (Cal.fst y=365*y+(y+3) /4-(y+99) /100+(y+399) /400):=hid rfl;have hb0:0<=365*y+(y+3) /4-(y+99) /100+(y+399) /400:=by omega
 have hb1:365*y+(y+3) /4-(y+99) /100+(y+399) /400<=10000000:=by omega
 go_enter func201,ntmps201;go_wp2_with fail;go_loop [7,8] (fun n i=>∃k c:Int,1<=k/\k<=m/\0<=c/\c<=366/\i=.int .i64 k/\n=.int .i64 (365*y+(y+3) /4-(y+99) /100+(y+399) /400-719528+c)/\Hid (Cal.cum y k=c)) (fun _ i=>(13-intOf i).toNat)
 case atStart=>exact⟨1,0,by omega,by omega,by omega,by omega,rfl,by exact congrArg (Value.int .i64) (by omega),hid rfl⟩
 case round=>
  obtain⟨k,c,hk1,hk2,hc0,hc1,rfl,rfl,a⟩:=hrel;by_cases hlt:k<m
  .have h:=Cal.zy1 y k;have f:=hid (Cal.zho y k (by omega) (by omega));have g:=Cal.zy3 y (k+1);have j:=hid g;clear g;obtain⟨q,b⟩:=ex (Cal.dim y k)
   have l:Hid (∀W,Calls prog 188 #[.int .i64 y,.int .i64 k] W fun e w'=>e=.returned (.int .i64 q)/\W=w'):=hid (fun W=>by rw[<-b];exact zd8 y k (by omega) (by omega) W);rw[b]at h f;clear b;go_wp2_with fail;refine(l.out _).mono ?_;rintro e w' ⟨rfl,rfl⟩;go_wp2;go_round
   case rel=>exact⟨k+1,c+q,by omega,by omega,by omega,by have:=f.out;have:=j.out;have:=a.out;omega,rfl,by exact congrArg (Value.int .i64) (by omega),hid (by rw[f.out,a.out])⟩
   case measure=>simp[intOf];omega
  .obtain rfl:k=m:=by omega
   have p:Hid (Cal.num y k d=365*y+(y+3) /4-(y+99) /100+(y+399) /400-719528+c+d-1):=hid (by unfold Cal.num;rw[o.out,a.out];omega);go_wp2;go_ret;rw[p.out];exact⟨rfl,rfl⟩
structure RT where
 date:Bool
 time:Bool
 zone:Bool
 y:Int
 m:Int
 d:Int
 h:Int
 mi:Int
 c:Int
 nanos:Int
 off:Int
 late:Bool
def RT.v (t:RT):Value:=.agg #[.bool t.date,.bool t.time,.bool t.zone,.int .i64 t.y,.int .i64 t.m,.int .i64 t.d,.int .i64 t.h,.int .i64 t.mi,.int .i64 t.c,.int .i64 t.nanos,.int .i64 t.off,.bool t.late]
def RT.z:RT:=⟨false,false,false,0,0,0,0,0,0,0,0,false⟩
theorem zjf (s:Gr.Str) (a n:Nat) (hn:n<=9):-1<=tw s a n/\tw s a n<=999999999:=by
 unfold tw;split
 .rename_i v h;have:=zcz h hn;omega
 .omega
theorem zcr {s:Gr.Str} {a n:Nat} (h:¬tw s a n<0):∃v:Nat,numAt s a n=some v/\tw s a n=(v:Int):=by
 unfold tw at h ⊢;split
 .rename_i v hv;exact⟨v,by rw[hv],rfl⟩
 .rename_i hv;rw[hv]at h;simp at h
theorem zcs {s:Gr.Str} {a n:Nat} (h:tw s a n<0):numAt s a n=none:=by
 unfold tw at h;split at h
 .omega
 .assumption
def zlz (s:Gr.Str) (w:World) (e:Ending) (w':World):Prop:=∃(t:RT) (r:Int),e=.returned (.tuple #[t.v,.int .i64 r])/\Below w.heap.size w w'/\
 match dateAt s with
 |none=>r=-1
 |some (y,m,d)=>r=10/\t=⟨true,false,false,y,m,d,0,0,0,0,0,false⟩
theorem zbz {w:World} (a b:Obj):Below w.heap.size w ((w.alloc a).alloc b):=((W8 _ _).alloc (K8 _) _).alloc (by simp) _
theorem zjg (s:Gr.Str) (hl:s.length<=1073741823) (w:World):
 Calls prog 184 #[.string ⟨s.toArray⟩,.int .i64 0,.agg #[.bool false,.bool false,.bool false,.int .i64 0,.int .i64 0,.int .i64 0,.int .i64 0,.int .i64 0,.int .i64 0,.int .i64 0,.int .i64 0,.bool false]] w (zlz s w):=by
 have t:=hid (fun W=>zco s hl 0 4 0 4 rfl rfl (by omega) (by omega) W);have o:=hid (fun W=>zco s hl 5 2 5 2 rfl rfl (by omega) (by omega) W);have l:=hid (fun W=>zco s hl 8 2 8 2 rfl rfl (by omega) (by omega) W);have j:=hid (fun W=>zcp s hl 4 4 rfl 45 45 rfl W);have n:=hid (fun W=>zcp s hl 7 7 rfl 45 45 rfl W);have b:=hid (fun h=> @zcr s 0 4 h);have f:=hid (fun h=> @zcr s 5 2 h);have g:=hid (fun h=> @zcr s 8 2 h);have C:=hid (fun h=> @zcs s 0 4 h);have u:=hid (fun h=> @zcs s 5 2 h);have z:=hid (fun h=> @zcs s 8 2 h);have N:=zjf s 0 4 (by omega);have Q:=zjf s 5 2 (by omega);have P:=zjf s 8 2 (by omega);obtain⟨Y,J⟩:=ex (tw s 0 4)
 obtain⟨M,I⟩:=ex (tw s 5 2)
 obtain⟨D,K⟩:=ex (tw s 8 2)
 obtain⟨p,F⟩:=ex (isAt s 4 45)
 obtain⟨q,E⟩:=ex (isAt s 7 45)
 have A:Hid (isAt s 4 45=p/\isAt s 7 45=q):=hid ⟨F,E⟩;rw[J]at t b C N;rw[I]at o f u Q;rw[K]at l g z P;rw[F]at j;rw[E]at n;clear J I K F E;have O:Y<0\/(¬Y<0/\M<0)\/(¬Y<0/\¬M<0/\D<0)\/(¬Y<0/\¬M<0/\¬D<0/\p=false)\/(¬Y<0/\¬M<0/\¬D<0/\p=true/\q=false)\/(¬Y<0/\¬M<0/\¬D<0/\p=true/\q=true):=by
  cases p<;>cases q<;>simp<;>omega
 have L:∀(r:Int) (ok:Bool) (w':World),Below w.heap.size w w'->(dateAt s=none/\r=-1\/∃y m d:Nat,dateAt s=some (y,m,d)/\r=10/\ok=true/\Y=y/\M=m/\D=d)->zlz s w (.returned (.tuple #[.agg #[.bool ok,.bool false,.bool false,.int .i64 Y,.int .i64 M,.int .i64 D,.int .i64 0,.int .i64 0,.int .i64 0,.int .i64 0,.int .i64 0,.bool false],.int .i64 r])) w':=by
  intro r ok w' S h;refine⟨⟨ok,false,false,Y,M,D,0,0,0,0,0,false⟩,r,rfl,S,?_⟩;rcases h with⟨a,k⟩|⟨y,m,d,a,k,c,rfl,rfl,rfl⟩
  .rw[a];exact k
  .rw[a];exact⟨k,by rw[c]⟩
 have B:=hid L;clear L;rcases O with c1|⟨c1,c2⟩|⟨c1,c2,c3⟩|⟨c1,c2,c3,rfl⟩|⟨c1,c2,c3,rfl,rfl⟩|⟨c1,c2,c3,rfl,rfl⟩
 case inr.inr.inr.inr.inr=>
  have H:Hid (∃y m d:Nat,dateAt s=some (y,m,d)/\Y=y/\M=m/\D=d):=hid (by
   obtain⟨y,a,k⟩:=b.out c1;obtain⟨m,c,G⟩:=f.out c2;obtain⟨d,x,R⟩:=g.out c3;refine⟨y,m,d,?_,k,G,R⟩;unfold dateAt;rw[a,c,x,A.out.1,A.out.2];rfl)
  go_enter func184,ntmps184;go_wp2_with fail;refine(t.out _).mono ?_;rintro e i ⟨rfl,rfl⟩;go_wp2_with fail;refine(o.out _).mono ?_;rintro e i ⟨rfl,rfl⟩;go_wp2_with fail;refine(l.out _).mono ?_;rintro e i ⟨rfl,rfl⟩;go_wp2_with fail;refine(j.out _).mono ?_;rintro e i ⟨rfl,rfl⟩;go_wp2_with fail;refine(n.out _).mono ?_;rintro e i ⟨rfl,rfl⟩;go_wp2_with fail;refine S0 (v:=.tuple #[.agg #[.bool true,.bool false,.bool false,.int .i64 Y,.int .i64 M,.int .i64 D,.int .i64 0,.int .i64 0,.int .i64 0,.int .i64 0,.int .i64 0,.bool false],.int .i64 10]) (by rw[results_cell_tmp rfl];go_simp) rfl ?_;refine B.out _ _ _ (zbz _ _) (.inr ?_);obtain⟨y,m,d,a,k,c,G⟩:=H.out;exact⟨y,m,d,a,rfl,rfl,k,c,G⟩
 all_goals
  have H:Hid (dateAt s=none):=hid (by
   unfold dateAt
   first
    | (rw[C.out c1])
    | (obtain⟨y,a,_⟩:=b.out c1;rw[a,u.out c2])
    | (obtain⟨y,a,_⟩:=b.out c1;obtain⟨m,c,_⟩:=f.out c2;rw[a,c,z.out c3])
    | (obtain⟨y,a,_⟩:=b.out c1;obtain⟨m,c,_⟩:=f.out c2;obtain⟨d,x,_⟩:=g.out c3;rw[a,c,x,A.out.1,A.out.2];rfl)
    | (obtain⟨y,a,_⟩:=b.out c1;obtain⟨m,c,_⟩:=f.out c2;obtain⟨d,x,_⟩:=g.out c3;rw[a,c,x,A.out.1];rfl))
  go_enter func184,ntmps184;go_wp2_with fail;refine(t.out _).mono ?_;rintro e i ⟨rfl,rfl⟩;go_wp2_with fail;refine(o.out _).mono ?_;rintro e i ⟨rfl,rfl⟩;go_wp2_with fail;refine(l.out _).mono ?_;rintro e i ⟨rfl,rfl⟩;go_wp2_with fail;(try (refine(j.out _).mono ?_;rintro e i ⟨rfl,rfl⟩;go_wp2_with fail));(try (refine(n.out _).mono ?_;rintro e i ⟨rfl,rfl⟩;go_wp2_with fail));refine S0 (v:=.tuple #[.agg #[.bool false,.bool false,.bool false,.int .i64 Y,.int .i64 M,.int .i64 D,.int .i64 0,.int .i64 0,.int .i64 0,.int .i64 0,.int .i64 0,.bool false],.int .i64 (-1)]) (by rw[results_cell_tmp rfl];go_simp) rfl ?_;exact B.out _ _ _ (zbz _ _) (.inl ⟨H.out,rfl⟩)
end Go.Proofs.YtpgmfihonmoliabGreatDoor
