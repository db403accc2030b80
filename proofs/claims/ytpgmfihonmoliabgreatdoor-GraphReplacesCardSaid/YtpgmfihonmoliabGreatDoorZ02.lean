import Derived.Test.YtpgmfihonmoliabGreatDoorZ01
import Derived.Laws.EntriesVeiled
import Derived.Laws.CopyOwn
import Derived.Lib.AppendIntMem
open _root_.Array renaming getElem?_eq_getElem->Y4
open _root_.Go.RowKit.Below renaming refl->K3
open _root_.Go.Proofs.YtpgmfihonmoliabGreatDoor.Blk renaming new->Q1
open _root_.Bool renaming and_eq_true->Y9,eq_iff_iff->X5,false_eq_true->W0,or_eq_true->W6,false_and->W8,true_and->D1,and_self->D2
open _root_.Go.Proofs.YtpgmfihonmoliabGreatDoor.Calls renaming grow->X1
open _root_.Go renaming bodyPost_ret->E0
open _root_.Go.Proofs.YtpgmfihonmoliabGreatDoor.Gr renaming Str->K4,dig->Q3,refs->Q5,succ->Q9,ch->Y6,Nd->U7,Dn->U8,rz->V2,pd->W5,val->D4
open _root_.Go.Proofs.YtpgmfihonmoliabGreatDoor.KB renaming refl->Z3
open _root_.Go.Proofs.YtpgmfihonmoliabGreatDoor.Kept1 renaming set->V1,refl->D9
open _root_.Go.Lib renaming decDigits->K6,itoa->X0,decDigits_length->X6,decDigits_one->W2,hid->D8
open _root_.List renaming replicate->K0,take_succ_eq_append_getElem->K2,length_cons->K7,getD_cons_zero->K8,take_length->K9,getElem?_eq_getElem->Q0,length_append->Q2,length_drop->Q4,length_take->Q6,getElem_mem->Q7,length_pos_iff->Q8,mem_of_mem_take->Y0,length_nil->Y1,getD_eq_getElem?_getD->Y3,drop_eq_getElem_cons->Y5,foldl_append->Y7,append_assoc->Y8,head?_eq_getElem?->X2,all_append->X4,getD_cons_succ->X7,flatMap_append->X8,set_cons_zero->X9,all_eq_false->U1,mem_flatMap->U2,eq_nil_of_length_eq_zero->U3,length_map->U4,append_nil->U5,getElem?_eq_some_iff->V0,take_of_length_le->V3,getElem_cons_zero->V4,getElem_cons_succ->V5,take_append_drop->Z0,mem_append_left->Z1,getElem_toArray->Z2,replicate_zero->Z6,dropWhile_cons->Z7,set_cons_succ->Z9,all_eq_true->W1,map_append->W3,foldl_cons->W4,drop_drop->W7,map_take->W9,map_cons->D0
open _root_.Nat renaming le_refl->K1,sub_self->Y2,le_trans->X3,lt_of_lt_of_le->U0,zero_add->V7,pow_succ->V8,le_of_lt->V9,pow_le_pow_right->Z4,mul_one->Z5,mul_le_mul_left->Z8,mul_comm->D5,min_self->D6,le_of_eq->D7
open _root_.Go.Proofs.YtpgmfihonmoliabGreatDoor.OwnRow renaming nil->D3
open _root_.Go.Proofs.YtpgmfihonmoliabGreatDoor.RowAt renaming lit1->U6,ofBlk->V6
open _root_.Go.World renaming size_alloc->K5,setCell->U9
namespace Go.Proofs.YtpgmfihonmoliabGreatDoor
open _root_.Go.Proofs.Tryz
open _root_.Go.Lib (hid)
set_option maxRecDepth 100000
set_option maxHeartbeats 16000000
open Go.RowKit
theorem zwe {g:Nat} {w w1 w2:World} (h1:Below w.heap.size w w1) (h2:Kept1 g w1 w2):zbc w w2 (fun k=>k=g):=
 ⟨h2.os.trans h1.os,h2.tape.trans h1.tape,h2.output.trans h1.output,by rw[h2.size];exact h1.size,fun k b a=>(h2.block k a).trans (h1.block k b)⟩
theorem zc6 (mb:Nat) (A:Option Addr) (c:Nat) (root:Int) (vs:List NV) (ns:List U7) (B:Nat) (hr:Gr.Refs ns) (hl:ns.length<=1073741823) (hks:∀n∈ns,n.keys.length<=1073741823/\n.items.length<=1073741823)
 (m:List Bool) (a:Nat) (w:World) (h:GAt w B A vs ns) (hB:B<=mb) (hm:Blk w mb 4 (bcells m)) (hml:m.length=ns.length) (ha:a<ns.length) (hu:Gr.unm ns.length m<=ns.length):
 Calls prog 30 #[.agg #[.slice A ns.length c,.int .i64 root],.int .i64 a,.slice (some ⟨mb,0,none⟩) ns.length ns.length] w fun e w'=>e=.returned (.tuple #[])/\zbc w w' (fun k=>k=mb)/\Blk w' mb 4 (bcells (Gr.dvisit (Q9 ns) ns.length m a)):=by
 have q:B<=w.heap.size:=X3 hB (V9 hm.lt);have H:=hid h;have s:=hid hm;clear h hm;go_enter func30,ntmps30;go_upto_region 3 with fail;obtain⟨d,b⟩:=ex (((w.alloc (.cells #[.slice A ns.length c,.int .i64 root] 24)).alloc (.cells #[.slice (some ⟨mb,0,none⟩) ns.length ns.length] 44)).alloc (.cells #[.func (.func 48) #[] #[.pointer (some ⟨w.heap.size+1,0,none⟩),.pointer (some ⟨w.heap.size,0,none⟩),.pointer (some ⟨w.heap.size+1+1,0,none⟩)]] 70))
 have j:Below w.heap.size w d:=by rw[<-b];exact(((K3 _ _).alloc (K1 _) _).alloc (by simp) _).alloc (by simp;omega) _
 have r:Blk d w.heap.size 24 #[.slice A ns.length c,.int .i64 root]:=by rw[<-b];exact((Q1 _ _ _).alloc _).alloc _
 have t:Blk d (w.heap.size+1) 44 #[.slice (some ⟨mb,0,none⟩) ns.length ns.length]:=by
  rw[<-b];have:=Q1 (w.alloc (.cells #[.slice A ns.length c,.int .i64 root] 24)) 44 #[.slice (some ⟨mb,0,none⟩) ns.length ns.length];rw[K5]at this;exact this.alloc _
 have l:Blk d (w.heap.size+1+1) 70 #[.func (.func 48) #[] #[.pointer (some ⟨w.heap.size+1,0,none⟩),.pointer (some ⟨w.heap.size,0,none⟩),.pointer (some ⟨w.heap.size+1+1,0,none⟩)]]:=by
  rw[<-b];have:=Q1 ((w.alloc (.cells #[.slice A ns.length c,.int .i64 root] 24)).alloc (.cells #[.slice (some ⟨mb,0,none⟩) ns.length ns.length] 44)) 70 #[.func (.func 48) #[] #[.pointer (some ⟨w.heap.size+1,0,none⟩),.pointer (some ⟨w.heap.size,0,none⟩),.pointer (some ⟨w.heap.size+1+1,0,none⟩)]];rw[K5,K5]at this;exact this
 have v0:d.cell? ⟨w.heap.size+1+1,0,none⟩=some (.func (.func 48) #[] #[.pointer (some ⟨w.heap.size+1,0,none⟩),.pointer (some ⟨w.heap.size,0,none⟩),.pointer (some ⟨w.heap.size+1+1,0,none⟩)]):=l.cell 0;have f:RV d mb (w.heap.size+1) w.heap.size (w.heap.size+1+1) A c root vs ns B:=⟨t,r,l,H.out.below (j.mono q),hB⟩
 have u:=hid (zox mb (w.heap.size+1) w.heap.size (w.heap.size+1+1) A c root vs ns B hr hl hks ns.length m a d f (s.out.below j s.out.lt) hml ha hu);have v:=hid j;rw[b];clear b j r t l f;go_wp2_with fail;refine u.out.mono ?_;rintro e w5 ⟨rfl,i,g⟩;have p:=hid i;have o:=hid g;clear i g;go_wp2_with fail;go_end0;exact⟨rfl,zwe v.out p.out,o.out⟩
open Gr
theorem zb5 (l:List Nat) (x:Nat):(cstep l x).length=l.length:=by unfold cstep;simp
theorem zbv (L l:List Nat):(L.foldl cstep l).length=l.length:=by
 induction L generalizing l with
 |nil=>rfl
 |cons x L ih=>rw[W4,ih,zb5]
theorem zeq (l:List Nat) (x y:Nat):(cstep l x).getD y 0<=l.getD y 0+1:=by
 unfold cstep;by_cases h:x=y
 .subst h;by_cases hx:x<l.length
  .rw[za6 _ _ _ _ hx];exact K1 _
  .rw[List.set_eq_of_length_le (by omega)];omega
 .rw[Gr.getD_set_ne _ _ _ _ _ h];omega
theorem zdk (L l:List Nat) (y:Nat):(L.foldl cstep l).getD y 0<=l.getD y 0+L.length:=by
 induction L generalizing l with
 |nil=>simp
 |cons x L ih=>
  rw[W4,K7];have:=ih (cstep l x);have:=zeq l x y;omega
theorem zdl (ns:List U7) (j:Nat) (h:j<ns.length):Q5 (ns.take (j+1))=Q5 (ns.take j)++(ns[j].keys++ns[j].items):=by
 unfold Q5;rw[K2 h,X8];simp
theorem zwf (ns:List U7) (j:Nat):(Q5 (ns.take j)).length<=(Q5 ns).length:=by
 have:Q5 ns=Q5 (ns.take j)++Q5 (ns.drop j):=by
  unfold Q5;rw[<-X8,Z0]
 rw[this,Q2];omega
def ncells (n:U7) (k i:SV):Array Value:=#[.int .i64 n.kind,.string ⟨n.text.toArray⟩,.bool n.ord,k.v,i.v]
theorem zgg (A:Option Addr) (c:Nat) (root:Nat) (vs:List NV) (ns:List U7) (hr:Refs ns) (hl:ns.length<=1073741823) (hks:∀n∈ns,n.keys.length<=1073741823/\n.items.length<=1073741823) (hrl:(Q5 ns).length<=1125899906842624)
 (w:World) (h:GAt w w.heap.size A vs ns) (hroot:root<ns.length):
 Calls prog 32 #[.agg #[.slice A ns.length c,.int .i64 root]] w fun e w'=>∃ob,e=.returned (.slice (some ⟨ob,0,none⟩) ns.length ns.length)/\w.heap.size<=ob/\Below w.heap.size w w'/\Blk w' ob 3 (icells (counts ns root)):=by
 have H:=hid h;have hmk:=fun W=>za7 ns.length (by omega) W
 have ai:(root:Int)<(ns.length:Int):=by omega
 clear h;go_enter func32,ntmps32;go_upto_region 2 with fail;obtain⟨O,B⟩:=ex ((w.alloc (.cells #[.slice A ns.length c,.int .i64 root] 24)).alloc (.cells (icells (K0 ns.length 0)) 3))
 have l2:Below w.heap.size w O:=by rw[<-B];exact((K3 _ _).alloc (K1 _) _).alloc (by simp) _
 have bg:Blk O w.heap.size 24 #[.slice A ns.length c,.int .i64 root]:=by rw[<-B];exact(Q1 _ _ _).alloc _
 have bo:Blk O (w.heap.size+1) 3 (icells (K0 ns.length 0)):=by
  rw[<-B];have:=Q1 (w.alloc (.cells #[.slice A ns.length c,.int .i64 root] 24)) 3 (icells (K0 ns.length 0));rw[K5]at this;exact this
 have g1:O.cell? ⟨w.heap.size,1,none⟩=some (.int .i64 root):=bg.cell 1;have z0:O.cell? ⟨w.heap.size+1,root,none⟩=some (.int .i64 0):=by
  rw[bo.cell,zaa (by simpa using hroot)];simp[Y3,hroot]
 have zf:∀i,O.frozen? ⟨w.heap.size+1,i,none⟩=false:=bo.frozen;rw[B];clear B;go_upto_region 3 with fail;obtain⟨f,I⟩:=ex (cstep (K0 ns.length 0) root)
 obtain⟨M,t⟩:=ex (O.setCell ⟨w.heap.size+1,root,none⟩ (.int .i64 1))
 have b3:Blk M (w.heap.size+1) 3 (icells f):=by
  rw[<-t,<-I];unfold cstep;have e:(K0 ns.length 0).getD root 0=0:=by simp[Y3,hroot]
  rw[e,<-zam];exact bo.set_ root _
 have aa:Blk M w.heap.size 24 #[.slice A ns.length c,.int .i64 root]:=by rw[<-t];exact bg.far (by simp) _
 have g0:M.cell? ⟨w.heap.size,0,none⟩=some (.slice A ns.length c):=aa.cell 0;have L3:Hid (Below w.heap.size w M):=hid (by rw[<-t];exact l2.setCell (by simp) _);have G:Hid (f.length=ns.length/\∀x,f.getD x 0<=1):=hid (by
  rw[<-I];refine⟨by rw[zb5];simp,fun x=>?_⟩;have:=zeq (K0 ns.length 0) root x;have e:(K0 ns.length 0).getD x 0=0:=by simp[Y3,List.getElem?_replicate];split<;>rfl
  omega)
 have ac:Hid (counts ns root=(Q5 ns).foldl cstep f):=hid (by rw[<-I];rfl);have ag:=hid b3;rw[t];obtain⟨ob,ab⟩:=ex (w.heap.size+1)
 rw[ab]at ag ⊢;have m:Hid (w.heap.size<=ob/\w.heap.size<=M.heap.size):=hid ⟨by omega,L3.out.size⟩;clear t l2 bg bo g1 z0 zf b3 aa ab I;go_upto_region 4 with fail;clear g0 ai;go_loopw [24] (fun s24 wr=>∃j:Nat,j<=ns.length/\s24=.int .i64 j/\Hid (KB ob M wr/\Blk wr ob 3 (icells ((Q5 (ns.take j)).foldl cstep f)))) (fun s24 _=>ns.length-(intOf s24).toNat)
 case atStart=>exact⟨0,by omega,rfl,hid ⟨Z3 _ _,by simpa[Q5]using ag.out⟩⟩
 case round=>
  obtain⟨j,hj,rfl,V⟩:=hrel;obtain⟨g,al⟩:∃g,g=wr:=⟨_,rfl⟩
  subst al;by_cases hlt:j<ns.length
  .have af:(j:Int)<(ns.length:Int):=by omega
   obtain⟨ad,k,i,rfl,C⟩:=(H.out.below (L3.out.trans (V.out.1.below m.out.1 m.out.2))).node hlt;obtain⟨ka,kn,kc⟩:=k;obtain⟨Y,ap,ic⟩:=i;have X:ns[j]∈ns:=Q7 hlt;obtain⟨ao,an⟩:=hks _ X;have Q:Hid (∀x∈ns[j].keys++ns[j].items,x<ns.length):=hid (hr _ X);obtain⟨R,hR⟩:=ex (Q5 (ns.take j))
   have au:=hid hR;have p:Hid (Q5 (ns.take (j+1))=R++(ns[j].keys++ns[j].items)):=hid (by rw[zdl ns j hlt,hR]);have r:Hid (R.length+ns[j].keys.length+ns[j].items.length<=1125899906842624):=hid (by
    have Z:=zwf ns (j+1);rw[p.out]at Z;simp only[Q2]at Z;omega)
   obtain⟨n,hn⟩:=ex (ns[j])
   rw[hn]at C Q p r ao an;obtain rfl:kn=n.keys.length:=C.kn;obtain rfl:ap=n.items.length:=C.inn;have x0:=C.c0;have x1:=C.c1;have x2:=C.c2;have x3:=C.c3;have x4:=C.c4;have am:=hid C.keys;have ar:=hid C.items;have D:Hid (w.heap.size<=ob/\w.heap.size<=g.heap.size):=hid ⟨m.out.1,X3 m.out.2 V.out.1.size⟩;clear C X hR hn;go_upto_region 6 with fail;obtain⟨w5,u⟩:=ex (g.alloc (.cells #[.int .i64 n.kind,.string ⟨n.text.toArray⟩,.bool n.ord,.slice ka n.keys.length kc,.slice Y n.items.length ic] 37))
   have b5:Blk w5 g.heap.size 37 (ncells n ⟨ka,n.keys.length,kc⟩ ⟨Y,n.items.length,ic⟩):=by rw[<-u];exact Q1 _ _ _
   have s3:w5.cell? ⟨g.heap.size,3,none⟩=some (.slice ka n.keys.length kc):=b5.cell 3;have q:Hid (KB ob g w5/\Blk w5 ob 3 (icells (R.foldl cstep f))/\Blk w5 g.heap.size 37 (ncells n ⟨ka,n.keys.length,kc⟩ ⟨Y,n.items.length,ic⟩)):=hid ⟨by rw[<-u];exact(Z3 _ _).alloc _,by
    have:=V.out.2;rw[au.out]at this;rw[<-u];exact this.alloc _,b5⟩
   rw[u];obtain⟨l,y⟩:=ex (ncells n ⟨ka,n.keys.length,kc⟩ ⟨Y,n.items.length,ic⟩)
   have av:Hid (l[4]? =some (.slice Y n.items.length ic)):=hid (by rw[<-y];rfl);rw[y]at q;clear y;obtain⟨P,ae⟩:=ex g.heap.size
   rw[ae]at q s3 ⊢;clear u b5 x0 x1 x2 x3 x4 ae;go_upto_region 7 with fail;clear s3;go_loopw [31] (fun s31 wr=>∃k:Nat,k<=n.keys.length/\s31=.int .i64 k/\Hid (KB ob g wr/\Blk wr ob 3 (icells ((R++n.keys.take k).foldl cstep f))/\Blk wr P 37 l)) (fun s31 _=>n.keys.length-(intOf s31).toNat)
   case atStart=>exact⟨0,by omega,rfl,hid ⟨q.out.1,by simpa using q.out.2.1,q.out.2.2⟩⟩
   case round=>
    obtain⟨k,hk,rfl,b⟩:=hrel;by_cases hlk:k<n.keys.length
    .have o:(k:Int)<(n.keys.length:Int):=by omega
     obtain⟨x,F⟩:=ex (n.keys[k])
     obtain⟨ah,rfl,_,y0⟩:=zaf (am.out.below (b.out.1.below D.out.1 D.out.2)) hlk;rw[F]at y0;have aj:x<ns.length:=Q.out x (by simp[<-F]);obtain⟨d,a⟩:=ex ((R++n.keys.take k).foldl cstep f)
     have S:d.length=ns.length:=by rw[<-a,zbv,G.out.1]
     have T:d.getD x 0<=1125899906842625:=by
      rw[<-a];have Z:=zdk (R++n.keys.take k) f x;have h2:=G.out.2 x;have h3:=r.out;rw[Q2,Q6]at Z;omega
     have aq:k<=1073741823:=by omega
     have s:=b.out.2.1;rw[a]at s;obtain⟨v,E⟩:=ex (d.getD x 0)
     have z0:wr.cell? ⟨ob,x,none⟩=some (.int .i64 (v:Int)):=by rw[s.cell,zaa (by omega),E]
     have zf:∀i,wr.frozen? ⟨ob,i,none⟩=false:=s.frozen;have ak:(x:Int)<(ns.length:Int):=by omega
     rw[E]at T;have U:Hid (KB ob g (wr.setCell ⟨ob,x,none⟩ (.int .i64 ((v:Int)+1)))/\Blk (wr.setCell ⟨ob,x,none⟩ (.int .i64 ((v:Int)+1))) ob 3 (icells ((R++n.keys.take (k+1)).foldl cstep f))/\Blk (wr.setCell ⟨ob,x,none⟩ (.int .i64 ((v:Int)+1))) P 37 l):=hid (by
      refine⟨b.out.1.set _ _,?_,b.out.2.2.far (b.out.2.2.ne_ s (by decide)) _⟩;rw[zaj _ _ hlk,<-Y8,Y7,a,F];show Blk _ _ _ (icells (cstep d x));unfold cstep;rw[E,<-zam,show(((v+1:Nat)):Int)=(v:Int)+1 from by omega];exact s.set_ x _)
     clear s a S E F b;go_wp2;go_roundw
     case rel=>exact⟨k+1,by omega,by go_num,U⟩
     case measure=>simp[intOf];omega
    .have o:¬((k:Int)<(n.keys.length:Int)):=by omega
     have z:Hid (KB ob g wr/\Blk wr ob 3 (icells ((R++n.keys).foldl cstep f))/\Blk wr P 37 l):=hid ⟨b.out.1,by have:=b.out.2.1;rw[show k=n.keys.length from by omega,K9]at this;exact this,b.out.2.2⟩;clear b q;obtain⟨N,J⟩:=ex (R++n.keys)
     have q:=hid z.out;rw[J]at q;have L:Hid (N.length+n.items.length<=1125899906842624):=hid (by rw[<-J,Q2];have:=r.out;omega);have K:Hid (Q5 (ns.take (j+1))=N++n.items):=hid (by rw[p.out,<-J,Y8]);clear r p J z hk hlk;have p:=K;have r:=L;clear L K;have s4:wr.cell? ⟨P,4,none⟩=some (.slice Y n.items.length ic):=(q.out.2.2.cell 4).trans av.out;go_upto_region 12 with fail;clear s4 o;go_loopw [45] (fun s45 wr=>∃k:Nat,k<=n.items.length/\s45=.int .i64 k/\Hid (KB ob g wr/\Blk wr ob 3 (icells ((N++n.items.take k).foldl cstep f))/\Blk wr P 37 l)) (fun s45 _=>n.items.length-(intOf s45).toNat)
     case atStart=>exact⟨0,by omega,rfl,hid ⟨q.out.1,by simpa using q.out.2.1,q.out.2.2⟩⟩
     case round=>
      obtain⟨k,hk,rfl,b⟩:=hrel;by_cases hlk:k<n.items.length
      .have o:(k:Int)<(n.items.length:Int):=by omega
       obtain⟨x,F⟩:=ex (n.items[k])
       obtain⟨ah,rfl,_,y0⟩:=zaf (ar.out.below (b.out.1.below D.out.1 D.out.2)) hlk;rw[F]at y0;have aj:x<ns.length:=Q.out x (by simp[<-F]);obtain⟨d,a⟩:=ex ((N++n.items.take k).foldl cstep f)
       have S:d.length=ns.length:=by rw[<-a,zbv,G.out.1]
       have T:d.getD x 0<=1125899906842625:=by
        rw[<-a];have Z:=zdk (N++n.items.take k) f x;have h2:=G.out.2 x;have h3:=r.out;rw[Q2,Q6]at Z;omega
       have aq:k<=1073741823:=by omega
       have s:=b.out.2.1;rw[a]at s;obtain⟨v,E⟩:=ex (d.getD x 0)
       have z0:wr.cell? ⟨ob,x,none⟩=some (.int .i64 (v:Int)):=by rw[s.cell,zaa (by omega),E]
       have zf:∀i,wr.frozen? ⟨ob,i,none⟩=false:=s.frozen;have ak:(x:Int)<(ns.length:Int):=by omega
       rw[E]at T;have U:Hid (KB ob g (wr.setCell ⟨ob,x,none⟩ (.int .i64 ((v:Int)+1)))/\Blk (wr.setCell ⟨ob,x,none⟩ (.int .i64 ((v:Int)+1))) ob 3 (icells ((N++n.items.take (k+1)).foldl cstep f))/\Blk (wr.setCell ⟨ob,x,none⟩ (.int .i64 ((v:Int)+1))) P 37 l):=hid (by
        refine⟨b.out.1.set _ _,?_,b.out.2.2.far (b.out.2.2.ne_ s (by decide)) _⟩;rw[zaj _ _ hlk,<-Y8,Y7,a,F];show Blk _ _ _ (icells (cstep d x));unfold cstep;rw[E,<-zam,show(((v+1:Nat)):Int)=(v:Int)+1 from by omega];exact s.set_ x _)
       clear s a S E F b;go_wp2;go_roundw
       case rel=>exact⟨k+1,by omega,by go_num,U⟩
       case measure=>simp[intOf];omega
      .have o:¬((k:Int)<(n.items.length:Int)):=by omega
       have z:Hid (KB ob g wr/\Blk wr ob 3 (icells ((N++n.items).foldl cstep f))/\Blk wr P 37 l):=hid ⟨b.out.1,by have:=b.out.2.1;rw[show k=n.items.length from by omega,K9]at this;exact this,b.out.2.2⟩;clear b q;have HE:Hid (KB ob M wr/\Blk wr ob 3 (icells ((Q5 (ns.take (j+1))).foldl cstep f))):=hid ⟨V.out.1.trans z.out.1,by have:=z.out.2.1;rw[p.out];exact this⟩;clear hk;go_wp2;go_roundw
       case rel=>exact⟨j+1,by omega,by go_num,HE⟩
       case measure=>simp[intOf];omega
  .have af:¬((j:Int)<(ns.length:Int)):=by omega
   have HE:Hid (Below w.heap.size w g/\Blk g ob 3 (icells (counts ns root))):=hid ⟨L3.out.trans (V.out.1.below m.out.1 m.out.2),by
    have:=V.out.2;rw[show j=ns.length from by omega,K9]at this;rw[ac.out];exact this⟩
   clear V;go_wp2;go_ret;exact⟨ob,rfl,m.out.1,HE.out⟩
theorem zid (ns:List U7) (j:Nat) (h:j<ns.length):allKeys (ns.take (j+1))=allKeys (ns.take j)++ns[j].keys:=by
 unfold allKeys;rw[K2 h,X8];simp
theorem zj5 {ns:List U7} (hr:Refs ns):∀x∈allKeys ns,x<ns.length:=by
 intro x c;obtain⟨y,b,a⟩:=U2.1 c;exact hr y b x (Z1 _ a)
theorem zlb (ns:List U7) (j:Nat):∀x∈allKeys (ns.take j),x∈allKeys ns:=by
 intro x c;obtain⟨y,b,a⟩:=U2.1 c;exact U2.2 ⟨y,Y0 b,a⟩
theorem zie (n:Nat) (m:List Bool):unm n m<=n:=X3 List.countP_le_length (by simp)
theorem ze4 {ns:List U7} (hr:Refs ns) (L:List Nat) (m:List Bool) (hL:∀x∈L,x<ns.length) (hm:m.length=ns.length):(L.foldl (dvisit (Q9 ns) ns.length) m).length=ns.length:=
 (ze3 (zbu hr.succ ns.length) L m hL hm (zie _ _)).len
theorem zgh (A:Option Addr) (c:Nat) (root:Int) (vs:List NV) (ns:List U7) (hr:Refs ns) (hl:ns.length<=1073741823) (hks:∀n∈ns,n.keys.length<=1073741823/\n.items.length<=1073741823)
 (w:World) (h:GAt w w.heap.size A vs ns):
 Calls prog 15 #[.agg #[.slice A ns.length c,.int .i64 root]] w fun e w'=>∃ob,e=.returned (.slice (some ⟨ob,0,none⟩) ns.length ns.length)/\w.heap.size<=ob/\Below w.heap.size w w'/\Blk w' ob 4 (bcells (inKeys ns)):=by
 have H:=hid h;have hmk:=fun W=>zbq ns.length (by omega) W
 clear h;go_enter func15,ntmps15;go_upto_region 2 with fail;obtain⟨u,b⟩:=ex ((w.alloc (.cells #[.slice A ns.length c,.int .i64 root] 24)).alloc (.cells (bcells (K0 ns.length false)) 4))
 have l3:Below w.heap.size w u:=by rw[<-b];exact((K3 _ _).alloc (K1 _) _).alloc (by simp) _
 have bg:Blk u w.heap.size 24 #[.slice A ns.length c,.int .i64 root]:=by rw[<-b];exact(Q1 _ _ _).alloc _
 obtain⟨p,g⟩:=ex (K0 ns.length false)
 rw[g]at b;have bo:Blk u (w.heap.size+1) 4 (bcells p):=by
  rw[<-b];have:=Q1 (w.alloc (.cells #[.slice A ns.length c,.int .i64 root] 24)) 4 (bcells p);rw[K5]at this;exact this
 have g0:u.cell? ⟨w.heap.size,0,none⟩=some (.slice A ns.length c):=bg.cell 0;have S:Hid (p.length=ns.length):=hid (by rw[<-g];simp);have I:Hid (inKeys ns=(allKeys ns).foldl (dvisit (Q9 ns) ns.length) p):=hid (by rw[<-g];rfl);have L3:=hid l3;have J:=hid bo;have E:=hid bg;rw[g,b];obtain⟨ob,D⟩:=ex (w.heap.size+1)
 obtain⟨gb,B⟩:=ex w.heap.size
 have a:Hid (w.heap.size<=ob/\w.heap.size<=u.heap.size/\gb≠ob):=hid ⟨by omega,L3.out.size,by omega⟩;rw[D]at J ⊢;rw[B]at g0 E;rw[show(Value.pointer (some ({block:=w.heap.size,off:=0}:Addr)))=.pointer (some {block:=gb,off:=0})from by rw[B]];clear b l3 bo bg g D B;go_upto_region 3 with fail;clear g0;go_loopw [15] (fun s15 wr=>∃j:Nat,j<=ns.length/\s15=.int .i64 j/\Hid (KB ob u wr/\Blk wr ob 4 (bcells ((allKeys (ns.take j)).foldl (dvisit (Q9 ns) ns.length) p)))) (fun s15 _=>ns.length-(intOf s15).toNat)
 case atStart=>exact⟨0,by omega,rfl,hid ⟨Z3 _ _,by simpa[allKeys]using J.out⟩⟩
 case round=>
  obtain⟨j,hj,rfl,r⟩:=hrel;obtain⟨d,R⟩:∃d,d=wr:=⟨_,rfl⟩
  subst R;by_cases hlt:j<ns.length
  .have K:(j:Int)<(ns.length:Int):=by omega
   have G:Hid (GAt d w.heap.size A vs ns):=hid (H.out.below (L3.out.trans (r.out.1.below a.out.1 a.out.2.1)));obtain⟨ad,k,i,rfl,l⟩:=G.out.node hlt;obtain⟨ka,kn,kc⟩:=k;obtain⟨ia,X,ic⟩:=i;have z:ns[j]∈ns:=Q7 hlt;obtain⟨V,U⟩:=hks _ z;have v:Hid (∀x∈ns[j].keys,x<ns.length):=hid (fun x q=>hr _ z x (Z1 _ q));obtain⟨t,o⟩:=ex ((allKeys (ns.take j)).foldl (dvisit (Q9 ns) ns.length) p)
   have Z:Hid (t.length=ns.length):=hid (by rw[<-o];exact ze4 hr _ _ (fun x q=>zj5 hr x (zlb ns j x q)) S.out);have P:=hid o;have C:Hid ((allKeys (ns.take (j+1))).foldl (dvisit (Q9 ns) ns.length) p=ns[j].keys.foldl (dvisit (Q9 ns) ns.length) t):=hid (by rw[zid ns j hlt,Y7,o]);obtain⟨n,hn⟩:=ex (ns[j])
   rw[hn]at l v C V U;obtain rfl:kn=n.keys.length:=l.kn;obtain rfl:X=n.items.length:=l.inn;have x0:=l.c0;have x1:=l.c1;have x2:=l.c2;have x3:=l.c3;have x4:=l.c4;have T:=hid l.keys;have m:Hid (w.heap.size<=ob/\w.heap.size<=d.heap.size):=hid ⟨a.out.1,X3 a.out.2.1 r.out.1.size⟩;clear l z o hn;go_upto_region 5 with fail;obtain⟨O,f⟩:=ex (d.alloc (.cells #[.int .i64 n.kind,.string ⟨n.text.toArray⟩,.bool n.ord,.slice ka n.keys.length kc,.slice ia n.items.length ic] 37))
   have b5:Blk O d.heap.size 37 (ncells n ⟨ka,n.keys.length,kc⟩ ⟨ia,n.items.length,ic⟩):=by rw[<-f];exact Q1 _ _ _
   have s3:O.cell? ⟨d.heap.size,3,none⟩=some (.slice ka n.keys.length kc):=b5.cell 3;have HA:Hid (KB ob d O/\Blk O ob 4 (bcells t)):=hid ⟨by rw[<-f];exact(Z3 _ _).alloc _,by
    have:=r.out.2;rw[P.out]at this;rw[<-f];exact this.alloc _⟩
   rw[f];clear f b5 x0 x1 x2 x3 x4;go_upto_region 6 with fail;clear s3;go_loopw [22] (fun s22 wr=>∃k:Nat,k<=n.keys.length/\s22=.int .i64 k/\Hid (KB ob d wr/\Blk wr ob 4 (bcells ((n.keys.take k).foldl (dvisit (Q9 ns) ns.length) t)))) (fun s22 _=>n.keys.length-(intOf s22).toNat)
   case atStart=>exact⟨0,by omega,rfl,hid ⟨HA.out.1,by simpa using HA.out.2⟩⟩
   case round=>
    obtain⟨k,hk,rfl,s⟩:=hrel;by_cases hlk:k<n.keys.length
    .have L:(k:Int)<(n.keys.length:Int):=by omega
     obtain⟨x,q⟩:=ex (n.keys[k])
     obtain⟨ad2,rfl,_,y0⟩:=zaf (T.out.below (s.out.1.below m.out.1 m.out.2)) hlk;rw[q]at y0;have N:Blk wr gb 24 _:=s.out.1.blk (r.out.1.blk E.out a.out.2.2) a.out.2.2;obtain⟨g0,g1⟩:=cells2 N;have HC:=hid (zc6 ob (some ad) c root vs ns w.heap.size hr hl hks ((n.keys.take k).foldl (dvisit (Q9 ns) ns.length) t) x wr (G.out.below (s.out.1.below m.out.1 m.out.2)) a.out.1 s.out.2
      (ze4 hr _ _ (fun y hy=>v.out y (Y0 hy)) Z.out) (v.out x (q▸Q7 hlk)) (zie _ _))
     have HT:Hid ((n.keys.take (k+1)).foldl (dvisit (Q9 ns) ns.length) t=dvisit (Q9 ns) ns.length ((n.keys.take k).foldl (dvisit (Q9 ns) ns.length) t) x):=hid (by rw[zaj _ _ hlk,Y7,q];rfl);clear q N;go_wp2_with fail;refine HC.out.mono ?_;rintro e w6 ⟨rfl,M,F⟩;have Y:Hid (KB ob d w6/\Blk w6 ob 4 (bcells ((n.keys.take (k+1)).foldl (dvisit (Q9 ns) ns.length) t))):=hid ⟨s.out.1.trans M,by rw[HT.out];exact F⟩;clear M F;go_wp2;go_roundw
     case rel=>exact⟨k+1,by omega,by go_num,Y⟩
     case measure=>simp[intOf];omega
    .have L:¬((k:Int)<(n.keys.length:Int)):=by omega
     have Q:Hid (KB ob u wr/\Blk wr ob 4 (bcells ((allKeys (ns.take (j+1))).foldl (dvisit (Q9 ns) ns.length) p))):=hid ⟨r.out.1.trans s.out.1,by
      have:=s.out.2;rw[show k=n.keys.length from by omega,K9]at this;rw[C.out];exact this⟩
     clear s hk;go_wp2;go_roundw
     case rel=>exact⟨j+1,by omega,by go_num,Q⟩
     case measure=>simp[intOf];omega
  .have K:¬((j:Int)<(ns.length:Int)):=by omega
   have Q:Hid (Below w.heap.size w d/\Blk d ob 4 (bcells (inKeys ns))):=hid ⟨L3.out.trans (r.out.1.below a.out.1 a.out.2.1),by
    have:=r.out.2;rw[show j=ns.length from by omega,K9]at this;rw[I.out];exact this⟩
   clear r;go_wp2;go_ret;exact⟨ob,rfl,a.out.1,Q.out⟩
def nameC (c:UInt8):Bool:=(97<=c && c<=122) || (65<=c && c<=90) || (48<=c && c<=57) || c==95 || c==45 || c==46 || c==58
theorem zif (c:UInt8):nameC c=true↔(97<=c.toNat/\c.toNat<=122)\/(65<=c.toNat/\c.toNat<=90)\/(48<=c.toNat/\c.toNat<=57)\/c.toNat=95\/c.toNat=45\/c.toNat=46\/c.toNat=58:=by
 have e:∀n:Nat,n<256->(c=UInt8.ofNat n↔c.toNat=n):=fun n hn=>⟨fun h=>by rw[h];simp;omega,fun h=>by rw[<-h];simp⟩
 unfold nameC;simp only[W6,Y9,qqv,qkq,UInt8.le_iff_toNat_le];rw[show(c=95)=(c=UInt8.ofNat 95)from rfl,show(c=45)=(c=UInt8.ofNat 45)from rfl,show(c=46)=(c=UInt8.ofNat 46)from rfl,show(c=58)=(c=UInt8.ofNat 58)from rfl,e 95 (by omega),e 45 (by omega),e 46 (by omega),e 58 (by omega)];simp[or_assoc]
theorem byte_at (s:K4) (k:Nat) (hk:k<s.length) (c:UInt8) (h:s[k]=c):(((⟨s.toArray⟩:ByteArray)[k]'(by simpa[ByteArray.size]using hk)).toNat:Int)=(c.toNat:Int):=by
 have:(⟨s.toArray⟩:ByteArray)[k]'(by simpa[ByteArray.size]using hk)=s[k]:=rfl;rw[this,h]
theorem zdm (s:K4) (hs:s.length<=1073741823) (w:World):Calls prog 49 #[.string ⟨s.toArray⟩] w fun e w'=>e=.returned (.bool (nameB s))/\w'=w:=by
 have k:Hid (∀r:Bool,r=nameB s↔r=(s.all nameC && decide (1<=s.length) && decide (s.length<=64))):=hid (fun r=>by
  have:nameB s=(s.all nameC && decide (1<=s.length) && decide (s.length<=64)):=rfl;rw[this])
 go_enter func49,ntmps49;go_upto_region 2 with fail;go_loop [7] (fun x=>∃i:Nat,i<=s.length/\x=.int .i64 i/\Hid ((s.take i).all nameC=true)) (fun i=>s.length-(intOf i).toNat)
 case atStart=>exact⟨0,by omega,rfl,hid (by simp)⟩
 case round=>
  obtain⟨i,hi,rfl,q⟩:=hrel;by_cases hil:i<s.length
  .have b:(i:Int)<(s.length:Int):=by omega
   obtain⟨c,f⟩:=ex (s[i])
   have q0:=byte_at s i hil c f;have hbd:c.toNat<256:=c.toNat_lt;have hn:=zif c;have j:Hid ((s.take (i+1)).all nameC=nameC c):=hid (by rw[K2 hil,X4,q.out,f];simp);by_cases hy:nameC c=true
   .have o:Hid ((s.take (i+1)).all nameC=true):=hid (by rw[j.out,hy]);have hn:=hn.1 hy;clear hy j f;rcases hn with hn|hn|hn|hn|hn|hn|hn
    all_goals
     go_wp2;go_round
     case rel=>exact⟨i+1,by omega,by go_num,o⟩
     case measure=>simp[intOf];omega
   .have a:Hid (nameB s=false):=hid (by
     have d:(s.take (i+1)).all nameC=false:=by rw[j.out];simpa using hy
     have g:s.all nameC=false:=by
      cases e:s.all nameC with
      |false=>rfl
      |true=>
       rw[W1]at e;rw[U1]at d;obtain⟨x,D,n⟩:=d;exact absurd (e x (Y0 D)) n
     exact((k.out false).2 (by rw[g];rfl)).symm)
    have hn:=fun h=>hy (hn.2 h)
    have A:¬(97<=c.toNat/\c.toNat<=122):=fun h=>hn (.inl h)
    have u:¬(65<=c.toNat/\c.toNat<=90):=fun h=>hn (.inr (.inl h))
    have z:¬(48<=c.toNat/\c.toNat<=57):=fun h=>hn (.inr (.inr (.inl h)))
    have C:¬(c.toNat=95):=fun h=>hn (.inr (.inr (.inr (.inl h))))
    have B:¬(c.toNat=45):=fun h=>hn (.inr (.inr (.inr (.inr (.inl h)))))
    have v:¬(c.toNat=46):=fun h=>hn (.inr (.inr (.inr (.inr (.inr (.inl h))))))
    have y:¬(c.toNat=58):=fun h=>hn (.inr (.inr (.inr (.inr (.inr (.inr h))))))
    clear hn hy f j;have l:c.toNat<45\/c.toNat=47\/(59<=c.toNat/\c.toNat<=64)\/(91<=c.toNat/\c.toNat<=94)\/c.toNat=96\/122<c.toNat:=by omega
    have e4:((c.toNat:Int)==95)=false:=by simp;omega
    have e5:((c.toNat:Int)==45)=false:=by simp;omega
    have e6:((c.toNat:Int)==46)=false:=by simp;omega
    have e7:((c.toNat:Int)==58)=false:=by simp;omega
    clear A u z C B v y;rcases l with hn|hn|hn|hn|hn|hn
    all_goals
     go_wp2_with fail
     all_goals first
      | (go_ret;exact⟨by rw[a.out]<;>rfl,rfl⟩)
      | (exfalso;rename_i h;simp only[Bool.not_eq_false',qqv]at h;omega)
  .have b:¬((i:Int)<(s.length:Int)):=by omega
   have t:Hid (s.all nameC=true):=hid (by have:=q.out;rwa[V3 (by omega)]at this);by_cases d:1<=s.length
   .have p:(1:Int)<=(s.length:Int):=by omega
    by_cases g:s.length<=64
    .have m:(s.length:Int)<=64:=by omega
     have a:Hid (nameB s=true):=hid ((k.out true).2 (by rw[t.out];simp[d,g])).symm;go_wp2;go_ret;exact⟨by rw[a.out]<;>rfl,rfl⟩
    .have m:¬((s.length:Int)<=64):=by omega
     have a:Hid (nameB s=false):=hid ((k.out false).2 (by simp[g])).symm;go_wp2;go_ret;exact⟨by rw[a.out]<;>rfl,rfl⟩
   .have p:¬((1:Int)<=(s.length:Int)):=by omega
    have a:Hid (nameB s=false):=hid ((k.out false).2 (by simp[d])).symm;go_wp2;go_ret;exact⟨by rw[a.out]<;>rfl,rfl⟩
def ScalOk (T:World->Prop) (kind:Int) (text:K4) (r:Bool):Prop:=∀w,T w->Calls prog 27 #[.int .i64 kind,.string ⟨text.toArray⟩] w fun e w'=>e=.returned (.bool r)/\Below w.heap.size w w'
theorem zg4 (t:K4):((⟨t.toArray⟩:ByteArray)==⟨#[]⟩)=t.isEmpty:=by
 show(t.toArray==#[])=_;cases t with
 |nil=>rfl
 |cons a l=>simp
theorem ztd (T:World->Prop) (hT:Stays T) (sclr:Int->K4->Bool) (kind:Int) (text:K4) (ord:Bool) (keys items:List Nat) (ka ia:Option Addr) (kc ic:Nat) (htl:text.length<=1073741823)
 (hkl:keys.length<=1073741823) (hil:items.length<=1073741823)
 (hsc:kind≠9->kind≠10->kind≠11->ord=false->keys=[]->items=[]->ScalOk T kind text (sclr kind text)) (w:World) (hTw:T w):
 Calls prog 31 #[.agg #[.int .i64 kind,.string ⟨text.toArray⟩,.bool ord,.slice ka keys.length kc,.slice ia items.length ic]] w fun e w'=>e=.returned (.bool (formB sclr ⟨kind,text,ord,keys,items⟩))/\Below w.heap.size w w':=by
 have u:=hid hsc;clear hsc;obtain⟨l,g⟩:=ex (w.alloc (.cells #[.int .i64 kind,.string ⟨text.toArray⟩,.bool ord,.slice ka keys.length kc,.slice ia items.length ic] 37))
 have o:Below w.heap.size w l:=by rw[<-g];exact(K3 _ _).alloc (K1 _) _
 have q:Blk l w.heap.size 37 #[.int .i64 kind,.string ⟨text.toArray⟩,.bool ord,.slice ka keys.length kc,.slice ia items.length ic]:=by rw[<-g];exact Q1 _ _ _
 obtain⟨s0,s1,s2,s3,s4⟩:=cells5 q;have c:=hid o;have p:Hid (T l):=hid (hT _ _ hTw o);have k:=zg4 text;clear o q hTw;go_enter func31,ntmps31;go_upto_region 1 with fail;(try rw[g]);clear g;by_cases h9:kind=9
 .subst h9;cases he:text.isEmpty with
  |false=>
   rw[he]at k;have a:Hid (formB sclr ⟨9,text,ord,keys,items⟩=false):=hid (by simp[formB,he]);go_wp2;go_ret;exact⟨by rw[a.out]<;>rfl,c.out⟩
  |true=>
   rw[he]at k;cases ord with
   |true=>
    have a:Hid (formB sclr ⟨9,text,true,keys,items⟩=false):=hid (by simp[formB]);go_wp2;go_ret;exact⟨by rw[a.out]<;>rfl,c.out⟩
   |false=>
    by_cases hk:keys=[]
    .subst hk;have a:Hid (formB sclr ⟨9,text,false,[],items⟩=true):=hid (by simp[formB,he]);go_wp2;go_ret;exact⟨by rw[a.out]<;>rfl,c.out⟩
    .have f:¬((keys.length:Int)=0):=by have:=Q8.2 hk;omega
     have d:((keys.length:Int)==0)=false:=by simpa using hk
     have a:Hid (formB sclr ⟨9,text,false,keys,items⟩=false):=hid (by simp[formB,hk]);go_wp2;go_ret;exact⟨by rw[a.out]<;>rfl,c.out⟩
 .have h9b:(kind==9)=false:=by simpa using h9
  by_cases h10:kind=10
  .subst h10;cases he:text.isEmpty with
   |false=>
    rw[he]at k;have a:Hid (formB sclr ⟨10,text,ord,keys,items⟩=false):=hid (by simp[formB,he]);go_wp2;go_ret;exact⟨by rw[a.out]<;>rfl,c.out⟩
   |true=>
    rw[he]at k;by_cases hki:keys.length=items.length
    .have d:((keys.length:Int)==(items.length:Int))=true:=by simp[hki]
     have n:=hid hki;have f:(keys.length:Int)=(items.length:Int):=by omega
     have H1:=hid f;clear hki f;have a:Hid (formB sclr ⟨10,text,ord,keys,items⟩=true):=hid (by simp[formB,he,n.out]);go_wp2;go_ret;exact⟨by rw[a.out]<;>rfl,c.out⟩
    .have f:¬((keys.length:Int)=(items.length:Int)):=by omega
     have d:((keys.length:Int)==(items.length:Int))=false:=by simp;omega
     have a:Hid (formB sclr ⟨10,text,ord,keys,items⟩=false):=hid (by simp[formB,hki]);go_wp2;go_ret;exact⟨by rw[a.out]<;>rfl,c.out⟩
  .have h10b:(kind==10)=false:=by simpa using h10
   by_cases h11:kind=11
   .subst h11;cases hn:nameB text with
    |false=>
     have a:Hid (formB sclr ⟨11,text,ord,keys,items⟩=false):=hid (by simp[formB,hn]);have i:=hid hn;go_wp2_with fail;refine(zdm text htl _).mono ?_;rintro e h ⟨rfl,b⟩;subst b;rw[i.out];go_wp2;go_ret;exact⟨by rw[a.out]<;>rfl,c.out⟩
    |true=>
     have i:=hid hn;cases ord with
     |true=>
      have a:Hid (formB sclr ⟨11,text,true,keys,items⟩=false):=hid (by simp[formB]);go_wp2_with fail;refine(zdm text htl _).mono ?_;rintro e h ⟨rfl,b⟩;subst b;rw[i.out];go_wp2;go_ret;exact⟨by rw[a.out]<;>rfl,c.out⟩
     |false=>
      by_cases hk:keys=[]
      .subst hk;by_cases f:items.length=1
       .have a:Hid (formB sclr ⟨11,text,false,[],items⟩=true):=hid (by simp[formB,hn,f]);have d:((items.length:Int)==1)=true:=by simp[f]
        clear f;go_wp2_with fail;refine(zdm text htl _).mono ?_;rintro e h ⟨rfl,b⟩;subst b;rw[i.out];go_wp2;go_ret;exact⟨by rw[a.out]<;>rfl,c.out⟩
       .have a:Hid (formB sclr ⟨11,text,false,[],items⟩=false):=hid (by simp[formB,f]);have d:((items.length:Int)==1)=false:=by simp;omega
        have h1i:¬((items.length:Int)=1):=by omega
        go_wp2_with fail;refine(zdm text htl _).mono ?_;rintro e h ⟨rfl,b⟩;subst b;rw[i.out];go_wp2;go_ret;exact⟨by rw[a.out]<;>rfl,c.out⟩
      .have f:¬((keys.length:Int)=0):=by have:=Q8.2 hk;omega
       have d:((keys.length:Int)==0)=false:=by simpa using hk
       have a:Hid (formB sclr ⟨11,text,false,keys,items⟩=false):=hid (by simp[formB,hk]);go_wp2_with fail;refine(zdm text htl _).mono ?_;rintro e h ⟨rfl,b⟩;subst b;rw[i.out];go_wp2;go_ret;exact⟨by rw[a.out]<;>rfl,c.out⟩
   .have h11b:(kind==11)=false:=by simpa using h11
    cases ord with
    |true=>
     have a:Hid (formB sclr ⟨kind,text,true,keys,items⟩=false):=hid (by simp[formB,h9,h10,h11]);go_wp2;go_ret;exact⟨by rw[a.out]<;>rfl,c.out⟩
    |false=>
     by_cases hk:keys=[]
     .subst hk;by_cases hi:items=[]
      .subst hi;have a:Hid (formB sclr ⟨kind,text,false,[],[]⟩=sclr kind text):=hid (by simp[formB,h9,h10,h11]);have s:=hid (u.out h9 h10 h11 rfl rfl rfl l p.out);obtain⟨r,t⟩:=ex (sclr kind text)
       rw[t]at s a;clear t;go_wp2_with fail;refine s.out.mono ?_;rintro e h ⟨rfl,j⟩;have m:Hid (Below w.heap.size w h):=hid (c.out.trans (j.mono c.out.size));clear j;go_wp2;go_ret;exact⟨by rw[a.out]<;>rfl,m.out⟩
      .have f:¬((items.length:Int)=0):=by have:=Q8.2 hi;omega
       have d:((items.length:Int)==0)=false:=by simpa using hi
       have a:Hid (formB sclr ⟨kind,text,false,[],items⟩=false):=hid (by simp[formB,h9,h10,h11,hi]);go_wp2;go_ret;exact⟨by rw[a.out]<;>rfl,c.out⟩
     .have f:¬((keys.length:Int)=0):=by have:=Q8.2 hk;omega
      have d:((keys.length:Int)==0)=false:=by simpa using hk
      have a:Hid (formB sclr ⟨kind,text,false,keys,items⟩=false):=hid (by simp[formB,h9,h10,h11,hk]);go_wp2;go_ret;exact⟨by rw[a.out]<;>rfl,c.out⟩
def CutSl (A:Option Addr) (c:Nat) (w:World) (e:Ending) (w':World):Prop:=∃n,e=.returned (.slice A n c)/\w'=w
theorem ztn (A:Option Addr) (c:Nat) (l:List UInt8) (hl:l.length<=1073741823) (hc:l.length<=c) (w:World) (B:Nat) (h:RowAt byteL w B A l):
 Calls prog 68 #[.slice A l.length c] w (CutSl A c w):=by
 go_enter func68,ntmps68;go_wp2_with fail;go_loop [0] (fun s0=>∃k:Nat,k<=l.length/\s0=.slice A k c) (fun s0=>match s0 with| .slice _ n _=>n|_=>0)
 case atStart=>exact⟨_,K1 _,rfl⟩
 case round=>
  obtain⟨k,hk,rfl⟩:=hrel;by_cases h0:0<k
  .obtain⟨j,rfl⟩:∃j,k=j+1:=⟨k-1,by omega⟩
   have hcut:=fun W=>zim A (j+1) c j (by omega) W
   obtain⟨ad,rfl,_,e⟩:=zyk h (show j<l.length by omega);obtain⟨b,d⟩:∃b:Nat,(l[j]'(by omega)).toNat=b:=⟨_,rfl⟩
   rw[d]at e;have hbl:b<256:=by rw[<-d];exact(l[j]'(by omega)).toNat_lt
   clear d;by_cases hz:b=0
   .subst hz;go_wp2;go_round
    case rel=>exact⟨j,by omega,rfl⟩
    case measure=>simp
   .have a:¬((b:Int)=0):=by omega
    have hz2:((b:Int)==0)=false:=by simpa using a
    go_wp2;go_ret;exact⟨_,rfl,rfl⟩
  .obtain rfl:k=0:=by omega
   go_wp2;go_ret;exact⟨_,rfl,rfl⟩
def zws (ok:Bool) (w:World) (e:Ending) (w':World):Prop:=∃b A n c,e=.returned (.tuple #[.agg #[.bool b,.slice A n c],.bool ok])/\Below w.heap.size w w'
theorem zkc (n:K4) (hl:n.length<=1073741823) (w:World):
 Calls prog 54 #[.string ⟨n.toArray⟩] w (zws (intB n) w):=by
 obtain⟨s,hs⟩:=ex (intS n)
 have am:Hid (intB n=if s.length=0\/s.length>400\/(s.head?=some 48/\n.length>1)then false else s.all Q3):=hid (by unfold intB;rw[hs]);have aA:s.length<=n.length:=by rw[<-hs];unfold intS;split<;>simp
 have hsl:s.length<=1073741823:=by omega
 have ac:=hid hs;obtain⟨r,al⟩:∃r,decide (n.length>1/\n.head?=some 45)=r:=⟨_,rfl⟩
 have A:=hid al;clear hs aA al;go_enter func54,ntmps54;go_upto_region 3 with fail;obtain⟨H,C⟩:=ex ((w.alloc (.cells #[.bool false,.slice none 0 0] 82)).alloc (.cells #[.bool false,.slice none 0 0] 82))
 obtain⟨a,K⟩:=ex w.heap.size
 have L:=hid K;have q:Hid (Blk H (a+1) 82 #[.bool false,.slice none 0 0]/\Blk H a 82 #[.bool false,.slice none 0 0]/\Below a w H/\H.heap.size=a+1+1):=hid (by
  rw[<-C,<-K];have b1:=Q1 (w.alloc (.cells #[.bool false,.slice none 0 0] 82)) 82 #[.bool false,.slice none 0 0];rw[K5]at b1;exact⟨b1,(Q1 _ _ _).alloc _,((K3 _ _).alloc (K1 _) _).alloc (by simp) _,by simp⟩)
 (try rw[C]);(try rw[K]);clear C K;go_cut [16] (fun s16 O=>s16=.bool r/\O=H)
 case first=>
  by_cases h1:1<n.length
  .have ag:(1:Int)<(n.length:Int):=by omega
   have h0:0<n.length:=by omega
   obtain⟨c0,t⟩:=ex (n[0]'(by omega))
   have g:n.head?=some c0:=by rw[X2,Q0 (by omega),t]
   by_cases h2:c0=45
   .have Z:=zaz n 0 (by omega) c0 45 45 (by decide) t h2;have ae:=zaq n 0 (by omega) c0 45 45 (by decide) t h2;have z:Hid (r=true):=hid (by rw[<-A.out,g,h2];exact qqk ⟨h1,rfl⟩);clear g t h2;go_wp2;go_meet;exact⟨by rw[z.out],rfl⟩
   .have Z:=zao n 0 (by omega) c0 45 45 (by decide) t h2;have ae:=zar n 0 (by omega) c0 45 45 (by decide) t h2;have z:Hid (r=false):=hid (by rw[<-A.out,g];exact qqx (fun h=>h2 (Option.some.inj h.2)));clear g t h2;go_wp2;go_meet;exact⟨by rw[z.out],rfl⟩
  .have ag:¬(1:Int)<(n.length:Int):=by omega
   have z:Hid (r=false):=hid (by rw[<-A.out];exact qqx (fun h=>h1 h.1));go_wp2;go_meet;exact⟨by rw[z.out],rfl⟩
 case rest=>
 obtain⟨rfl,rfl⟩:=hcut;obtain⟨H,C⟩:∃H,H=wc:=⟨_,rfl⟩
 subst C;go_upto_if 16 with fail;go_cut [5] (fun s5 O=>s5=.string ⟨s.toArray⟩/\Hid (Blk O (a+1) 82 #[.bool r,.slice none 0 0]/\Blk O a 82 #[.bool false,.slice none 0 0]/\Below a w O/\O.heap.size=a+1+1))
 case first=>
  have q2:H.cell? ⟨a+1,0,none⟩=some (.bool false):=q.out.1.cell 0;have p1:∀j,H.frozen? ⟨a+1,j,none⟩=false:=q.out.1.frozen;cases r with
  |true=>
   have h1:n.length>1/\n.head?=some 45:=qqy A.out;have aa:Hid ((⟨n.toArray⟩:ByteArray).extract 1 n.length=⟨s.toArray⟩):=hid (by
    rw[zav,V3 (by simp),<-ac.out];unfold intS;rw[if_pos h1,List.drop_one])
   have ag:(1:Int)<=(n.length:Int):=by omega
   have h1N:1<=n.length:=by omega
   clear h1;go_wp2;go_meet;exact⟨by rw[aa.out],hid ⟨q.out.1.set_ 0 _,q.out.2.1.far (by simp) _,q.out.2.2.1.setCell (by simp) _,by simp[U9];exact q.out.2.2.2⟩⟩
  |false=>
   have aa:Hid (n=s):=hid (by
    rw[<-ac.out];unfold intS;rw[if_neg (qqz A.out)])
   go_wp2;go_meet;exact⟨by rw[aa.out],q⟩
 case rest=>
 obtain⟨rfl,G⟩:=hcut;obtain⟨d,ab⟩:∃d,d=wc:=⟨_,rfl⟩
 subst ab;have f:Hid (Blk d (a+1) 82 #[.bool r,.slice none 0 0]/\Blk d a 82 #[.bool false,.slice none 0 0]/\Below a w d):=hid ⟨G.out.1,G.out.2.1,G.out.2.2.1⟩;have an:=hid G.out.2.2.2;clear q G ac A;obtain⟨o,P⟩:∃o,decide (s.length=0\/s.length>400\/(s.head?=some 48/\n.length>1))=o:=⟨_,rfl⟩
 have B:=hid P;clear P;go_upto_region 6 with fail;go_cut [37] (fun s37 O=>s37=.bool o/\O=d)
 case first=>
  by_cases hz:s.length=0
  .have z:Hid (o=true):=hid (by rw[<-B.out];exact qqk (.inl hz));have V:(s.length:Int)=0:=by omega
   obtain rfl:=U3 hz;clear hz V;go_wp2;go_meet;exact⟨by rw[z.out],rfl⟩
  .have hz0:0<s.length:=by omega
   have V:¬((s.length:Int)=0):=by omega
   have hzb2:((s.length:Int)==0)=false:=by rw[qqq];exact V
   by_cases h4:s.length>400
   .have z:Hid (o=true):=hid (by rw[<-B.out];exact qqk (.inr (.inl h4)));have aq:(400:Int)<(s.length:Int):=by omega
    go_wp2;go_meet;exact⟨by rw[z.out],rfl⟩
   .have aq:¬(400:Int)<(s.length:Int):=by omega
    obtain⟨c1,u⟩:=ex (s[0]'(by omega))
    have g:s.head?=some c1:=by rw[X2,Q0 (by omega),u]
    by_cases hc48:c1=48
    .have Z:=zaz s 0 (by omega) c1 48 48 (by decide) u hc48;have ae:=zaq s 0 (by omega) c1 48 48 (by decide) u hc48;obtain⟨m1,E⟩:=ex (decide ((1:Int)<(n.length:Int)))
     have z:Hid (o=m1):=hid (by rw[<-B.out,<-E,g,hc48];exact decide_eq_decide.2 ⟨fun h=>h.elim (fun h=>absurd h hz) fun h=>h.elim (fun h=>absurd h h4) fun h=>by omega,fun h=>.inr (.inr ⟨rfl,by omega⟩)⟩);clear g u hc48;cases m1
     .have h1:=qqz E;clear E;go_wp2;go_meet;exact⟨by rw[z.out],rfl⟩
     .have h1:=qqy E;clear E;go_wp2;go_meet;exact⟨by rw[z.out],rfl⟩
    .have z:Hid (o=false):=hid (by rw[<-B.out,g];exact qqx (fun h=>h.elim hz fun h=>h.elim h4 fun h=>hc48 (Option.some.inj h.1)));have Z:=zao s 0 (by omega) c1 48 48 (by decide) u hc48;have ae:=zar s 0 (by omega) c1 48 48 (by decide) u hc48;clear g u hc48;go_wp2;go_meet;exact⟨by rw[z.out],rfl⟩
 case rest=>
 obtain⟨rfl,rfl⟩:=hcut;obtain⟨d,ab⟩:∃d,d=wc:=⟨_,rfl⟩
 subst ab;have p0:∀j,d.frozen? ⟨a,j,none⟩=false:=f.out.2.1.frozen;have p1:∀j,d.frozen? ⟨a+1,j,none⟩=false:=f.out.1.frozen;obtain⟨q0,q1⟩:=cells2 f.out.2.1;cases o with
 |true=>
  have X:Hid (intB n=false):=hid (by rw[am.out,if_pos (qqy B.out)]);go_wp2_with fail;obtain⟨e0,T⟩:=cells2 ((f.out.2.1.set_ 0 (.bool false)).set_ 1 (.slice none 0 0));refine E0 (v:=.tuple #[.agg #[.bool false,.slice none 0 0],.bool false]) (by simp[results,results54,go_sem,e0,T]) rfl ?_;rw[X.out];exact⟨false,none,0,0,rfl,by rw[L.out];exact(f.out.2.2.setCell (p:=⟨a,0,none⟩) (by simp) _).setCell (p:=⟨a,1,none⟩) (by simp) _⟩
 |false=>
  obtain⟨q2,q3⟩:=cells2 f.out.1;have ak:Hid (intB n=s.all Q3):=hid (by rw[am.out,if_neg (qqz B.out)]);have ar:=fun W=>zcw s.length (by omega) W
  have au:a+1<d.heap.size:=by have:=an.out;omega
  have ay:a<d.heap.size:=by omega
  go_upto_region 10 with fail;obtain⟨w2,N⟩:=ex ((d.setCell ⟨a+1,1,none⟩ (.slice (some ⟨d.heap.size,0,none⟩) s.length s.length)).alloc (.cells (ucells (K0 s.length 0)) 5))
  obtain⟨c,I⟩:=ex d.heap.size
  have ao:Hid (Blk w2 a 82 #[.bool false,.slice none 0 0]/\Blk w2 (a+1) 82 #[.bool r,.slice (some ⟨c,0,none⟩) s.length s.length]/\Blk w2 c 5 (ucells (K0 s.length 0))/\Below a w w2):=hid (by
   rw[<-N,<-I];refine⟨(f.out.2.1.far (by simp) _).alloc _,(f.out.1.set_ 1 _).alloc _,?_,?_⟩
   .have:=Q1 (d.setCell ⟨a+1,1,none⟩ (.slice (some ⟨d.heap.size,0,none⟩) s.length s.length)) 5 (ucells (K0 s.length 0));rwa[show(d.setCell ⟨a+1,1,none⟩ (.slice (some ⟨d.heap.size,0,none⟩) s.length s.length)).heap.size=d.heap.size from by simp[U9]]at this
   .exact(f.out.2.2.setCell (by simp) _).alloc (by simp[U9];omega) _)
  have S:Hid (a+1<c):=hid (by omega);(try rw[I]at N);(try rw[I]);(try rw[N]);clear N I au ay p0 p1 q0 q1 q2 q3 ar;go_loopw [45] (fun s45 wr=>∃k:Nat,k<=s.length/\s45=.int .i64 k/\Hid ((s.take k).all Q3=true/\∃l:List UInt8,l.length=s.length/\Blk wr a 82 #[.bool false,.slice none 0 0]/\Blk wr (a+1) 82 #[.bool r,.slice (some ⟨c,0,none⟩) s.length s.length]/\Blk wr c 5 (ucells l)/\Below a w wr)) (fun s45 _=>s.length-(intOf s45).toNat)
  case atStart=>exact⟨0,by omega,rfl,hid ⟨by simp,K0 s.length 0,by simp,ao.out⟩⟩
  case round=>
   obtain⟨k,hk,rfl,HV⟩:=hrel;obtain⟨y,l,M,J,v1,vd,vb⟩:=HV.out;by_cases hlt:k<s.length
   .have aj:(k:Int)<(s.length:Int):=by omega
    obtain⟨b,hb⟩:∃b:Nat,(s[k]'(by omega)).toNat=b:=⟨_,rfl⟩
    have hbv:(((⟨s.toArray⟩:ByteArray)[k]'(by simpa[ByteArray.size]using hlt)).toNat:Int)=(b:Int):=by rw[<-hb];rfl
    have ad:(s.take (k+1)).all Q3=(decide (48<=b) && decide (b<=57)):=by
     rw[K2 hlt,X4,y];have:Q3 (s[k]'(by omega))=(decide (48<=b) && decide (b<=57)):=by
      unfold Q3;rw[<-hb];simp[UInt8.le_iff_toNat_le]
     simp[this]
    have hbl:b<256:=by rw[<-hb];exact(s[k]'(by omega)).toNat_lt
    have Q:Hid ((decide (48<=b) && decide (b<=57))=false->intB n=false):=hid (fun e=>by
     rw[ak.out,U1];have h3:(s.take (k+1)).all Q3=false:=by rw[ad,e]
     obtain⟨x,hx,az⟩:=U1.1 h3;exact⟨x,Y0 hx,az⟩)
    have g0:=J.cell 0;have aD:=hid ad;have F:=hid J;have af:=hid v1;have R:=hid vd;have D:=hid vb;have ah:=hid M;have aw:∀j,wr.frozen? ⟨a,j,none⟩=false:=J.frozen;obtain⟨aB,aC⟩:=cells2 J;have Y:wr.cell? ⟨a+1,1,none⟩=some (.slice (some ⟨c,0,none⟩) s.length s.length):=v1.cell 1;clear ad hb y J v1 vd vb M g0;by_cases h48:48<=b
    .by_cases h57:b<=57
     .have a1:¬((b:Int)<48):=by omega
      have a2:¬((57:Int)<(b:Int)):=by omega
      have i1:(0:Int)<=(s.length:Int)-1-(k:Int):=by omega
      have i2:(s.length:Int)-1-(k:Int)<(s.length:Int):=by omega
      have pfd:∀j,wr.frozen? ⟨c,j,none⟩=false:=R.out.frozen;have a48:(48:Int)<=(b:Int):=by omega
      have a57:(b:Int)<=57:=by omega
      obtain⟨dv,zd⟩:∃dv,wr.cell? ⟨c,s.length-1-k,none⟩=some dv:=by
       rw[R.out.cell];refine⟨_,Y4 (i:=s.length-1-k) ?_⟩;have:=ah.out;simp[ucells];omega
      go_upto_region 14 with fail;go_region
      all_goals go_wp2_with fail
      obtain⟨U,ap⟩:∃U:UInt8,(U.toNat:Int)=(b:Int)-48:=⟨UInt8.ofNat (b-48),by rw[UInt8.toNat_ofNat'];omega⟩
      rw[<-ap];have ax:a≠c:=by have:=S.out;omega
      have ai:a+1≠c:=by have:=S.out;omega
      have HN:Hid ((s.take (k+1)).all Q3=true/\∃l2:List UInt8,l2.length=s.length/\Blk (wr.setCell ⟨c,s.length-1-k,none⟩ (.int .u8 (U.toNat:Int))).drew a 82 #[.bool false,.slice none 0 0]/\Blk (wr.setCell ⟨c,s.length-1-k,none⟩ (.int .u8 (U.toNat:Int))).drew (a+1) 82 #[.bool r,.slice (some ⟨c,0,none⟩) s.length s.length]/\Blk (wr.setCell ⟨c,s.length-1-k,none⟩ (.int .u8 (U.toNat:Int))).drew c 5 (ucells l2)/\Below a w (wr.setCell ⟨c,s.length-1-k,none⟩ (.int .u8 (U.toNat:Int))).drew):=hid ⟨by rw[aD.out];simp[h48,h57],l.set (s.length-1-k) U,by simp[ah.out],(F.out.far ax _).drew,(af.out.far ai _).drew,by
       rw[<-zd1];exact(R.out.set_ _ _).drew,below_drewN (D.out.setCell (by have:=S.out;simp;omega) _) 1⟩
      go_roundw
      case rel=>exact⟨k+1,by omega,by go_num,HN⟩
      case measure=>simp[intOf];omega
     .have X:Hid (intB n=false):=hid (Q.out (by simp[h57]));have a1:¬((b:Int)<48):=by omega
      have a2:((57:Int)<(b:Int)):=by omega
      clear Y;go_wp2_with fail;obtain⟨e0,T⟩:=cells2 ((F.out.set_ 0 (.bool false)).set_ 1 (.slice none 0 0));refine E0 (v:=.tuple #[.agg #[.bool false,.slice none 0 0],.bool false]) (by simp[results,results54,go_sem,e0,T]) rfl ?_;rw[X.out];exact⟨false,none,0,0,rfl,by rw[L.out];exact(D.out.setCell (p:=⟨a,0,none⟩) (by simp) _).setCell (p:=⟨a,1,none⟩) (by simp) _⟩
    .have X:Hid (intB n=false):=hid (Q.out (by simp[h48]));have a1:((b:Int)<48):=by omega
     clear Y;go_wp2_with fail;obtain⟨e0,T⟩:=cells2 ((F.out.set_ 0 (.bool false)).set_ 1 (.slice none 0 0));refine E0 (v:=.tuple #[.agg #[.bool false,.slice none 0 0],.bool false]) (by simp[results,results54,go_sem,e0,T]) rfl ?_;rw[X.out];exact⟨false,none,0,0,rfl,by rw[L.out];exact(D.out.setCell (p:=⟨a,0,none⟩) (by simp) _).setCell (p:=⟨a,1,none⟩) (by simp) _⟩
   .have aj:¬(k:Int)<(s.length:Int):=by omega
    have X:Hid (intB n=true):=hid (by
     rw[ak.out];rwa[show k=s.length from by omega,K9]at y)
    have HT:=hid (ztn (some ⟨c,0,none⟩) s.length l (by omega) (by omega) wr (c+1) (V6 vd (zat l) (by omega)));rw[M]at HT;have aw:∀j,wr.frozen? ⟨a,j,none⟩=false:=J.frozen;have pf1:∀j,wr.frozen? ⟨a+1,j,none⟩=false:=v1.frozen;obtain⟨aB,aC⟩:=cells2 J;obtain⟨pc3,Y⟩:=cells2 v1;have F:=hid J;have af:=hid v1;have D:=hid vb;clear J v1 vd vb M y;go_wp2_with fail;refine HT.out.mono ?_;rintro e w5 ⟨m,rfl,av⟩;subst av;go_wp2_with fail;have b0:=((F.out.far (p:=⟨a+1,1,none⟩) (by simp) (.slice (some ⟨c,0,none⟩) m s.length)).set_ 0 (.bool r)).set_ 1 (.slice (some ⟨c,0,none⟩) m s.length);obtain⟨e0,T⟩:=cells2 b0;refine E0 (v:=.tuple #[.agg #[.bool r,.slice (some ⟨c,0,none⟩) m s.length],.bool true]) (by simp[results,results54,go_sem,e0,T]) rfl ?_;rw[X.out];exact⟨r,_,_,_,rfl,by rw[L.out];exact((D.out.setCell (p:=⟨a+1,1,none⟩) (by simp) _).setCell (p:=⟨a,0,none⟩) (by simp) _).setCell (p:=⟨a,1,none⟩) (by simp) _⟩
def d8 (d:List Nat):List UInt8:=d.map UInt8.ofNat
theorem zyw (d:List Nat):(d8 d).length=d.length:=by simp[d8]
def zp8 (w:World) (d:List Nat) (e:Ending) (w':World):Prop:=∃g,e=.returned (.slice (some ⟨g,0,none⟩) d.length d.length)/\w.heap.size<=g/\Blk w' g 5 (ucells (d8 d))/\Below w.heap.size w w'
theorem zlo (a:List UInt8) (n:Nat) (x:UInt8) (h:0<n):(a++K0 n 0).set a.length x=(a++[x])++K0 (n-1) 0:=by
 obtain⟨m,rfl⟩:∃m,n=m+1:=⟨n-1,by omega⟩
 rw[List.set_append_right _ _ (K1 _),Y2,List.replicate_succ,X9,Y8];rfl
theorem zp9 (s:K4) (hl:s.length<=1073741823) (hd:s.all Q3=true) (w:World):
 Calls prog 73 #[.string ⟨s.toArray⟩] w (zp8 w (vals s)):=by
 have u:=fun W=>zcw s.length (by omega) W
 go_enter func73,ntmps73;go_upto_region 2 with fail;obtain⟨y,f⟩:=ex (w.alloc (.cells (ucells (K0 s.length 0)) 5))
 obtain⟨c,d⟩:=ex w.heap.size
 have r:Hid (Blk y c 5 (ucells (K0 s.length 0))/\Below c w y):=hid (by rw[<-f,<-d];exact⟨Q1 _ _ _,(K3 _ _).alloc (K1 _) _⟩);have p:=hid d;have z:=hid hd;rw[f];(try rw[d]);clear f d u hd;go_wp2_with fail;go_loopw [10] (fun s10 wr=>∃k:Nat,k<=s.length/\s10=.int .i64 k/\Hid (Blk wr c 5 (ucells (d8 (vals (s.take k))++K0 (s.length-k) 0))/\Below c w wr)) (fun s10 _=>s.length-(intOf s10).toNat)
 case atStart=>exact⟨0,by omega,rfl,hid (by simpa[vals,d8]using r.out)⟩
 case round=>
  obtain⟨k,hk,rfl,h⟩:=hrel;by_cases hlt:k<s.length
  .have l:(k:Int)<(s.length:Int):=by omega
   obtain⟨b,q⟩:∃b:Nat,(s[k]'(by omega)).toNat=b:=⟨_,rfl⟩
   have hbv:(((⟨s.toArray⟩:ByteArray)[k]'(by simpa[ByteArray.size]using hlt)).toNat:Int)=(b:Int):=by rw[<-q];rfl
   have o:=(zbl (s[k]'hlt)).1 (W1.1 z.out _ (Q7 hlt));rw[q]at o;have a48:(48:Int)<=(b:Int):=by omega
   have a57:(b:Int)<=57:=by omega
   have pfd:∀j,wr.frozen? ⟨c,j,none⟩=false:=h.out.1.frozen;have a:(d8 (vals (s.take k))).length=k:=by simp[d8,vals];omega
   obtain⟨v,zd⟩:∃v,wr.cell? ⟨c,k,none⟩=some v:=by
    rw[h.out.1.cell];refine⟨_,Y4 (i:=k) ?_⟩;simp[ucells,a];omega
   have m:Hid (d8 (vals (s.take (k+1)))=d8 (vals (s.take k))++[UInt8.ofNat (b-48)]/\(d8 (vals (s.take k))).length=k):=hid ⟨by
    rw[K2 hlt];simp only[d8,vals,W3,D0,List.map_nil,Gr.dv,q],a⟩
   clear q o a;go_wp2_with fail;obtain⟨g,e⟩:∃g:UInt8,g=UInt8.ofNat (b-48):=⟨_,rfl⟩
   have n:(b:Int)-48=(g.toNat:Int):=by rw[e,UInt8.toNat_ofNat'];omega
   rw[n];have B:Hid (Blk (wr.setCell ⟨c,k,none⟩ (.int .u8 (g.toNat:Int))) c 5 (ucells (d8 (vals (s.take (k+1)))++K0 (s.length-(k+1)) 0))/\Below c w (wr.setCell ⟨c,k,none⟩ (.int .u8 (g.toNat:Int)))):=hid ⟨by
    have t:=h.out.1.set_ k (.int .u8 (g.toNat:Int));rw[zd1]at t;have x:=zlo (d8 (vals (s.take k))) (s.length-k) g (by omega);rw[m.out.2]at x;rw[x]at t;rw[m.out.1,<-e,show s.length-(k+1)=s.length-k-1 from by omega];exact t,h.out.2.setCell (by simp) _⟩
   clear n e;go_roundw
   case rel=>exact⟨k+1,by omega,by go_num,B⟩
   case measure=>simp[intOf];omega
  .have l:¬(k:Int)<(s.length:Int):=by omega
   have A:Hid (Blk wr c 5 (ucells (d8 (vals s)))):=hid (by
    have:=h.out.1;rwa[show k=s.length from by omega,K9,Y2,Z6,U5]at this)
   go_wp2;go_ret;refine⟨c,?_,by rw[p.out];exact K1 _,A.out,by rw[p.out];exact h.out.2⟩;simp[vals]
theorem infoByteS:(prog.info? 5).map (·.size)=some 1:=by kernel_rfl
theorem zm7 (W:World) (B g n c:Nat) (A:Option Addr) (l:List UInt8) (ty:TypeId) (hl:l.length=n) (hb:Blk W g 5 (ucells (K0 n 0))) (hr:RowAt byteL W B A l):
 ∃W',(Builtin.copy_ #[80,80] ty #[.slice (some ⟨g,0,none⟩) n n,.slice A n c]).run prog W=.ok (.int .i64 n) W'/\Kept1 g W W'/\Blk W' g 5 (ucells l):=by
 by_cases h0:n=0
 .subst h0;obtain rfl:=U3 hl;exact⟨W,run_copy_none (P:=prog) W 80 80 ty 5 _ A 0 0 0 c underlying80 infoByteS rfl,D9 _ _,hb⟩
 .obtain⟨f,rfl,hlt,d⟩:=hr.2 (by omega);have a:(byteL.all l).length=n:=by rw[Lay.all_len];show l.length*1=n;omega
  have b:=run_copy_row (P:=prog) W 80 80 ty 5 g 0 n n f n c (ucells (K0 n 0)) 5 (byteL.all l) underlying80 infoByteS hb (by rw[a];exact(D6 n).symm) d (by rw[a];simp[ucells]) (byteL.all_one l);have e:((ucells (K0 n 0)).toList.take 0++byteL.all l++(ucells (K0 n 0)).toList.drop (0+(byteL.all l).length)).toArray=ucells l:=by
   rw[a,<-zat];simp[ucells]
  rw[e,a]at b;exact⟨_,b,⟨rfl,rfl,rfl,size_setRow _ _ _,fun k h=>setRow_other _ _ _ _ h⟩,setRow_heap _ _ _ _ _ _ hb⟩
theorem zhj (l:List UInt8) (k:Nat):(byteL.all l).drop k=byteL.all (l.drop k):=by
 rw[<-zat,<-zat];simp[ucells,List.map_drop]
theorem zhk (l:List UInt8) (k:Nat):(byteL.all l).take k=byteL.all (l.take k):=by
 rw[<-zat,<-zat];simp[ucells,W9]
theorem ztw {w:World} {B:Nat} {A:Option Addr} {l:List UInt8} (h:RowAt byteL w B A l) {k cap:Nat} (hk:k<=l.length) (hc:l.length<=cap):RowAt byteL w B (if cap=k then A else A.map (·.add (k*1))) (l.drop k):=by
 have:=Reads.cut h hk hc;show Reads w B 1 _ _ _;rw[show byteL.sz=1 from rfl,Z5,zhj]at this;rw[Z5,Q4];exact this
theorem zqa {w:World} {B:Nat} {A:Option Addr} {l:List UInt8} (h:RowAt byteL w B A l) {k:Nat} (hk:k<=l.length):RowAt byteL w B A (l.take k):=by
 refine⟨byteL.all_len _,fun g=>?_⟩;have b:(l.take k).length=k:=by simp;omega
 rw[b]at g;obtain⟨d,c,f,e⟩:=h.2 (by omega);refine⟨d,c,f,fun j u a=>e j u ?_⟩;rw[<-zhk]at a;rw[List.getElem?_take]at a;split at a
 .exact a
 .cases a
theorem zm8 (a:Option Addr) (n c:Nat) (h1:1<=n) (w:World):(Instr.slice 80 (.slice a n c) (some (.int .i64 1)) none none).run prog w=.ok (.slice (if c=1 then a else a.map (·.add (1*1))) (n-1) (c-1)) w:=by
 obtain⟨e,z,d,hz0,b,hz2,hz3⟩:=byteT.info;rw[zia (P:=prog) 80 5 e underlying80 d a n c 1 (by omega) (by omega) w,b];rfl
def NumAt (x:U8) (A:Option Addr) (c:Nat) (w:World):Prop:=(x.d=[]/\A=none/\c=0)\/∃g,A=some ⟨g,0,none⟩/\c=x.d.length/\Blk w g 5 (ucells (d8 x.d))
theorem NumAt.row {x:U8} {A:Option Addr} {c:Nat} {w:World} (h:NumAt x A c w):RowAt byteL w w.heap.size A (d8 x.d):=by
 rcases h with⟨b,rfl,_⟩|⟨g,rfl,_,a⟩
 .rw[b];exact RowAt.nil
 .exact V6 a (zat _) a.lt
theorem NumAt.keep {x:U8} {A:Option Addr} {c:Nat} {w w':World} (h:NumAt x A c w) (hk:∀g cs,Blk w g 5 cs->Blk w' g 5 cs):NumAt x A c w':=by
 rcases h with h1|⟨g,h1,h2,hb⟩
 .exact .inl h1
 .exact .inr ⟨g,h1,h2,hk _ _ hb⟩
theorem NumAt.alloc {x:U8} {A:Option Addr} {c:Nat} {w:World} (h:NumAt x A c w) (o:Obj):NumAt x A c (w.alloc o):=h.keep (fun _ _ a=>a.alloc o)
theorem NumAt.set_ {x:U8} {A:Option Addr} {c:Nat} {w:World} (h:NumAt x A c w) {k i:Nat} {t:TypeId} {cs:Array Value} (hk:Blk w k t cs) (ht:5≠t) (u:Value):NumAt x A c (w.setCell ⟨k,i,none⟩ u):=h.keep (fun _ _ a=>a.far (a.ne_ hk ht) u)
def NumVal (x:U8) (v:Value) (w:World):Prop:=∃A c,v=.agg #[.bool x.neg,.slice A x.d.length c,.int .i64 x.e]/\NumAt x A c w
def zlp (x:U8) (w:World) (e:Ending) (w':World):Prop:=∃v,e=.returned v/\NumVal x v w'/\Below w.heap.size w w'
theorem zyx {d:List Nat} {k:Nat} (h:k<d.length):(d8 d)[k]'(by simpa[d8]using h)=UInt8.ofNat d[k]:=by simp[d8]
theorem zw1 {w:World} {B:Nat} {A:Option Addr} {d:List Nat} {k v:Nat} (h:RowAt byteL w B A (d8 d)) (hk:k<d.length) (hv:d[k]=v) (hl:v<10):∃ad,A=some ad/\ad.block<B/\w.cell? (ad.add k)=some (.int .u8 (v:Int)):=by
 obtain⟨ad,a,b,c⟩:=zyk h (show k<(d8 d).length by simpa[d8]using hk);refine⟨ad,a,b,?_⟩;rw[c,zyx hk,hv,UInt8.toNat_ofNat',Nat.mod_eq_of_lt (by omega)]
theorem zqb (d:List Nat):(0::d).dropWhile isZ=d.dropWhile isZ:=rfl
theorem zvr (v:Nat) (d:List Nat) (h:v≠0):(v::d).dropWhile isZ=v::d:=by
 rw[Z7,if_neg];simpa[isZ]using h
theorem zhl (d:List Nat) (v:Nat):V2 (d++[v])=if v=0 then V2 d else d++[v]:=by
 unfold V2;rw[List.reverse_append,List.reverse_cons,List.reverse_nil,List.nil_append,List.singleton_append,Z7];by_cases h:v=0
 .rw[if_pos (by simpa[isZ]using h),if_pos h]
 .rw[if_neg (by simpa[isZ]using h),if_neg h];simp
theorem ztx (neg:Bool) (A:Option Addr) (c:Nat) (d:List Nat) (E:Int) (hl:d.length<=1073741823) (hc:d.length<=c) (hd:∀v∈d,v<10) (hE0:-1152921504606846976<=E) (hE1:E<=1152921504606846976) (w:World) (B:Nat) (hB:B<=w.heap.size) (h:RowAt byteL w B A (d8 d)):
 Calls prog 72 #[.bool neg,.slice A d.length c,.int .i64 E] w (zlp (norm neg d E) w):=by
 obtain⟨r,hr⟩:=ex (norm neg d E)
 have HR:=hid hr;rw[hr];clear hr;have R:=hid h;have HD:=hid hd;clear h hd;go_enter func72,ntmps72;go_upto_region 1 with fail;obtain⟨q,K⟩:=ex (w.alloc (.cells #[.bool false,.slice none 0 0,.int .i64 0] 86))
 obtain⟨b,y⟩:=ex w.heap.size
 have a:Hid (Blk q b 86 #[.bool false,.slice none 0 0,.int .i64 0]/\Below b w q/\q.heap.size=b+1):=hid (by rw[<-K,<-y];exact⟨Q1 _ _ _,(K3 _ _).alloc (K1 _) _,by simp⟩);have S:=hid y;have ah:B<=b:=by omega
 (try rw[K]);(try rw[y]);clear K y;have p0:∀j,q.frozen? ⟨b,j,none⟩=false:=a.out.1.frozen;obtain⟨q0,q1,q2⟩:=cells3 a.out.1;go_loop [1] (fun s1=>∃(A1:Option Addr) (c1:Nat) (m:List Nat),s1=.slice A1 m.length c1/\Hid (m.length<=c1/\RowAt byteL q B A1 (d8 m)/\m.dropWhile isZ=d.dropWhile isZ/\(∀v∈m,v<10)/\m.length<=1073741823)) (fun s1=>match s1 with| .slice _ n _=>n|_=>0)
 case atStart=>exact⟨A,c,d,rfl,hid ⟨hc,R.out.below (a.out.2.1.mono ah),rfl,HD.out,hl⟩⟩
 case round=>
  obtain⟨A1,c1,m,rfl,HV⟩:=hrel;cases m with
  |nil=>
   have HF:Hid (r=zeroD):=hid (by
    rw[<-HR.out];unfold norm;rw[if_pos (show d.dropWhile isZ=[]from HV.out.2.2.1.symm)])
   go_wp2_with fail;go_loop [1,2] (fun s1 s2=>s1=.slice A1 0 c1/\s2=.int .i64 E) (fun _ _=>0)
   case atStart=>exact⟨rfl,rfl⟩
   case round=>
    obtain⟨rfl,rfl⟩:=hrel;go_wp2_with fail;have g:=((a.out.1.set_ 0 (.bool false)).set_ 1 (.slice none 0 0)).set_ 2 (.int .i64 0);have e0:=g.cell 0;have e1:=g.cell 1;have e2:=g.cell 2;refine E0 (v:=.agg #[.bool false,.slice none 0 0,.int .i64 0]) (by simp[results,results72,go_sem,e0,e1,e2]) rfl ?_;rw[HF.out];exact⟨_,rfl,⟨none,0,rfl,.inl ⟨rfl,rfl,rfl⟩⟩,by rw[S.out];exact((a.out.2.1.setCell (p:=⟨b,0,none⟩) (by simp) _).setCell (p:=⟨b,1,none⟩) (by simp) _).setCell (p:=⟨b,2,none⟩) (by simp) _⟩
  |cons v m=>
   obtain⟨f,P,h3,V,h5⟩:=HV.out;have T:v<10:=V v (.head _);have hlc:m.length+1<=c1:=f;obtain⟨t,rfl,_,y0⟩:=zw1 P (show 0<(v::m).length by simp) rfl T;rw[show t.add 0=t from rfl]at y0;have aa:(0:Int)<((v::m).length:Int):=by simp
   have ag:=zm8 (some t) (v::m).length c1 (by simp);by_cases hz:v=0
   .subst hz;have ai:(((0:Nat):Int)==0)=true:=rfl;have D:Hid (m.length<=c1-1/\RowAt byteL q B (if c1=1 then some t else(some t).map (·.add (1*1))) (d8 m)/\m.dropWhile isZ=d.dropWhile isZ/\(∀v∈m,v<10)/\m.length<=1073741823):=hid ⟨by omega,ztw P (k:=1) (by simp[d8]) (by simpa[d8]using f),by rw[<-h3,zqb],fun v hv=>V v (.tail _ hv),by simp at h5;omega⟩;clear f P h3 V h5;go_wp2;go_round
    case rel=>exact⟨_,_,m,rfl,D⟩
    case measure=>simp
   .have hz1:¬((v:Int)=0):=by omega
    have ai:((v:Int)==0)=false:=by simpa using hz
    obtain⟨M,Z⟩:=ex (v::m)
    have C:Hid (M.length<=c1/\RowAt byteL q B (some t) (d8 M)/\(∀v∈M,v<10)/\M.length<=1073741823/\M.head?=some v/\M≠[]/\r=⟨neg,V2 M,E+((M.length-(V2 M).length:Nat):Int)⟩):=hid (by
     rw[<-Z];refine⟨f,P,V,h5,rfl,by simp,?_⟩;rw[<-HR.out];unfold norm;rw[<-h3,zvr v m hz,if_neg (by simp)])
    rw[Z];rw[Z]at aa;clear f P h3 V h5 ag Z;go_wp2_with fail;go_loop [1,2] (fun s1 s2=>∃k:Nat,0<k/\k<=M.length/\s1=.slice (some t) k c1/\s2=.int .i64 (E+((M.length-k:Nat):Int))/\Hid (V2 (M.take k)=V2 M)) (fun s1 _=>match s1 with| .slice _ n _=>n|_=>0)
    case atStart=>exact⟨M.length,by omega,K1 _,rfl,by simp,hid (by rw[K9])⟩
    case round=>
     clear y0;obtain⟨k,hk0,hkM,rfl,rfl,Y⟩:=hrel;obtain⟨j,rfl⟩:∃j,k=j+1:=⟨k-1,by omega⟩
     have x:j<M.length:=by omega
     obtain⟨u,L⟩:=ex (M[j])
     have N:u<10:=by rw[<-L];exact C.out.2.2.1 _ (Q7 x)
     obtain⟨ad',i,_,y0⟩:=zw1 C.out.2.1 x L N;injection i with i
     subst i;have HT:=hid (show M.take (j+1)=M.take j++[u] by rw[K2 x,L]);have hcut:=fun W=>zim (some t) (j+1) c1 j (by have:=C.out.1;omega) W
     have HU:=hid L;clear L;have hML:M.length<=1073741823:=C.out.2.2.2.1;have hjI:(j:Int)<=1073741822:=by omega
     have hj0I:(0:Int)<=(j:Int):=by omega
     by_cases hz2:u=0
     .subst hz2;have aj:0<j:=by
       rcases Nat.eq_zero_or_pos j with h0|h0
       .subst h0;have f:=C.out.2.2.2.2.1;rw[X2,Q0 x,HU.out]at f;injection f with f
        exact absurd f.symm hz
       .exact h0
      have af:(((0:Nat):Int)==0)=true:=rfl;have D:Hid (V2 (M.take j)=V2 M):=hid (by rw[<-Y.out,HT.out,zhl,if_pos rfl]);go_wp2;go_round
      case rel=>exact⟨j,aj,by omega,rfl,by go_num,D⟩
      case measure=>simp
     .have U:¬((u:Int)=0):=by omega
      have af:((u:Int)==0)=false:=by simpa using hz2
      have HF:Hid (r=⟨neg,M.take (j+1),E+((M.length-(j+1):Nat):Int)⟩):=hid (by
       have f:=Y.out;rw[HT.out,zhl,if_neg hz2,<-HT.out]at f;rw[C.out.2.2.2.2.2.2,<-f,Q6,Nat.min_eq_left (by omega)])
      have hmk:∀W:World,(Instr.makeSlice 80 (.int .i64 ((j:Int)+1)) (.int .i64 ((j:Int)+1))).run prog W=.ok (.slice (some ⟨W.heap.size,0,none⟩) (j+1) (j+1)) (W.alloc (.cells (ucells (K0 (j+1) 0)) 5)):=fun W=>by
       have:=zcw (j+1) (by omega) W;rwa[show(((j+1:Nat)):Int)=(j:Int)+1 from by omega]at this
      have hnz:¬(((j+1:Nat):Int)=0):=by omega
      have hnzb:(((j+1:Nat):Int)==0)=false:=by rw[qqq];omega
      go_upto_region 9 with fail;obtain⟨w2,o⟩:=ex (q.alloc (.cells (ucells (K0 (j+1) 0)) 5))
      obtain⟨l,e⟩:=ex q.heap.size
      have F:Below l q w2:=by rw[<-o,<-e];exact(K3 _ _).alloc (K1 _) _
      have X:Blk w2 l 5 (ucells (K0 (j+1) 0)):=by rw[<-o,<-e];exact Q1 _ _ _
      have ae:l=b+1:=by rw[<-e];exact a.out.2.2
      have O:RowAt byteL w2 B (some t) (d8 (M.take (j+1))):=by
       have:=zqa C.out.2.1 (k:=j+1) (by rw[zyw];omega);rw[show(d8 M).take (j+1)=d8 (M.take (j+1))from by simp[d8,W9]]at this;exact this.below (F.mono (by omega))
      obtain⟨Q,ab,G,g⟩:=zm7 w2 B l (j+1) c1 (some t) (d8 (M.take (j+1))) 3 (by simp[d8];omega) X O;have H:Below l q Q:=F.trans (G.below (K1 _));have U:Q.heap.size=l+1:=by rw[G.size,<-o,K5,e]
      have J:Hid (Blk Q b 86 #[.bool false,.slice none 0 0,.int .i64 0]):=hid (a.out.1.below H (by omega));have ak:=hid g;have ac:Hid (Below b w Q):=hid (a.out.2.1.trans (H.mono (by omega)));have s:b≠l:=by omega
      rw[o];(try rw[e]);clear o e F X O G g H U ae;go_upto_region 10 with fail;clear ab p0 q0 q1 q2 y0;have p0:∀j,Q.frozen? ⟨b,j,none⟩=false:=J.out.frozen;obtain⟨q0,q1,q2⟩:=cells3 J.out;go_wp2_with fail;have I:=((J.out.set_ 0 (.bool neg)).set_ 1 (.slice (some ⟨l,0,none⟩) (j+1) (j+1))).set_ 2 (.int .i64 (E+((M.length-(j+1):Nat):Int)));have e0:=I.cell 0;have e1:=I.cell 1;have e2:=I.cell 2;refine E0 (v:=.agg #[.bool neg,.slice (some ⟨l,0,none⟩) (j+1) (j+1),.int .i64 (E+((M.length-(j+1):Nat):Int))]) (by simp[results,results72,go_sem,e0,e1,e2]) rfl ?_;rw[HF.out];have z:(M.take (j+1)).length=j+1:=by rw[Q6];omega
      refine⟨_,rfl,⟨some ⟨l,0,none⟩,j+1,by rw[z],.inr ⟨l,rfl,z.symm,?_⟩⟩,by rw[S.out];exact((ac.out.setCell (p:=⟨b,0,none⟩) (by simp) _).setCell (p:=⟨b,1,none⟩) (by simp) _).setCell (p:=⟨b,2,none⟩) (by simp) _⟩;exact((ak.out.far s.symm _).far s.symm _).far s.symm _
theorem zqc (x:U8) (A:Option Addr) (c:Nat) (hl:x.d.length<=1073741823) (w:World):
 Calls prog 74 #[.agg #[.bool x.neg,.slice A x.d.length c,.int .i64 x.e]] w fun e w'=>e=.returned (.int .i64 (lim x:Nat))/\Below w.heap.size w w':=by
 obtain⟨neg,d,e⟩:=x;simp only at hl ⊢;have g:Below w.heap.size w (w.alloc (.cells #[.bool neg,.slice A d.length c,.int .i64 e] 86)):=(K3 _ _).alloc (K1 _) _;have b:=hid g;clear g;by_cases h1:400<d.length
 .have a:Hid (lim ⟨neg,d,e⟩=6):=hid (by unfold lim;rw[if_pos h1]);have f:(400:Int)<(d.length:Int):=by omega
  go_enter func74,ntmps74;go_wp2;go_ret;rw[a.out];exact⟨rfl,b.out⟩
 .have f:¬(400:Int)<(d.length:Int):=by omega
  by_cases h2:e< -2000
  .have a:Hid (lim ⟨neg,d,e⟩=2):=hid (by unfold lim;rw[if_neg h1,if_pos (.inl h2)]);go_enter func74,ntmps74;go_wp2;go_ret;rw[a.out];exact⟨rfl,b.out⟩
  .by_cases h3:2000<e
   .have a:Hid (lim ⟨neg,d,e⟩=2):=hid (by unfold lim;rw[if_neg h1,if_pos (.inr h3)]);go_enter func74,ntmps74;go_wp2;go_ret;rw[a.out];exact⟨rfl,b.out⟩
   .have a:Hid (lim ⟨neg,d,e⟩=0):=hid (by unfold lim;rw[if_neg h1,if_neg (fun h=>h.elim h2 h3)]);go_enter func74,ntmps74;go_wp2;go_ret;rw[a.out];exact⟨rfl,b.out⟩
def signS (neg:Bool):K4:=if neg=true then[45]else[]
theorem zty (neg:Bool) (A:Option Addr) (n c:Nat) (e:Int) (w:World):
 Calls prog 134 #[.agg #[.bool neg,.slice A n c,.int .i64 e]] w fun e' w'=>e'=.returned (.string ⟨(signS neg).toArray⟩)/\Below w.heap.size w w':=by
 have a:Below w.heap.size w (w.alloc (.cells #[.bool neg,.slice A n c,.int .i64 e] 86)):=(K3 _ _).alloc (K1 _) _;have b:=hid a;clear a;cases neg
 all_goals
  go_enter func134,ntmps134;go_wp2;go_ret;exact⟨rfl,b.out⟩
theorem zd5 (w:World) (s:List UInt8) (A:Option Addr) (c:Nat) {B:Nat} (h:RowAt byteL w B A s):(convert 80 9 (.slice A s.length c)).run prog w=.ok (.string ⟨s.toArray⟩) w:=by
 cases s with
 |nil=>
  cases A with
  |none=>exact run_convert_bytes_nil (P:=prog) w 80 5 underlying80 underlying5 0 c 9 underlying9
  |some a=>exact run_convert_bytes_back (P:=prog) w 80 9 5 a c [] underlying80 underlying5 underlying9 (fun j d=>by simp at d)
 |cons b r=>
  obtain⟨f,rfl,_,_⟩:=h.get (k:=0) (by simp);refine run_convert_bytes_back (P:=prog) w 80 9 5 f c (b::r) underlying80 underlying5 underlying9 (fun j d=>?_);obtain⟨ad',e,_,g,_⟩:=h.get d;cases e;have:=g _ rfl;simpa[byteL]using this
theorem zm9 (neg:Bool) (A:Option Addr) (d:List Nat) (c:Nat) (E:Int) (hl:d.length<=1073741823) (hd:∀v∈d,v<10) (w:World) (h:RowAt byteL w w.heap.size A (d8 d)):
 Calls prog 135 #[.agg #[.bool neg,.slice A d.length c,.int .i64 E]] w fun e' w'=>e'=.returned (.string ⟨(d.map Y6).toArray⟩)/\Below w.heap.size w w':=by
 have I:=fun W=>zcw d.length (by omega) W
 have P:=hid hd;have m:=hid h;clear hd h;go_enter func135,ntmps135;go_upto_region 2 with fail;obtain⟨y,b⟩:=ex (w.alloc (.cells #[.bool neg,.slice A d.length c,.int .i64 E] 86))
 have o:Blk y w.heap.size 86 #[.bool neg,.slice A d.length c,.int .i64 E]:=by rw[<-b];exact Q1 _ _ _
 have t:Below w.heap.size w y:=by rw[<-b];exact(K3 _ _).alloc (K1 _) _
 have e:y.heap.size=w.heap.size+1:=by rw[<-b];simp
 obtain⟨a,l⟩:=ex w.heap.size
 (try rw[b]);(try rw[l]);rw[l]at o t e m;obtain⟨u,g⟩:=ex (y.alloc (.cells (ucells (K0 d.length 0)) 5))
 have z:Blk u (a+1) 5 (ucells (K0 d.length 0)):=by rw[<-g,<-e];exact Q1 _ _ _
 have s:Below (a+1) y u:=by rw[<-g,<-e];exact(K3 _ _).alloc (K1 _) _
 have r:Hid (Blk u a 86 #[.bool neg,.slice A d.length c,.int .i64 E]/\Blk u (a+1) 5 (ucells (K0 d.length 0))/\Below a w u):=hid ⟨o.below s (by omega),z,t.trans (s.mono (by omega))⟩;have K:=hid l;(try rw[e]);(try rw[g]);clear b l o t e g z s I;have O:u.cell? ⟨a,1,none⟩=some (.slice A d.length c):=r.out.1.cell 1;go_wp2_with fail;clear O;go_loopw [13] (fun s13 wr=>∃k:Nat,k<=d.length/\s13=.int .i64 k/\Hid (Blk wr (a+1) 5 (ucells ((d.take k).map Y6++K0 (d.length-k) 0))/\Below a w wr)) (fun s13 _=>d.length-(intOf s13).toNat)
 case atStart=>exact⟨0,by omega,rfl,hid ⟨by simpa using r.out.2.1,r.out.2.2⟩⟩
 case round=>
  obtain⟨k,hk,rfl,p⟩:=hrel;by_cases hlt:k<d.length
  .have B:(k:Int)<(d.length:Int):=by omega
   obtain⟨v,G⟩:=ex (d[k])
   have F:v<10:=by rw[<-G];exact P.out _ (Q7 hlt)
   obtain⟨ad,x,_,y0⟩:=zw1 (m.out.below p.out.2) hlt G F;subst x;have pfd:∀j,wr.frozen? ⟨a+1,j,none⟩=false:=p.out.1.frozen;have f:((d.take k).map Y6).length=k:=by simp;omega
   obtain⟨L,zd⟩:∃L,wr.cell? ⟨a+1,k,none⟩=some L:=by
    rw[p.out.1.cell];refine⟨_,Y4 (i:=k) ?_⟩;simp[ucells];omega
   have C:Hid ((d.take (k+1)).map Y6=(d.take k).map Y6++[Y6 v]/\((d.take k).map Y6).length=k):=hid ⟨by
    rw[K2 hlt,W3,G];rfl,f⟩
   have hvI:(v:Int)<10:=by omega
   clear G f;go_wp2_with fail;obtain⟨q,n⟩:∃q:UInt8,q=Y6 v:=⟨_,rfl⟩
   have D:48+(v:Int)=(q.toNat:Int):=by rw[n];unfold Y6;rw[UInt8.toNat_ofNat'];omega
   rw[D];have Q:Hid (Blk (wr.setCell ⟨a+1,k,none⟩ (.int .u8 (q.toNat:Int))) (a+1) 5 (ucells ((d.take (k+1)).map Y6++K0 (d.length-(k+1)) 0))/\Below a w (wr.setCell ⟨a+1,k,none⟩ (.int .u8 (q.toNat:Int)))):=hid ⟨by
    have J:=p.out.1.set_ k (.int .u8 (q.toNat:Int));rw[zd1]at J;have N:=zlo ((d.take k).map Y6) (d.length-k) q (by omega);rw[C.out.2]at N;rw[N]at J;rw[C.out.1,<-n,show d.length-(k+1)=d.length-k-1 from by omega];exact J,p.out.2.setCell (by simp) _⟩
   clear D n;go_roundw
   case rel=>exact⟨k+1,by omega,by go_num,Q⟩
   case measure=>simp[intOf];omega
  .have B:¬(k:Int)<(d.length:Int):=by omega
   have M:RowAt byteL wr (a+2) (some ⟨a+1,0,none⟩) (d.map Y6):=by
    have:=p.out.1;rw[show k=d.length from by omega,K9,Y2,Z6,U5]at this;exact V6 this (zat _) (by omega)
   have H:=zd5 wr _ (some ⟨a+1,0,none⟩) d.length M;rw[U4]at H;clear M;go_wp2;go_ret;exact⟨rfl,by rw[K.out];exact p.out.2⟩
theorem zdq (neg:Bool):(signS neg).length<=1:=by cases neg<;>decide
theorem ztz (x:U8) (A:Option Addr) (c:Nat) (hl:x.d.length<=1073741823) (hd:∀v∈x.d,v<10) (w:World) (h:RowAt byteL w w.heap.size A (d8 x.d)):
 Calls prog 101 #[.agg #[.bool x.neg,.slice A x.d.length c,.int .i64 x.e]] w fun e' w'=>e'=.returned (.string ⟨(coef x).toArray⟩)/\Below w.heap.size w w':=by
 obtain⟨neg,d,E⟩:=x;simp only at hl hd h ⊢;have i:=hid h;have B:=hid hd;clear h hd;obtain⟨r,l⟩:=ex (coef ⟨neg,d,E⟩)
 have u:=hid l;rw[l];clear l;go_enter func101,ntmps101;go_upto_region 1 with fail;obtain⟨b,j⟩:=ex (w.alloc (.cells #[.bool neg,.slice A d.length c,.int .i64 E] 86))
 obtain⟨f,g⟩:=ex w.heap.size
 have a:Hid (Blk b f 86 #[.bool neg,.slice A d.length c,.int .i64 E]/\Below f w b/\b.heap.size=f+1):=hid (by rw[<-j,<-g];exact⟨Q1 _ _ _,(K3 _ _).alloc (K1 _) _,by simp⟩);have k:=hid g;rw[g]at i;(try rw[j]);(try rw[g]);clear j g;have z:b.cell? ⟨f,1,none⟩=some (.slice A d.length c):=a.out.1.cell 1;by_cases h0:d=[]
 .subst h0;have o:Hid (r=[48]):=hid (by rw[<-u.out];rfl);go_wp2;go_ret;rw[o.out,k.out];exact⟨rfl,a.out.2.1⟩
 .have hlp:=Q8.2 h0;have h1:¬((d.length:Int)=0):=by omega
  have h1b:((d.length:Int)==0)=false:=by simpa using h0
  have o:Hid (r=signS neg++d.map Y6):=hid (by rw[<-u.out];unfold coef;rw[if_neg h0];rfl);go_upto_region 3 with fail;clear z;have m:b.heap.size=f+1:=a.out.2.2;have t:Hid (∀W:WB b.heap.size b,Calls prog 134 #[.agg #[.bool neg,.slice A d.length c,.int .i64 E]] W.w (fun e n=>e=.returned (.string ⟨(signS neg).toArray⟩)/\Below b.heap.size b n)/\Calls prog 135 #[.agg #[.bool neg,.slice A d.length c,.int .i64 E]] W.w (fun e n=>e=.returned (.string ⟨(d.map Y6).toArray⟩)/\Below b.heap.size b n)):=hid (fun W=>⟨(zty neg A d.length c E W.w).mono (fun _ _ ⟨q,s⟩=>⟨q,W.h.trans (s.mono W.h.size)⟩),(zm9 neg A d c E hl B.out W.w (((i.out.below a.out.2.1).below (W.h.mono (by omega))).more (by have:=W.h.size;omega))).mono (fun _ _ ⟨q,s⟩=>⟨q,W.h.trans (s.mono W.h.size)⟩)⟩);have p0:∀W:WB b.heap.size b,W.w.cell? ⟨f,0,none⟩=some (.bool neg):=fun W=>(W.h.cell (p:=⟨f,0,none⟩) (by simp;omega)).trans (a.out.1.cell 0)
  have p1:∀W:WB b.heap.size b,W.w.cell? ⟨f,1,none⟩=some (.slice A d.length c):=fun W=>(W.h.cell (p:=⟨f,1,none⟩) (by simp;omega)).trans (a.out.1.cell 1)
  have p2:∀W:WB b.heap.size b,W.w.cell? ⟨f,2,none⟩=some (.int .i64 E):=fun W=>(W.h.cell (p:=⟨f,2,none⟩) (by simp;omega)).trans (a.out.1.cell 2)
  clear m;have hadd:=fun W=>zad (signS neg) (d.map Y6) (by have:=zdq neg;rw[U4];omega) W
  refine zac b.heap.size b (by kernel_rfl) (by kernel_rfl) (K3 _ _) ?_
  repeat (go_big_quiet_step ((first| (with_reducible refine X1 (t.out _).1)| (with_reducible refine X1 (t.out _).2))))
  refine wpQuiet_nil ?_;rintro _ ⟨y,rfl⟩;go_wp2;go_ret;rw[o.out,k.out];exact⟨rfl,a.out.2.1.trans (y.h.mono (by have:=a.out.2.2;omega))⟩
theorem zhm (n:Int) (h0:-9223372036854775808<=n) (h1:n<=9223372036854775807) (w:World) (hT:UT w):
 Calls prog 102 #[.int .i64 n] w fun e w'=>e=.returned (.string ⟨(X0 n).toArray⟩)/\Below w.heap.size w w':=
 (strconv_Itoa n h0 h1 w hT.pow).mono (fun _ _ ⟨e,k,os,h⟩=>⟨e,by rw[h];exact Lib.below_grow _ _ (K1 _) _ _⟩)
theorem zhn (n:Int) (h0:-9223372036854775808<=n) (h1:n<=9223372036854775807):(X0 n).length<=21:=by
 have:=zc8 n 19 (by omega);omega
theorem zqd (x:U8) (A:Option Addr) (c:Nat) (hl:x.d.length<=1073741823) (hd:∀v∈x.d,v<10) (h0:-9223372036854775808<=x.e) (h1:x.e<=9223372036854775807) (w:World) (hT:UT w) (h:RowAt byteL w w.heap.size A (d8 x.d)):
 Calls prog 75 #[.agg #[.bool x.neg,.slice A x.d.length c,.int .i64 x.e]] w fun e' w'=>e'=.returned (.string ⟨(Gr.text x).toArray⟩)/\Below w.heap.size w w':=by
 have l:=hid (fun(W:World) (hW:RowAt byteL W W.heap.size A (d8 x.d))=>ztz x A c hl hd W hW);have B:(coef x).length<=1073741825:=by
  unfold coef;split
  .simp
  .have:=zdq x.neg;unfold signS at this;rw[Q2,U4];omega
 have m:=zhn x.e h0 h1;obtain⟨r,o⟩:=ex (coef x)
 obtain⟨J,k⟩:=ex (Gr.text x)
 have s:Hid (J=r++101::X0 x.e):=hid (by rw[<-k,<-o];rfl);rw[o]at l B;rw[k];clear o k;obtain⟨neg,d,E⟩:=x;simp only at hl h0 h1 h l m s ⊢;obtain⟨t,H⟩:=ex (X0 E)
 have n:=hid (fun(W:World) (hW:UT W)=>zhm E h0 h1 W hW);rw[H]at m s n;clear H;have j:=hid h;have D:=hid hT;clear h hd hT;go_enter func75,ntmps75;go_upto_region 1 with fail;obtain⟨a,i⟩:=ex (w.alloc (.cells #[.bool neg,.slice A d.length c,.int .i64 E] 86))
 obtain⟨g,f⟩:=ex w.heap.size
 have b:Hid (Blk a g 86 #[.bool neg,.slice A d.length c,.int .i64 E]/\Below g w a/\a.heap.size=g+1):=hid (by rw[<-i,<-f];exact⟨Q1 _ _ _,(K3 _ _).alloc (K1 _) _,by simp⟩);have y:Hid (UT a):=hid (UT.stays _ _ D.out (by rw[<-i];exact(K3 _ _).alloc (K1 _) _));have C:=hid f;rw[f]at j;(try rw[i]);(try rw[f]);clear i f;have z:a.heap.size=g+1:=b.out.2.2;have G:Hid (∀W:WB a.heap.size a,Calls prog 101 #[.agg #[.bool neg,.slice A d.length c,.int .i64 E]] W.w (fun e q=>e=.returned (.string ⟨r.toArray⟩)/\Below a.heap.size a q)/\Calls prog 102 #[.int .i64 E] W.w (fun e q=>e=.returned (.string ⟨t.toArray⟩)/\Below a.heap.size a q)):=hid (fun W=>⟨(l.out W.w (((j.out.below b.out.2.1).below (W.h.mono (by omega))).more (by have:=W.h.size;omega))).mono (fun _ _ ⟨u,F⟩=>⟨u,W.h.trans (F.mono W.h.size)⟩),(n.out W.w (UT.stays _ _ y.out W.h)).mono (fun _ _ ⟨u,F⟩=>⟨u,W.h.trans (F.mono W.h.size)⟩)⟩);have p0:∀W:WB a.heap.size a,W.w.cell? ⟨g,0,none⟩=some (.bool neg):=fun W=>(W.h.cell (p:=⟨g,0,none⟩) (by simp;omega)).trans (b.out.1.cell 0)
 have p1:∀W:WB a.heap.size a,W.w.cell? ⟨g,1,none⟩=some (.slice A d.length c):=fun W=>(W.h.cell (p:=⟨g,1,none⟩) (by simp;omega)).trans (b.out.1.cell 1)
 have p2:∀W:WB a.heap.size a,W.w.cell? ⟨g,2,none⟩=some (.int .i64 E):=fun W=>(W.h.cell (p:=⟨g,2,none⟩) (by simp;omega)).trans (b.out.1.cell 2)
 have hadd:=fun W=>zad r [101] (by simp;omega) W
 have hadd2:=fun W=>zad (r++[101]) t (by simp;omega) W
 clear z;refine zac a.heap.size a (by kernel_rfl) (by kernel_rfl) (K3 _ _) ?_
 repeat (go_big_quiet_step ((first| (with_reducible refine X1 (G.out _).1)| (with_reducible refine X1 (G.out _).2))))
 refine wpQuiet_nil ?_;rintro _ ⟨I,rfl⟩;go_wp2;go_ret;rw[s.out,C.out];exact⟨rfl,b.out.2.1.trans (I.h.mono (by have:=b.out.2.2;omega))⟩
def rdg (s:K4) (k:Nat):K4:=(s.drop k).takeWhile Q3
def zkt (s:K4) (k:Nat) (w:World) (e:Ending) (w':World):Prop:=∃A c,e=.returned (.tuple #[.slice A (rdg s k).length c,.int .i64 ((k+(rdg s k).length:Nat):Int)])/\OwnRow intL w' w.heap.size 3 (.slice A (rdg s k).length c) (vals (rdg s k))/\Below w.heap.size w w'
theorem zbg (s:K4):(vals s).length=s.length:=by simp[vals]
theorem zri (s:K4) (k m:Nat) (h:((s.drop k).take m).all Q3=true) (hm:k+m<=s.length) (hn:∀h2:k+m<s.length,Q3 (s[k+m]'h2)=false):rdg s k=(s.drop k).take m:=by
 unfold rdg;have a:s.drop k=(s.drop k).take m++s.drop (k+m):=by
  rw[<-W7];exact(Z0 m (s.drop k)).symm
 rw[a,List.takeWhile_append_of_pos (by simpa using h)];have h2:(s.drop (k+m)).takeWhile Q3=[]:=by
  rcases Nat.lt_or_ge (k+m) s.length with h3|h3
  .rw[Y5 h3,List.takeWhile_cons,hn h3];rfl
  .rw[List.drop_eq_nil_of_le h3];rfl
 rw[h2,U5,List.take_append_of_le_length (by simp;omega),List.take_take,D6]
theorem zku {s:K4} {k m c:Nat} {A:Option Addr} {w w':World} (h:rdg s k=(s.drop k).take m) (_:0<=m) (hm:k+m<=s.length) (ho:OwnRow intL w' w.heap.size 3 (.slice A m c) (vals ((s.drop k).take m))) (hb:Below w.heap.size w w'):
 zkt s k w (.returned (.tuple #[.slice A m c,.int .i64 ((k+m:Nat):Int)])) w':=by
 have a:(rdg s k).length=m:=by rw[h];simp;omega
 unfold zkt;rw[a,h];exact⟨A,c,rfl,ho,hb⟩
theorem zdg (s:K4) (hl:s.length<=1073741823) (k:Nat) (hk:k<=s.length) (w:World):
 Calls prog 151 #[.string ⟨s.toArray⟩,.int .i64 (k:Int)] w (zkt s k w):=by
 go_enter func151,ntmps151;go_wp2_with fail;go_loopw [1,6] (fun s1 s6 wr=>∃(m:Nat) (A:Option Addr) (c:Nat),k+m<=s.length/\s1=.int .i64 ((k+m:Nat):Int)/\s6=.slice A m c/\Hid (((s.drop k).take m).all Q3=true/\OwnRow intL wr w.heap.size 3 (.slice A m c) (vals ((s.drop k).take m))/\Below w.heap.size w wr)) (fun s1 _ _=>s.length-(intOf s1).toNat)
 case atStart=>exact⟨0,none,0,by omega,rfl,rfl,hid ⟨by simp,D3,K3 _ _⟩⟩
 case round=>
  obtain⟨m,A,c,l,rfl,rfl,a⟩:=hrel;have g:(vals ((s.drop k).take m)).length=m:=by simp[vals];omega
  have o:=hid g;have h:Hid (w.heap.size<=wr.heap.size):=hid a.out.2.2.size;clear g;by_cases hlt:k+m<s.length
  .have n:((k+m:Nat):Int)<(s.length:Int):=by omega
   obtain⟨b,t⟩:∃b:Nat,(s[k+m]'(by omega)).toNat=b:=⟨_,rfl⟩
   have hbv:(((⟨s.toArray⟩:ByteArray)[k+m]'(by simpa[ByteArray.size]using hlt)).toNat:Int)=(b:Int):=by rw[<-t];rfl
   have hbl:b<256:=by rw[<-t];exact(s[k+m]'hlt).toNat_lt
   have i:Hid (Q3 (s[k+m]'hlt)=(decide (48<=b) && decide (b<=57))/\Gr.dv (s[k+m]'hlt)=b-48):=hid ⟨by
    rw[X5,zbl,t];simp,by unfold Gr.dv;rw[t]⟩
   clear t;by_cases hd:48<=b/\b<=57
   .obtain⟨f,z⟩:=hd;have p:(48:Int)<=(b:Int):=by omega
    have B:(b:Int)<=57:=by omega
    have q:Hid ((s.drop k).take (m+1)=(s.drop k).take m++[s[k+m]'hlt]):=hid (by
     rw[K2 (by simp;omega),List.getElem_drop])
    go_upto_region 3 with fail;obtain⟨x,I⟩:∃x:Nat,b-48=x:=⟨_,rfl⟩
    have D:(b:Int)-48=(x:Int):=by omega
    have J:=hid I;clear I;go_wp2_with (at_builtin;go_must (refine zab _ rfl (.tmp 23) (.tmp 29) 35 3 8 rfl intT w.heap.size (.slice A m c) (vals ((s.drop k).take m)) rfl (a.out.2.1.alloc _) _ _ 1 [x] rfl (U6 _ _ (by first|rfl| (rw[D];rfl)) _ ?_) ?_ ?_ ?_))
    any_goals (first|rfl| (have:=o.out;simp;omega)| (rw[K5];have:=h.out;omega))
    intro v' v e H y;have r:Below w.heap.size w v:=(a.out.2.2.alloc h.out _).trans ((a.out.2.1.alloc _).grown_below H (by rw[K5];have:=h.out;omega));obtain⟨E,G,j,_⟩:=e.form;have d:(vals ((s.drop k).take m)++[x]).length=m+1:=by rw[Q2,o.out];rfl
    rw[d]at j;subst j;have C:Hid (((s.drop k).take (m+1)).all Q3=true/\OwnRow intL v w.heap.size 3 (.slice E (m+1) G) (vals ((s.drop k).take (m+1)))/\Below w.heap.size w v):=hid ⟨by
     rw[q.out,X4,a.out.1];simp[i.out.1,f,z],by
     rw[q.out,show vals ((s.drop k).take m++[s[k+m]'hlt])=vals ((s.drop k).take m)++[x]from by simp[vals,i.out.2,J.out]];exact e,r⟩
    clear e H y r d;go_wp2;go_roundw
    case rel=>exact⟨m+1,E,G,by omega,by go_num,rfl,C⟩
    case measure=>simp[intOf];omega
   .have u:Hid (rdg s k=(s.drop k).take m):=hid (zri s k m a.out.1 l (fun F=>by rw[i.out.1];by_cases f:48<=b<;>simp[f]<;>omega));by_cases f:48<=b
    .have p:(48:Int)<=(b:Int):=by omega
     have B:¬(b:Int)<=57:=by omega
     go_wp2;go_ret2;exact zku u.out (by omega) l a.out.2.1 a.out.2.2
    .have p:¬(48:Int)<=(b:Int):=by omega
     go_wp2;go_ret2;exact zku u.out (by omega) l a.out.2.1 a.out.2.2
  .have n:¬((k+m:Nat):Int)<(s.length:Int):=by omega
   have u:Hid (rdg s k=(s.drop k).take m):=hid (zri s k m a.out.1 l (fun F=>absurd F hlt));go_wp2;go_ret2;exact zku u.out (by omega) l a.out.2.1 a.out.2.2
theorem zdh (n:Nat) (hn:n<=4611686018427387904) (w:World):Calls prog 154 #[.int .i64 (n:Int)] w fun e w'=>e=.returned (.string ⟨(K6 n).toArray⟩)/\Below w.heap.size w w':=by
 induction n using Nat.strongRecOn generalizing w with
 |_ n ih=>
  have h0:¬(n:Int)<0:=by omega
  by_cases h9:9<n
  .have s:(9:Int)<(n:Int):=by omega
   have f:=hid (fun W=>ih (n /10) (by omega) (by omega) W);have l:=hid (fun W=>ih (n%10) (by omega) (by omega) W);have C:=hid (zay (u:=n) (by omega));have A:((n:Int) /10)=((n /10:Nat):Int):=by omega
   have z:((n:Int)%10)=((n%10:Nat):Int):=by omega
   have t:(K6 (n /10)).length<=20:=by rw[X6];exact zbr 19 _ (by omega)
   have x:(K6 (n%10)).length<=20:=by rw[X6];exact zbr 19 _ (by omega)
   have k:=fun W=>zad (K6 (n /10)) (K6 (n%10)) (by omega) W
   have y:K6 n=K6 (n /10)++K6 (n%10):=by rw[C.out,W2 (i:=n%10) (by omega)]
   obtain⟨E,a⟩:=ex (K6 (n /10))
   obtain⟨D,b⟩:=ex (K6 (n%10))
   have r:Hid (K6 n=E++D):=hid (by rw[y,a,b]);rw[a,b]at k;rw[a,<-A]at f;rw[b,<-z]at l;have HN:=hid hn;have hnI:(n:Int)<=4611686018427387904:=by omega
   clear ih A z t x y a b C hn;go_enter func154,ntmps154;go_wp2_with fail;refine(f.out _).mono ?_;rintro e w1 ⟨rfl,j⟩;have m:=hid j;clear j;go_wp2_with fail;refine(l.out _).mono ?_;rintro e w2 ⟨rfl,o⟩;have v:=hid (m.out.trans (o.mono m.out.size));clear o;go_wp2;go_ret;rw[r.out];exact⟨rfl,v.out⟩
  .have s:¬(9:Int)<(n:Int):=by omega
   obtain⟨c,q⟩:∃c:UInt8,c=UInt8.ofNat (48+n):=⟨_,rfl⟩
   have h:(48:Int)+(n:Int)=(c.toNat:Int):=by rw[q,UInt8.toNat_ofNat'];omega
   have r:Hid (K6 n=[c]):=hid (by rw[q];exact W2 (by omega));have g:=fun W=>zd5 (B:=w.heap.size+1) W [c] (some ⟨w.heap.size,0,none⟩) 1
   have p:=hid g;have hn9:(n:Int)<=9:=by omega
   have hn0:(0:Int)<=(n:Int):=by omega
   clear ih q g hn;go_enter func154,ntmps154;go_upto_region 5 with fail;have d:(convert 80 9 (.slice (some ⟨w.heap.size,0,none⟩) 1 1)).run prog (w.alloc (.cells #[.int .u8 (c.toNat:Int)] 5))=.ok (.string ⟨[c].toArray⟩) (w.alloc (.cells #[.int .u8 (c.toNat:Int)] 5)):=p.out (w.alloc (.cells #[.int .u8 (c.toNat:Int)] 5)) (U6 c _ rfl _ rfl);rw[<-h]at d;clear h;go_wp2;go_ret;rw[r.out];exact⟨rfl,(K3 _ _).alloc (K1 _) _⟩
theorem zkv (n:Int) (h0:-4611686018427387904<=n) (h1:n<=4611686018427387904) (w:World):Calls prog 154 #[.int .i64 n] w fun e w'=>e=.returned (.string ⟨(X0 n).toArray⟩)/\Below w.heap.size w w':=by
 by_cases hn:n<0
 .have d:=hid (fun W=>zdh n.natAbs (by omega) W);rw[show(n.natAbs:Int)=-n from by omega]at d;have c:(K6 n.natAbs).length<=20:=by rw[X6];exact zbr 19 _ (by omega)
  have hadd:=fun W=>zad [45] (K6 n.natAbs) (by simp;omega) W
  have f:Hid (X0 n=[45]++K6 n.natAbs):=hid (by unfold X0;rw[if_pos hn];rfl);clear c;go_enter func154,ntmps154;go_wp2_with fail;refine(d.out _).mono ?_;rintro e w1 ⟨rfl,a⟩;have b:=hid a;clear a;go_wp2;go_ret;rw[f.out];exact⟨rfl,b.out⟩
 .have:=zdh n.toNat (by omega) w;rw[show(n.toNat:Int)=n from by omega]at this;unfold X0;rw[if_neg hn];exact this
def zlv (s:K4) (a n ab:Nat) (w:World) (e:Ending) (w':World):Prop:=Kept1 ab w w'/\((∃v:Nat,numAt s a n=some v/\e=.returned (.tuple #[.int .i64 (v:Int),.bool true])/\Blk w' ab 3 #[.int .i64 ((a+n:Nat):Int)])\/(numAt s a n=none/\e=.returned (.tuple #[.int .i64 0,.bool false])/\∃a':Nat,a'<=s.length/\Blk w' ab 3 #[.int .i64 (a':Int)]))
theorem zub (s:K4) (hl:s.length<=1073741823) (ab sb a n:Nat) (j:Int) (hj:j=(n:Int)) (hn:n<=9) (ha:a<=s.length) (w:World) (hA:Blk w ab 3 #[.int .i64 (a:Int)]) (hS:Blk w sb 9 #[.string ⟨s.toArray⟩]):
 Calls prog 86 #[.int .i64 j,.pointer (some ⟨ab,0,none⟩),.pointer (some ⟨sb,0,none⟩)] w (zlv s a n ab w):=by
 subst hj;have r:sb≠ab:=by
  intro e;subst e;have:=hA.symm.trans hS;simp at this
 have u:=hid hA;have t:=hid hS;clear hA hS;go_enter func86,ntmps86;go_wp2_with fail;go_loopw [6,8] (fun s6 s8 wr=>∃k v:Nat,k<=n/\v<=999999999/\a+k<=s.length/\s6=.int .i64 (v:Int)/\s8=.int .i64 (k:Int)/\Hid (((s.drop a).take k).all Q3=true/\v=D4 ((s.drop a).take k)/\Blk wr ab 3 #[.int .i64 ((a+k:Nat):Int)]/\Kept1 ab w wr)) (fun _ s8 _=>n-(intOf s8).toNat)
 case atStart=>exact⟨0,0,by omega,by omega,by omega,rfl,rfl,hid ⟨by simp,by simp[D4],u.out,D9 _ _⟩⟩
 case round=>
  obtain⟨k,v,hk,hv,hak,rfl,rfl,c⟩:=hrel;have qA:wr.cell? ⟨ab,0,none⟩=some (.int .i64 ((a+k:Nat):Int)):=c.out.2.2.1.cell 0;have qF:∀j,wr.frozen? ⟨ab,j,none⟩=false:=c.out.2.2.1.frozen;have qS:wr.cell? ⟨sb,0,none⟩=some (.string ⟨s.toArray⟩):=(c.out.2.2.2.blk t.out r).cell 0;by_cases hlt:k<n
  .have i:(k:Int)<(n:Int):=by omega
   by_cases hltS:a+k<s.length
   .have m:¬(s.length:Int)<=((a+k:Nat):Int):=by omega
    obtain⟨b,l⟩:∃b:Nat,(s[a+k]'hltS).toNat=b:=⟨_,rfl⟩
    have hbv:(((⟨s.toArray⟩:ByteArray)[a+k]'(by simpa[ByteArray.size]using hltS)).toNat:Int)=(b:Int):=by rw[<-l];rfl
    have hbl:b<256:=by rw[<-l];exact(s[a+k]'hltS).toNat_lt
    have f:=hid (zd6 (s[a+k]'hltS) b l);clear l;by_cases h48:48<=b
    .have q:¬(b:Int)<48:=by omega
     have b48:(48:Int)<=(b:Int):=by omega
     by_cases h57:b<=57
     .have p:¬(57:Int)<(b:Int):=by omega
      have x:=hid (zcn s a k hltS);have d:Hid (((s.drop a).take (k+1)).all Q3=true/\10*v+(b-48)=D4 ((s.drop a).take (k+1))):=hid (by
       rw[x.out,X4,c.out.1,zbp,<-c.out.2.1,f.out.2];exact⟨by simp[f.out.1,h48,h57],rfl⟩)
      have o:10*v+(b-48)<=999999999:=by
       rw[d.out.2];have:=zlu _ d.out.1 (by simp;omega);omega
      have h:Hid (Blk (wr.setCell ⟨ab,0,none⟩ (.int .i64 (((a+k:Nat):Int)+1))) ab 3 #[.int .i64 ((a+(k+1):Nat):Int)]/\Kept1 ab w (wr.setCell ⟨ab,0,none⟩ (.int .i64 (((a+k:Nat):Int)+1)))):=hid ⟨by rw[show((a+(k+1):Nat):Int)=((a+k:Nat):Int)+1 from by omega];exact c.out.2.2.1.set_ 0 _,c.out.2.2.2.trans (V1 0 _)⟩;go_wp2;go_roundw
      case rel=>exact⟨k+1,10*v+(b-48),by omega,o,by omega,by exact congrArg (Value.int .i64) (by omega),by go_num,hid ⟨d.out.1,d.out.2,h.out.1,h.out.2⟩⟩
      case measure=>simp[intOf];omega
     .have p:(57:Int)<(b:Int):=by omega
      have g:=hid (zdr s a n k hlt hltS (by rw[f.out.1];simp[h57]));go_wp2;go_ret2;exact⟨c.out.2.2.2,.inr ⟨g.out,rfl,a+k,by omega,c.out.2.2.1⟩⟩
    .have q:(b:Int)<48:=by omega
     have g:=hid (zdr s a n k hlt hltS (by rw[f.out.1];simp[h48]));go_wp2;go_ret2;exact⟨c.out.2.2.2,.inr ⟨g.out,rfl,a+k,by omega,c.out.2.2.1⟩⟩
   .have m:(s.length:Int)<=((a+k:Nat):Int):=by omega
    have g:=hid (zdd s a n (by omega));go_wp2;go_ret2;exact⟨c.out.2.2.2,.inr ⟨g.out,rfl,a+k,by omega,c.out.2.2.1⟩⟩
  .obtain rfl:k=n:=by omega
   have i:¬(k:Int)<(k:Int):=by omega
   have g:Hid (numAt s a k=some v):=hid (by rw[zjd s a k (by omega) c.out.1,c.out.2.1]);clear hlt;go_wp2;go_ret2;exact⟨c.out.2.2.2,.inl ⟨v,g.out,rfl,c.out.2.2.1⟩⟩
def posAt (a first i:Nat):Nat:=if i=0 then a else a+first+3*(i-1)
def fldAt (s:K4) (a first:Nat) (c:Nat) (i:Nat):Option Nat:=if i=0 then numAt s a first else if isAt s (posAt a first i) (UInt8.ofNat c)=true then numAt s (posAt a first i+1) 2 else none
def mC (sh:Nat) (f:Nat->Nat) (nn z:Nat):Array Value:=#[.int .i64 (sh:Int),.int .i64 (f 0:Int),.int .i64 (f 1:Int),.int .i64 (f 2:Int),.int .i64 (f 3:Int),.int .i64 (f 4:Int),.int .i64 (f 5:Int),.int .i64 (f 6:Int),.int .i64 (f 7:Int),.int .i64 (nn:Int),.int .u8 (z:Int)]
def fset (f:Nat->Nat) (i v:Nat):Nat->Nat:=fun j=>if j=i then v else f j
theorem zza {sh nn z:Nat} {f:Nat->Nat} {i:Nat} (h:i<8) (v:Nat):(mC sh f nn z).setIfInBounds (1+i) (.int .i64 (v:Int))=mC sh (fset f i v) nn z:=by
 have:i=0\/i=1\/i=2\/i=3\/i=4\/i=5\/i=6\/i=7:=by omega
 rcases this with rfl|rfl|rfl|rfl|rfl|rfl|rfl|rfl<;>rfl
theorem zvt {sh nn z:Nat} {f:Nat->Nat} {i:Nat} (h:i<8):(mC sh f nn z)[1+i]? =some (.int .i64 (f i:Int)):=by
 have:i=0\/i=1\/i=2\/i=3\/i=4\/i=5\/i=6\/i=7:=by omega
 rcases this with rfl|rfl|rfl|rfl|rfl|rfl|rfl|rfl<;>rfl
theorem zqv {a first i:Nat} (h:0<i):posAt a first (i+1)=posAt a first i+1+2:=by
 unfold posAt;rw[if_neg (by omega),if_neg (by omega)];omega
theorem zqw {a first:Nat}:posAt a first 1=a+first:=by simp[posAt]
theorem zw9 {s:K4} {p c b:Nat} (hp:p<s.length) (hb:(s[p]'hp).toNat=b) (hc:c<256) (h:b≠c):isAt s p (UInt8.ofNat c)=false:=by
 unfold isAt;rw[Q0 hp];simp;intro e;apply h;rw[<-hb,e];simp;omega
theorem zlw {s:K4} {p c b:Nat} (hp:p<s.length) (hb:(s[p]'hp).toNat=b) (h:b=c):isAt s p (UInt8.ofNat c)=true:=by
 unfold isAt;rw[Q0 hp];subst h;rw[<-hb];simp
theorem zhs {s:K4} {p:Nat} {c:UInt8} (hp:s.length<=p):isAt s p c=false:=by
 unfold isAt;rw[List.getElem?_eq_none hp];rfl
def KM (mb ab:Nat) (w w':World):Prop:=zbc w w' (fun k=>k=mb\/k=ab)
theorem KM.refl (mb ab:Nat) (w:World):KM mb ab w w:=⟨rfl,rfl,rfl,K1 _,fun _ _ _=>rfl⟩
theorem KM.trans {mb ab:Nat} {a b c:World} (h:KM mb ab a b) (h2:KM mb ab b c):KM mb ab a c:=
 ⟨h2.os.trans h.os,h2.tape.trans h.tape,h2.output.trans h.output,X3 h.size h2.size,fun k e d=>(h2.block k (U0 e h.size) d).trans (h.block k e d)⟩
theorem KM.ofA {mb ab:Nat} {a b:World} (h:Kept1 ab a b):KM mb ab a b:=⟨h.os,h.tape,h.output,D7 h.size.symm,fun k _ c=>h.block k (fun e=>c (.inr e))⟩
theorem KM.ofM {mb ab:Nat} {a b:World} (h:Kept1 mb a b):KM mb ab a b:=⟨h.os,h.tape,h.output,D7 h.size.symm,fun k _ c=>h.block k (fun e=>c (.inl e))⟩
theorem KM.blk {mb ab k:Nat} {a b:World} {t:TypeId} {cs:Array Value} (h:KM mb ab a b) (hb:Blk a k t cs) (h1:k≠mb) (h2:k≠ab):Blk b k t cs:=(h.block k hb.lt (by rintro(e|e);exact h1 e;exact h2 e)).trans hb
def FldPost (s:K4) (a first c o n mb ab sh:Nat) (f:Nat->Nat) (nn z:Nat) (w:World) (e:Ending) (w':World):Prop:=
 KM mb ab w w'/\∃f':Nat->Nat,Blk w' mb 96 (mC sh f' nn z)/\((e=.returned (.bool true)/\(∀j,j<n->fldAt s a first c j=some (f' (o+j)))/\(∀j,j<o\/o+n<=j->f' j=f j)/\Blk w' ab 3 #[.int .i64 (posAt a first n:Int)]/\posAt a first n<=s.length)\/(e=.returned (.bool false)/\(∃j,j<n/\fldAt s a first c j=none)/\∃p:Nat,p<=s.length/\Blk w' ab 3 #[.int .i64 (p:Int)]))
theorem zd7 (s:K4) (hl:s.length<=1073741823) (ab sb fb mb a first c o n k:Nat) (sh:Nat) (f:Nat->Nat) (nn z:Nat) (j jc:Int) (hj:j=(first:Int)) (hjc:jc=(c:Int)) (hc:c<256) (hfirst:first<=9) (hn:n<=3) (hnk:n<=k) (hk:k<=8) (ho:o+n<=8) (O:Nat) (hO:O=1+o) (ha:a<=s.length) (w:World) (hA:Blk w ab 3 #[.int .i64 (a:Int)]) (hS:Blk w sb 9 #[.string ⟨s.toArray⟩]) (hF:Blk w fb 126 #[.func (.func 86) #[] #[.pointer (some ⟨ab,0,none⟩),.pointer (some ⟨sb,0,none⟩)]]) (hM:Blk w mb 96 (mC sh f nn z)):
 Calls prog 87 #[.slice (some ⟨mb,O,none⟩) n k,.int .i64 j,.int .u8 jc,.pointer (some ⟨ab,0,none⟩),.pointer (some ⟨sb,0,none⟩),.pointer (some ⟨fb,0,none⟩)] w (FldPost s a first c o n mb ab sh f nn z w):=by
 subst hj;subst hjc;subst hO;have aa:sb≠ab:=hS.ne_ hA (by decide);have T:sb≠mb:=hS.ne_ hM (by decide);have S:fb≠ab:=hF.ne_ hA (by decide);have ad:fb≠mb:=hF.ne_ hM (by decide);have X:mb≠ab:=hM.ne_ hA (by decide);have HA:=hid hA;have HS:=hid hS;have ac:=hid hF;have HM:=hid hM;have d:=hid (show(sb≠ab/\sb≠mb)/\(fb≠ab/\fb≠mb)/\mb≠ab from⟨⟨aa,T⟩,⟨S,ad⟩,X⟩);clear hA hS hF hM aa T S ad X;have M:Hid (∀(W:World) (p q:Nat),q<=9->p<=s.length->Blk W ab 3 #[.int .i64 (p:Int)]->Blk W sb 9 #[.string ⟨s.toArray⟩]->Calls prog 86 #[.int .i64 (q:Int),.pointer (some ⟨ab,0,none⟩),.pointer (some ⟨sb,0,none⟩)] W (zlv s p q ab W)):=hid (fun W p q hq V h1 h2=>zub s hl ab sb p q _ rfl hq V W h1 h2);go_enter func87,ntmps87;go_wp2_with fail;go_loopw [10,11,12,13,16] (fun s10 s11 s12 s13 s16 wr=>∃i:Nat,i<=n/\s16=.int .i64 (i:Int)/\Hid (∃f':Nat->Nat,KM mb ab w wr/\Blk wr mb 96 (mC sh f' nn z)/\(∀j,j<i->fldAt s a first c j=some (f' (o+j)))/\(∀j,j<o\/o+n<=j->f' j=f j)/\Blk wr ab 3 #[.int .i64 (posAt a first i:Int)]/\posAt a first i<=s.length)) (fun _ _ _ _ s16 _=>n-(intOf s16).toNat)
 case atStart=>exact⟨0,by omega,rfl,hid ⟨f,KM.refl _ _ _,HM.out,fun j hj=>absurd hj (by omega),fun _ _=>rfl,by simpa[posAt]using HA.out,by simpa[posAt]using ha⟩⟩
 case round=>
  obtain⟨i,hi,rfl,HV⟩:=hrel;obtain⟨f',C,Q,L,R,D,u⟩:=HV.out;obtain⟨p,V⟩:=ex (posAt a first i)
  rw[V]at D u;have qS:wr.cell? ⟨sb,0,none⟩=some (.string ⟨s.toArray⟩):=(C.blk HS.out d.out.1.2 d.out.1.1).cell 0;have qA:wr.cell? ⟨ab,0,none⟩=some (.int .i64 (p:Int)):=D.cell 0;have qAF:∀j,wr.frozen? ⟨ab,j,none⟩=false:=D.frozen;have qF:wr.cell? ⟨fb,0,none⟩=some (.func (.func 86) #[] #[.pointer (some ⟨ab,0,none⟩),.pointer (some ⟨sb,0,none⟩)]):=(C.blk ac.out d.out.2.1.2 d.out.2.1.1).cell 0;have qF1:∀v,(wr.setCell ⟨ab,0,none⟩ v).cell? ⟨fb,0,none⟩=some (.func (.func 86) #[] #[.pointer (some ⟨ab,0,none⟩),.pointer (some ⟨sb,0,none⟩)]):=fun v=>((C.blk ac.out d.out.2.1.2 d.out.2.1.1).far d.out.2.1.1 v).cell 0
  have G:=hid V;have m:Hid (KM mb ab w wr/\Blk wr mb 96 (mC sh f' nn z)/\(∀j,j<i->fldAt s a first c j=some (f' (o+j)))/\(∀j,j<o\/o+n<=j->f' j=f j)/\Blk wr ab 3 #[.int .i64 (p:Int)]/\Blk wr sb 9 #[.string ⟨s.toArray⟩]):=hid ⟨C,Q,L,R,D,C.blk HS.out d.out.1.2 d.out.1.1⟩;clear C Q L R D V HV;have t:Hid (∀(W:World) (q:Nat) (x:Option Nat),q<=s.length->x=none->fldAt s a first c i=x->i<n->KM mb ab wr W->Blk W mb 96 (mC sh f' nn z)->Blk W ab 3 #[.int .i64 (q:Int)]->FldPost s a first c o n mb ab sh f nn z w (.returned (.bool false)) W):=hid (fun W q x hq hx ag P H K I=>⟨m.out.1.trans H,f',K,.inr ⟨rfl,⟨i,P,ag.trans hx⟩,q,hq,I⟩⟩);have Z:Hid (∀(W:World) (v:Nat),fldAt s a first c i=some v->KM mb ab wr W->Blk W mb 96 (mC sh f' nn z)->Blk W ab 3 #[.int .i64 (posAt a first (i+1):Int)]->i<n->posAt a first (i+1)<=s.length->∃i':Nat,i'<=n/\Value.int .i64 ((i:Int)+1)=.int .i64 (i':Int)/\Hid (∃f'':Nat->Nat,KM mb ab w (W.setCell ⟨mb,1+o+i,none⟩ (.int .i64 (v:Int)))/\Blk (W.setCell ⟨mb,1+o+i,none⟩ (.int .i64 (v:Int))) mb 96 (mC sh f'' nn z)/\(∀j,j<i'->fldAt s a first c j=some (f'' (o+j)))/\(∀j,j<o\/o+n<=j->f'' j=f j)/\Blk (W.setCell ⟨mb,1+o+i,none⟩ (.int .i64 (v:Int))) ab 3 #[.int .i64 (posAt a first i':Int)]/\posAt a first i'<=s.length)):=hid (fun W v A H K I P u=>by
   refine⟨i+1,by omega,rfl,hid ⟨fset f' (o+i) v,m.out.1.trans (H.trans (KM.ofM (V1 _ _))),?_,?_,?_,?_,u⟩⟩
   .have:=K.set_ (1+o+i) (.int .i64 (v:Int));rw[show 1+o+i=1+(o+i)from by omega]at this ⊢;rwa[zza (by omega)]at this
   .intro j hj;by_cases e:j=i
    .subst e;rw[A];simp[fset]
    .rw[m.out.2.2.1 j (by omega)];simp[fset,e]
   .intro j hj;rw[<-m.out.2.2.2.1 j hj];unfold fset;rw[if_neg (by omega)]
   .exact I.far d.out.2.2.symm _)
  by_cases hlt:i<n
  .have Y:(i:Int)<(n:Int):=by omega
   by_cases h0:i=0
   .have ah:(i:Int)=0:=by omega
    have ae:¬(0:Int)<(i:Int):=by omega
    subst h0;go_wp2_with fail;refine(M.out _ p first hfirst u m.out.2.2.2.2.1 m.out.2.2.2.2.2).mono ?_;rintro e B ⟨h,⟨v,A,rfl,l⟩|⟨A,rfl,p2,hp2,l⟩⟩
    .have r:=h.blk m.out.2.1 d.out.2.2;have qm:B.cell? ⟨mb,1+o,none⟩=some (.int .i64 (f' o:Int)):=by rw[r.cell];exact zvt (i:=o) (by omega)
     have af:∀j,B.frozen? ⟨mb,j,none⟩=false:=r.frozen;have E:Hid (fldAt s a first c 0=some v/\Blk B ab 3 #[.int .i64 (posAt a first 1:Int)]/\posAt a first 1<=s.length):=hid (by
      have J:p=a:=by rw[<-G.out];rfl
      subst J;rw[zqw];exact⟨by simpa[fldAt]using A,l,(zcz A (by omega)).2.2⟩)
     have F:=hid (And.intro h r);clear h A l r;go_wp2;go_roundw
     case rel=>
      obtain⟨i',g1,g2,g3⟩:=Z.out B v E.out.1 (KM.ofA F.out.1) F.out.2 E.out.2.1 hlt E.out.2.2;exact⟨i',g1,by simpa using g2,g3⟩
     case measure=>simp[intOf];omega
    .have E:Hid (FldPost s a first c o n mb ab sh f nn z w (.returned (.bool false)) B):=hid (t.out B p2 _ hp2 rfl (by
      have J:p=a:=by rw[<-G.out];rfl
      subst J;simpa[fldAt]using A) hlt (KM.ofA h) (h.blk m.out.2.1 d.out.2.2) l)
     clear h A l;go_wp2;go_ret;exact E.out
   .have ah:¬(i:Int)=0:=by omega
    have ae:(0:Int)<(i:Int):=by omega
    by_cases hps:p<s.length
    .have U:¬(s.length:Int)<=(p:Int):=by omega
     obtain⟨b,hb⟩:∃b:Nat,(s[p]'hps).toNat=b:=⟨_,rfl⟩
     have hbv:(((⟨s.toArray⟩:ByteArray)[p]'(by simpa[ByteArray.size]using hps)).toNat:Int)=(b:Int):=by rw[<-hb];rfl
     have hbl:b<256:=by rw[<-hb];exact(s[p]'hps).toNat_lt
     have HB:=hid hb;clear hb;by_cases hbc:b=c
     .have N:(b:Int)=(c:Int):=by omega
      go_wp2_with fail;refine(M.out _ (p+1) 2 (by omega) (by omega) (m.out.2.2.2.2.1.set_ 0 _) (m.out.2.2.2.2.2.far d.out.1.1 _)).mono ?_;rintro e B ⟨h,⟨v,A,rfl,l⟩|⟨A,rfl,p2,hp2,l⟩⟩
      .have y:=(V1 (g:=ab) (w:=wr) 0 (.int .i64 ((p+1:Nat):Int))).trans h;have r:=y.blk m.out.2.1 d.out.2.2;have qm:B.cell? ⟨mb,1+o+i,none⟩=some (.int .i64 (f' (o+i):Int)):=by rw[r.cell,show 1+o+i=1+(o+i)from by omega];exact zvt (by omega)
       have af:∀j,B.frozen? ⟨mb,j,none⟩=false:=r.frozen;have E:Hid (fldAt s a first c i=some v/\Blk B ab 3 #[.int .i64 (posAt a first (i+1):Int)]/\posAt a first (i+1)<=s.length):=hid (by
        rw[zqv (by omega),G.out];refine⟨?_,l,(zcz A (by omega)).2.2⟩;unfold fldAt;rw[if_neg h0,G.out,if_pos (zlw hps HB.out hbc)];exact A)
       have F:=hid (And.intro y r);clear h y A l r;go_wp2;go_roundw
       case rel=>
        exact Z.out B v E.out.1 (KM.ofA F.out.1) F.out.2 E.out.2.1 hlt E.out.2.2
       case measure=>simp[intOf];omega
      .have y:=(V1 (g:=ab) (w:=wr) 0 (.int .i64 ((p+1:Nat):Int))).trans h;have E:Hid (FldPost s a first c o n mb ab sh f nn z w (.returned (.bool false)) B):=hid (t.out B p2 _ hp2 rfl (by
        unfold fldAt;rw[if_neg h0,G.out,if_pos (zlw hps HB.out hbc)];exact A) hlt (KM.ofA y) (y.blk m.out.2.1 d.out.2.2) l)
       clear h y A l;go_wp2;go_ret;exact E.out
     .have N:¬(b:Int)=(c:Int):=by omega
      go_wp2;go_ret;exact t.out wr p _ u rfl (by unfold fldAt;rw[if_neg h0,G.out,zw9 hps HB.out hc hbc];rfl) hlt (KM.refl _ _ _) m.out.2.1 m.out.2.2.2.2.1
    .have U:(s.length:Int)<=(p:Int):=by omega
     go_wp2;go_ret;exact t.out wr p _ u rfl (by unfold fldAt;rw[if_neg h0,G.out,zhs (by omega)];rfl) hlt (KM.refl _ _ _) m.out.2.1 m.out.2.2.2.2.1
  .obtain rfl:i=n:=by omega
   have Y:¬(i:Int)<(i:Int):=by omega
   clear hlt;go_wp2;go_ret;exact⟨m.out.1,f',m.out.2.1,.inl ⟨rfl,m.out.2.2.1,m.out.2.2.2.1,by rw[G.out];exact m.out.2.2.2.2.1,by rw[G.out];exact u⟩⟩
def mZ:Array Value:=#[.int .i64 0,.int .i64 0,.int .i64 0,.int .i64 0,.int .i64 0,.int .i64 0,.int .i64 0,.int .i64 0,.int .i64 0,.int .i64 0,.int .u8 0]
structure RMem (s:K4) (w:World) (sb rb mb ab fb:Nat) (sh:Nat) (f:Nat->Nat) (nn z p:Nat) (wx:World):Prop where
 b:Below w.heap.size w wx
 n:w.heap.size<=rb
 nm:w.heap.size<=mb
 na:w.heap.size<=ab
 mr:mb≠rb
 s:Blk wx sb 9 #[.string ⟨s.toArray⟩]
 r:Blk wx rb 96 mZ
 m:Blk wx mb 96 (mC sh f nn z)
 a:Blk wx ab 3 #[.int .i64 (p:Int)]
 f:Blk wx fb 126 #[.func (.func 86) #[] #[.pointer (some ⟨ab,0,none⟩),.pointer (some ⟨sb,0,none⟩)]]
theorem RMem.up {s:K4} {w:World} {sb rb mb ab fb sh:Nat} {f:Nat->Nat} {nn z p:Nat} {wx wy:World} (h:RMem s w sb rb mb ab fb sh f nn z p wx) (hb:Below wx.heap.size wx wy):RMem s w sb rb mb ab fb sh f nn z p wy:=
 ⟨h.b.trans (hb.mono h.b.size),h.n,h.nm,h.na,h.mr,h.s.below hb h.s.lt,h.r.below hb h.r.lt,h.m.below hb h.m.lt,h.a.below hb h.a.lt,h.f.below hb h.f.lt⟩
theorem WL.hc2 {g:Nat} {t:TypeId} {w0:World} {cs cs':Array Value} (y:WL g t w0 cs) (e:cs=cs'):Blk y.w g t cs':=by subst e;exact y.hc
def RPost (T:Option (Array Value)) (w:World) (e:Ending) (w':World):Prop:=Below w.heap.size w w'/\∃(sh:Nat) (f:Nat->Nat) (nn z:Nat),e=.returned (.tuple #[.agg (mC sh f nn z),.bool T.isSome])/\∀x,T=some x->x=mC sh f nn z
theorem zbe {w:World} {g:Nat} {t:TypeId} {c0 c1 c2 c3 c4 c5 c6 c7 c8 c9 c10 v0 v1 v2 v3 v4 v5 v6 v7 v8 v9 v10:Value} (h:Blk w g t #[c0,c1,c2,c3,c4,c5,c6,c7,c8,c9,c10]):Blk (((((((((((w.setCell ⟨g,0,none⟩ (v0)).setCell ⟨g,1,none⟩ (v1)).setCell ⟨g,2,none⟩ (v2)).setCell ⟨g,3,none⟩ (v3)).setCell ⟨g,4,none⟩ (v4)).setCell ⟨g,5,none⟩ (v5)).setCell ⟨g,6,none⟩ (v6)).setCell ⟨g,7,none⟩ (v7)).setCell ⟨g,8,none⟩ (v8)).setCell ⟨g,9,none⟩ (v9)).setCell ⟨g,10,none⟩ (v10)) g t #[v0,v1,v2,v3,v4,v5,v6,v7,v8,v9,v10]:=by
 have a:=(((((((((((h.set_ 0 v0).set_ 1 v1).set_ 2 v2).set_ 3 v3).set_ 4 v4).set_ 5 v5).set_ 6 v6).set_ 7 v7).set_ 8 v8).set_ 9 v9).set_ 10 v10)
 simp only[List.setIfInBounds_toArray,X9,Z9]at a;exact a
theorem kb11 {w0 w:World} {g:Nat} (h:KB g w0 w) {v0 v1 v2 v3 v4 v5 v6 v7 v8 v9 v10:Value}:KB g w0 (((((((((((w.setCell ⟨g,0,none⟩ (v0)).setCell ⟨g,1,none⟩ (v1)).setCell ⟨g,2,none⟩ (v2)).setCell ⟨g,3,none⟩ (v3)).setCell ⟨g,4,none⟩ (v4)).setCell ⟨g,5,none⟩ (v5)).setCell ⟨g,6,none⟩ (v6)).setCell ⟨g,7,none⟩ (v7)).setCell ⟨g,8,none⟩ (v8)).setCell ⟨g,9,none⟩ (v9)).setCell ⟨g,10,none⟩ (v10)):=
 (((((((((((h.set 0 _).set 1 _).set 2 _).set 3 _).set 4 _).set 5 _).set 6 _).set 7 _).set 8 _).set 9 _).set 10 _)
theorem zcq {w0 w:World} {g B:Nat} (h:Below B w0 w) (hB:B<=g) {v0 v1 v2 v3 v4 v5 v6 v7 v8 v9 v10:Value}:Below B w0 (((((((((((w.setCell ⟨g,0,none⟩ (v0)).setCell ⟨g,1,none⟩ (v1)).setCell ⟨g,2,none⟩ (v2)).setCell ⟨g,3,none⟩ (v3)).setCell ⟨g,4,none⟩ (v4)).setCell ⟨g,5,none⟩ (v5)).setCell ⟨g,6,none⟩ (v6)).setCell ⟨g,7,none⟩ (v7)).setCell ⟨g,8,none⟩ (v8)).setCell ⟨g,9,none⟩ (v9)).setCell ⟨g,10,none⟩ (v10)):=
 (((((((((((h.setCell (p:=⟨g,0,none⟩) hB _).setCell (p:=⟨g,1,none⟩) hB _).setCell (p:=⟨g,2,none⟩) hB _).setCell (p:=⟨g,3,none⟩) hB _).setCell (p:=⟨g,4,none⟩) hB _).setCell (p:=⟨g,5,none⟩) hB _).setCell (p:=⟨g,6,none⟩) hB _).setCell (p:=⟨g,7,none⟩) hB _).setCell (p:=⟨g,8,none⟩) hB _).setCell (p:=⟨g,9,none⟩) hB _).setCell (p:=⟨g,10,none⟩) hB _)
theorem zzb (s:K4) (_hl:s.length<=1073741823) (w wx:World) (sb rb mb ab fb sh:Nat) (f:Nat->Nat) (nn z p:Nat) (T:Option (Array Value)) (HM:Hid (RMem s w sb rb mb ab fb sh f nn z p wx)) (HT:Hid (T=if p=s.length then some (mC sh f nn z)else none)) {u3 u8 u9 u10 u11 u12 u13 u14 u15 u16 u17 u18 u19 u20 u21 u22 u23 u24 u25 u26 u27 u28 u29 u30 u31 u32 u33 u34 u35 u36 u37 u38 u39 u40 u41 u42 u43 u44 u45 u46 u47 u48 u49 u50 u51 u52 u53 u54 u55 u56 u57 u58 u59 u60 u61 u62 u63 u64 u65 u66 u67 u68 u69 u70 u71 u72 u73 u74 u75 u76 u77 u78 u79 u80 u81 u82 u83 u84 u85 u86 u87 u88 u89 u90 u91 u92 u93 u94 u95 u96 u97 u98 u99 u100 u101 u102 u103 u104 u105 u106 u107 u108 u109 u110 u111 u112 u113 u114 u115 u116 u117 u118 u119 u120 u121 u122 u123 u124 u125 u126 u127 u128 u129 u130 u131 u132 u133 u134 u135 u136 u137 u138 u139 u140 u141 u142 u143 u144 u145 u146 u147 u148 u149 u150 u151 u152 u153 u154:Value}:
 Code.wp prog (tl 10 (f58.body.getD .skip)) (bodyPost prog f58 (RPost T w)) {tmps:=List.toArray (.string ⟨s.toArray⟩::.pointer (some ⟨sb,0,none⟩)::.pointer (some ⟨rb,0,none⟩)::u3::.pointer (some ⟨mb,0,none⟩)::.pointer (some ⟨ab,0,none⟩)::.pointer (some ⟨fb,0,none⟩)::.func (.func 87) #[] #[.pointer (some ⟨ab,0,none⟩),.pointer (some ⟨sb,0,none⟩),.pointer (some ⟨fb,0,none⟩)]::u8::u9::u10::u11::u12::u13::u14::u15::u16::u17::u18::u19::u20::u21::u22::u23::u24::u25::u26::u27::u28::u29::u30::u31::u32::u33::u34::u35::u36::u37::u38::u39::u40::u41::u42::u43::u44::u45::u46::u47::u48::u49::u50::u51::u52::u53::u54::u55::u56::u57::u58::u59::u60::u61::u62::u63::u64::u65::u66::u67::u68::u69::u70::u71::u72::u73::u74::u75::u76::u77::u78::u79::u80::u81::u82::u83::u84::u85::u86::u87::u88::u89::u90::u91::u92::u93::u94::u95::u96::u97::u98::u99::u100::u101::u102::u103::u104::u105::u106::u107::u108::u109::u110::u111::u112::u113::u114::u115::u116::u117::u118::u119::u120::u121::u122::u123::u124::u125::u126::u127::u128::u129::u130::u131::u132::u133::u134::u135::u136::u137::u138::u139::u140::u141::u142::u143::u144::u145::u146::u147::u148::u149::u150::u151::u152::u153::u154::[]),defers:=[]} wx:=by
 generalize hc0:tl 10 (f58.body.getD .skip)=c0;simp only[tl,f58,Option.getD_some]at hc0;subst hc0;obtain⟨q,i⟩:=ex (decide ((p:Int)=(s.length:Int)))
 have hokb:((p:Int)==(s.length:Int))=q:=by rw[<-i];rfl
 have o:Hid (T=if q=true then some (mC sh f nn z)else none):=hid (by
  rw[HT.out,<-i];by_cases h:p=s.length
  .rw[if_pos h,if_pos (by simp[h])]
  .rw[if_neg h,if_neg (by simp;omega)])
 clear i HT;go_upto_region 36 with fail;obtain⟨Z,A⟩:∃Z:Bool->Array Value,Z=fun b=>if b=true then mC sh f nn z else mZ:=⟨_,rfl⟩
 have d:Hid (Z false=mZ/\Z true=mC sh f nn z):=hid (by rw[A];exact⟨rfl,rfl⟩);clear A;have l:Hid (∃y:WL rb 96 wx (Z false),{wx with drawn:=wx.drawn+1}=y.w):=hid ⟨⟨wx.drewN 1,(Z3 _ _).drewN 1,by rw[d.out.1];exact HM.out.r.drewN 1⟩,rfl⟩;have g:Hid (∀y:WL rb 96 wx (Z false),∃z':WL rb 96 wx (Z true),(((((((((((y.w.setCell ⟨rb,0,none⟩ (.int .i64 (sh:Int))).setCell ⟨rb,1,none⟩ (.int .i64 (f 0:Int))).setCell ⟨rb,2,none⟩ (.int .i64 (f 1:Int))).setCell ⟨rb,3,none⟩ (.int .i64 (f 2:Int))).setCell ⟨rb,4,none⟩ (.int .i64 (f 3:Int))).setCell ⟨rb,5,none⟩ (.int .i64 (f 4:Int))).setCell ⟨rb,6,none⟩ (.int .i64 (f 5:Int))).setCell ⟨rb,7,none⟩ (.int .i64 (f 6:Int))).setCell ⟨rb,8,none⟩ (.int .i64 (f 7:Int))).setCell ⟨rb,9,none⟩ (.int .i64 (nn:Int))).setCell ⟨rb,10,none⟩ (.int .u8 (z:Int)))=z'.w):=hid (fun y=>⟨⟨_,kb11 y.h,by
  have C:=WL.hc2 y d.out.1;rw[d.out.2];exact zbe C⟩,rfl⟩)
 have u:Hid (∀b,Nonempty (WL rb 96 wx (Z b))):=hid (fun b=>by
  obtain⟨y,_⟩:=l.out;cases b with
  |false=>exact⟨y⟩
  |true=>obtain⟨z',_⟩:=g.out y;exact⟨z'⟩)
 have c:Hid (∀b,∀y:WL rb 96 wx (Z b),Blk y.w mb 96 (mC sh f nn z)/\Blk y.w ab 3 #[.int .i64 (p:Int)]/\Blk y.w sb 9 #[.string ⟨s.toArray⟩]):=hid (fun b y=>⟨y.h.blk HM.out.m HM.out.mr,y.h.blk HM.out.a (HM.out.a.ne_ HM.out.r (by decide)),y.h.blk HM.out.s (HM.out.s.ne_ HM.out.r (by decide))⟩);refine zbd (aF:=?aF) 5 (by kernel_rfl) _ rfl rfl rfl rfl rfl (by kernel_rfl) (by kernel_rfl) (by kernel_rfl) (by kernel_rfl) (by kernel_rfl) (fun b W=>∃y:WL rb 96 wx (Z b),W=y.w) l.out (fun b=>?h1) ?h2 ?h3
 case h1=>
  have q0:∀y:WL rb 96 wx (Z b),y.w.cell? ⟨mb,0,none⟩=some (.int .i64 (sh:Int)):=fun y=>(c.out b y).1.cell 0
  have q1:∀y:WL rb 96 wx (Z b),y.w.cell? ⟨mb,1,none⟩=some (.int .i64 (f 0:Int)):=fun y=>(c.out b y).1.cell 1
  have q2:∀y:WL rb 96 wx (Z b),y.w.cell? ⟨mb,2,none⟩=some (.int .i64 (f 1:Int)):=fun y=>(c.out b y).1.cell 2
  have q3:∀y:WL rb 96 wx (Z b),y.w.cell? ⟨mb,3,none⟩=some (.int .i64 (f 2:Int)):=fun y=>(c.out b y).1.cell 3
  have q4:∀y:WL rb 96 wx (Z b),y.w.cell? ⟨mb,4,none⟩=some (.int .i64 (f 3:Int)):=fun y=>(c.out b y).1.cell 4
  have q5:∀y:WL rb 96 wx (Z b),y.w.cell? ⟨mb,5,none⟩=some (.int .i64 (f 4:Int)):=fun y=>(c.out b y).1.cell 5
  have q6:∀y:WL rb 96 wx (Z b),y.w.cell? ⟨mb,6,none⟩=some (.int .i64 (f 5:Int)):=fun y=>(c.out b y).1.cell 6
  have q7:∀y:WL rb 96 wx (Z b),y.w.cell? ⟨mb,7,none⟩=some (.int .i64 (f 6:Int)):=fun y=>(c.out b y).1.cell 7
  have q8:∀y:WL rb 96 wx (Z b),y.w.cell? ⟨mb,8,none⟩=some (.int .i64 (f 7:Int)):=fun y=>(c.out b y).1.cell 8
  have q9:∀y:WL rb 96 wx (Z b),y.w.cell? ⟨mb,9,none⟩=some (.int .i64 (nn:Int)):=fun y=>(c.out b y).1.cell 9
  have q10:∀y:WL rb 96 wx (Z b),y.w.cell? ⟨mb,10,none⟩=some (.int .u8 (z:Int)):=fun y=>(c.out b y).1.cell 10
  have hne:=u.out b;have qA:∀y:WL rb 96 wx (Z b),y.w.cell? ⟨ab,0,none⟩=some (.int .i64 (p:Int)):=fun y=>(c.out b y).2.1.cell 0
  have qS:∀y:WL rb 96 wx (Z b),y.w.cell? ⟨sb,0,none⟩=some (.string ⟨s.toArray⟩):=fun y=>(c.out b y).2.2.cell 0
  simp only[Z9,X9,nopOf,Z2,V5,V4]
  iterate 7 (go_big_quiet_step (fail))
  refine wpQuiet_nil ?_;rfl
 case h2=>
  rintro _ ⟨y,rfl⟩;obtain⟨z',B⟩:=g.out y;have e:Blk y.w rb 96 #[.int .i64 0,.int .i64 0,.int .i64 0,.int .i64 0,.int .i64 0,.int .i64 0,.int .i64 0,.int .i64 0,.int .i64 0,.int .i64 0,.int .u8 0]:=WL.hc2 y d.out.1;have f0:∀j,y.w.frozen? ⟨rb,j,none⟩=false:=e.frozen;obtain⟨c0,c1,c2,c3,c4,c5,c6,c7,c8,c9,c10⟩:=zag e;refine⟨z'.w,?_,z',rfl⟩;rw[<-B];simp only[Z2,V5,V4];go_simp
 case h3=>
 rintro _ ⟨y,rfl⟩;have e:Blk y.w rb 96 (mC sh f nn z):=WL.hc2 y d.out.2;obtain⟨e0,e1,e2,e3,e4,e5,e6,e7,e8,e9,e10⟩:=zag e;go_wp2_with fail;have t:Below w.heap.size w y.w:=HM.out.b.trans (y.h.below HM.out.n HM.out.b.size);refine E0 (v:=.tuple #[.agg #[.int .i64 (sh:Int),.int .i64 (f 0:Int),.int .i64 (f 1:Int),.int .i64 (f 2:Int),.int .i64 (f 3:Int),.int .i64 (f 4:Int),.int .i64 (f 5:Int),.int .i64 (f 6:Int),.int .i64 (f 7:Int),.int .i64 (nn:Int),.int .u8 (z:Int)],.bool q]) (by rw[results_cell_tmp rfl];go_simp) rfl ?_;unfold RPost;refine⟨t,sh,f,nn,z,?_,fun x k=>?_⟩
 .rw[o.out];cases q<;>rfl
 .rw[o.out]at k;split at k
  .injection k with k;exact k.symm
  .cases k
theorem fld0 (s:K4) (a first c:Nat):fldAt s a first c 0=numAt s a first:=rfl
theorem fld1 (s:K4) (a first c:Nat):fldAt s a first c 1=if isAt s (a+first) (UInt8.ofNat c)=true then numAt s (a+first+1) 2 else none:=by
 unfold fldAt posAt;simp
theorem fld2 (s:K4) (a first c:Nat):fldAt s a first c 2=if isAt s (a+first+3) (UInt8.ofNat c)=true then numAt s (a+first+4) 2 else none:=by
 unfold fldAt posAt;simp[Nat.add_assoc]
theorem zfo {c:Prop} [Decidable c] {o:Option Nat} {v:Nat} (h:(if c then o else none)=some v):c/\o=some v:=by
 grind
theorem zfp {c:Prop} [Decidable c] {o:Option Nat} (h:(if c then o else none)=none):¬c\/o=none:=by
 grind
theorem zuc {s:K4} {g:Nat->Nat} (h:∀j,j<3->fldAt s 0 4 45 j=some (g (0+j))):dateAt s=some (g 0,g 1,g 2):=by
 have c:=h 0 (by omega);have a:=h 1 (by omega);have b:=h 2 (by omega);rw[fld0]at c;rw[fld1]at a;rw[fld2]at b;obtain⟨i,f⟩:=zfo a;obtain⟨d,e⟩:=zfo b;unfold dateAt;rw[c,show(5:Nat)=0+4+1 from rfl,show(8:Nat)=0+4+4 from rfl,f,e];show(if(isAt s (0+4) (UInt8.ofNat 45) && isAt s (0+4+3) (UInt8.ofNat 45))=true then _ else _)=_;rw[i,d];rfl
theorem znf {s:K4} (h:∃j,j<3/\fldAt s 0 4 45 j=none):dateAt s=none:=by
 obtain⟨j,hj,h⟩:=h;unfold dateAt;have:j=0\/j=1\/j=2:=by omega
 rcases this with rfl|rfl|rfl
 .rw[fld0]at h;rw[h]
 .rw[fld1]at h;rcases zfp h with h|h
  .grind
  .grind
 .rw[fld2]at h;rcases zfp h with h|h
  .grind
  .grind
structure ClkIs (s:K4) (a h m c:Nat):Prop where
 h:numAt s a 2=some h
 m:numAt s (a+3) 2=some m
 c:numAt s (a+6) 2=some c
 i:isAt s (a+2) 58=true
 j:isAt s (a+5) 58=true
theorem zxa {s:K4} {a:Nat} {g:Nat->Nat} (h:∀j,j<3->fldAt s a 2 58 j=some (g (3+j))):ClkIs s a (g 3) (g 4) (g 5):=by
 have d:=h 0 (by omega);have b:=h 1 (by omega);have c:=h 2 (by omega);rw[fld0]at d;rw[fld1]at b;rw[fld2]at c;obtain⟨k,i⟩:=zfo b;obtain⟨e,f⟩:=zfo c;exact⟨d,i,f,k,e⟩
theorem zzc {s:K4} {a:Nat} (h:∃j,j<3/\fldAt s a 2 58 j=none):clockAt s a=none:=by
 obtain⟨j,hj,h⟩:=h;unfold clockAt;have:j=0\/j=1\/j=2:=by omega
 rcases this with rfl|rfl|rfl
 .rw[fld0]at h;rw[h]
 .rw[fld1]at h;rcases zfp h with h|h
  .grind
  .grind
 .rw[fld2]at h;rcases zfp h with h|h
  .grind
  .grind
theorem zqx {s:K4} {a h m c:Nat} (k:ClkIs s a h m c) (hd:isAt s (a+8) 46=false):clockAt s a=some ⟨h,m,c,0,a+8⟩:=by
 unfold clockAt;rw[k.h,k.m,k.c];simp only;rw[k.i,k.j,hd];rfl
theorem zxb {s:K4} {a h m c:Nat} (k:ClkIs s a h m c) (hd:isAt s (a+8) 46=true):clockAt s a=if((s.drop (a+9)).takeWhile Q3).length=0\/9<((s.drop (a+9)).takeWhile Q3).length then none
 else some ⟨h,m,c,D4 ((s.drop (a+9)).takeWhile Q3)*10 ^ (9-((s.drop (a+9)).takeWhile Q3).length),a+9+((s.drop (a+9)).takeWhile Q3).length⟩:=by
 unfold clockAt;rw[k.h,k.m,k.c];simp only;rw[k.i,k.j,hd];rfl
theorem zby {s:K4} {p b:Nat} (hp:p<s.length) (hb:(s[p]'hp).toNat=b) (c:UInt8):isAt s p c=decide (b=c.toNat):=by
 unfold isAt;rw[Q0 hp,<-hb,X5];simp;exact⟨fun e=>by rw[e],fun e=>UInt8.toNat_inj.1 e⟩
theorem zzd {s:K4} {p:Nat} (hp:p<s.length) (hb:(s[p]'hp).toNat=90):zoneAt s p=some ⟨90,0,0,p+1⟩:=by
 unfold zoneAt;rw[if_pos (by rw[zby hp hb];rfl)]
theorem zlx {s:K4} {p b:Nat} (hp:p<s.length) (hb:(s[p]'hp).toNat=b) (h1:b≠90) (h2:b≠43) (h3:b≠45):zoneAt s p=none:=by
 unfold zoneAt;rw[if_neg (by rw[zby hp hb];simpa using h1)];split
 .rw[if_neg];rw[zby hp hb,zby hp hb];simp[h2,h3]
 .rfl
theorem zud {s:K4} {p b:Nat} {g:Nat->Nat} (hp:p<s.length) (hb:(s[p]'hp).toNat=b) (h2:b=43\/b=45) (h:∀j,j<2->fldAt s (p+1) 2 58 j=some (g (6+j))):∃z:Gr.Zn,zoneAt s p=some z/\z.z.toNat=b/\z.h=g 6/\z.m=g 7/\z.stop=p+6:=by
 have c:=h 0 (by omega);have a:=h 1 (by omega);rw[fld0]at c;rw[fld1]at a;obtain⟨e,d⟩:=zfo a;refine⟨⟨s.getD p 0,g 6,g 7,p+6⟩,?_,?_,rfl,rfl,rfl⟩
 .unfold zoneAt;rw[if_neg (by rw[zby hp hb];rcases h2 with rfl|rfl<;>decide),c,show p+4=p+1+2+1 from rfl,d];simp only;rw[if_pos];rw[zby hp hb,zby hp hb,Y9];exact⟨by rcases h2 with rfl|rfl<;>decide,e⟩
 .grind
theorem zng {s:K4} {p b:Nat} (hp:p<s.length) (hb:(s[p]'hp).toNat=b) (h2:b≠90) (h:∃j,j<2/\fldAt s (p+1) 2 58 j=none):zoneAt s p=none:=by
 obtain⟨j,hj,h⟩:=h;unfold zoneAt;rw[if_neg (by rw[zby hp hb];simpa using h2)];have:j=0\/j=1:=by omega
 rcases this with rfl|rfl
 .rw[fld0]at h;rw[h]
 .rw[fld1]at h;rcases zfp h with h|h
  .grind
  .grind
def rngB (date:Bool) (y m d h mi c:Int) (late:Bool):Bool:=(!date || (decide (1<=m) && decide (m<=12) && decide (1<=d) && decide (d<=Cal.dim y m))) && !late && decide (h<=23) && decide (mi<=59) && decide (c<=59)
theorem zem (date time zone:Bool) (y m d h mi c nanos off:Int) (late:Bool) (w:World):
 Calls prog 158 #[.agg #[.bool date,.bool time,.bool zone,.int .i64 y,.int .i64 m,.int .i64 d,.int .i64 h,.int .i64 mi,.int .i64 c,.int .i64 nanos,.int .i64 off,.bool late]] w fun e w'=>e=.returned (.bool (rngB date y m d h mi c late))/\Below w.heap.size w w':=by
 have I:date=false\/(date=true/\m<1)\/(date=true/\¬m<1/\12<m)\/(date=true/\¬m<1/\¬12<m/\d<1)\/(date=true/\¬m<1/\¬12<m/\¬d<1/\Cal.dim y m<d)\/(date=true/\¬m<1/\¬12<m/\¬d<1/\¬Cal.dim y m<d):=by
  cases date<;>simp<;>omega
 obtain⟨q,z⟩:=ex (Cal.dim y m)
 have G:=hid z;rw[z]at I;clear z;have v:Hid (1<=m->m<=12->∀W,Calls prog 188 #[.int .i64 y,.int .i64 m] W fun e w'=>e=.returned (.int .i64 q)/\W=w'):=hid (fun t u W=>by rw[<-G.out];exact zd8 y m t u W);obtain⟨r,x⟩:=ex (rngB date y m d h mi c late)
 have J:=hid x;rw[x];clear x;rcases I with rfl|⟨rfl,t⟩|⟨rfl,t,u⟩|⟨rfl,t,u,h3⟩|⟨rfl,t,u,h3,h4⟩|⟨rfl,t,u,h3,h4⟩
 .have o:Hid (∀W,1<=m->m<=12->Calls prog 188 #[.int .i64 y,.int .i64 m] W fun e w'=>e=.returned (.int .i64 q)/\W=w'):=hid (fun W a b=>v.out a b W);go_enter func158,ntmps158;go_upto_region 1 with fail;obtain⟨i,k⟩:=ex w.heap.size
  obtain⟨g,l⟩:∃g,g=w.alloc (.cells #[.bool false,.bool time,.bool zone,.int .i64 y,.int .i64 m,.int .i64 d,.int .i64 h,.int .i64 mi,.int .i64 c,.int .i64 nanos,.int .i64 off,.bool late] 164):=⟨_,rfl⟩
  have f:Hid (Blk g i 164 (T12 false time zone y m d h mi c nanos off late)/\Below i w g):=hid (by rw[l,<-k];exact⟨Q1 _ _ _,(K3 _ _).alloc (K1 _) _⟩);have s:=hid k;(try rw[<-l]);(try rw[k]);clear l k;have C:∀W:WB g.heap.size g,W.w.cell? ⟨i,0,none⟩=some (.bool false):=fun W=>(W.h.cell (p:=⟨i,0,none⟩) f.out.1.lt).trans (f.out.1.cell 0)
  have E:∀W:WB g.heap.size g,W.w.cell? ⟨i,3,none⟩=some (.int .i64 y):=fun W=>(W.h.cell (p:=⟨i,3,none⟩) f.out.1.lt).trans (f.out.1.cell 3)
  have A:∀W:WB g.heap.size g,W.w.cell? ⟨i,4,none⟩=some (.int .i64 m):=fun W=>(W.h.cell (p:=⟨i,4,none⟩) f.out.1.lt).trans (f.out.1.cell 4)
  have B:∀W:WB g.heap.size g,W.w.cell? ⟨i,5,none⟩=some (.int .i64 d):=fun W=>(W.h.cell (p:=⟨i,5,none⟩) f.out.1.lt).trans (f.out.1.cell 5)
  refine zac g.heap.size g (by kernel_rfl) (by kernel_rfl) (K3 _ _) ?_
  iterate 27 (try go_big_quiet_step ((with_reducible refine X1 ((o.out _ (by omega) (by omega)).mono (fun _ _ ⟨D,H⟩=>⟨D,H▸WB.h _⟩)))))
  refine wpQuiet_nil ?_;rintro _ ⟨n,rfl⟩;clear C E A B;have j:=f.out.1.below n.h f.out.1.lt;have M:n.w.cell? ⟨i,6,none⟩=some (.int .i64 h):=j.cell 6;have L:n.w.cell? ⟨i,7,none⟩=some (.int .i64 mi):=j.cell 7;have K:n.w.cell? ⟨i,8,none⟩=some (.int .i64 c):=j.cell 8;have F:n.w.cell? ⟨i,11,none⟩=some (.bool late):=j.cell 11;clear j;cases late
  all_goals go_wp2_with fail
  all_goals go_ret
  all_goals
   rw[s.out];refine⟨congrArg (fun b=>Ending.returned (.bool b)) ?_,f.out.2.trans (n.h.mono (V9 f.out.1.lt))⟩;rw[<-J.out];unfold rngB;rw[G.out]
   first| (simp[*];done)| (simp;omega)
 all_goals
  have o:Hid (∀W,1<=m->m<=12->Calls prog 188 #[.int .i64 y,.int .i64 m] W fun e w'=>e=.returned (.int .i64 q)/\W=w'):=hid (fun W a b=>v.out a b W);go_enter func158,ntmps158;go_upto_region 1 with fail;obtain⟨i,k⟩:=ex w.heap.size
  obtain⟨g,l⟩:∃g,g=w.alloc (.cells #[.bool true,.bool time,.bool zone,.int .i64 y,.int .i64 m,.int .i64 d,.int .i64 h,.int .i64 mi,.int .i64 c,.int .i64 nanos,.int .i64 off,.bool late] 164):=⟨_,rfl⟩
  have f:Hid (Blk g i 164 (T12 true time zone y m d h mi c nanos off late)/\Below i w g):=hid (by rw[l,<-k];exact⟨Q1 _ _ _,(K3 _ _).alloc (K1 _) _⟩);have s:=hid k;(try rw[<-l]);(try rw[k]);clear l k;have C:∀W:WB g.heap.size g,W.w.cell? ⟨i,0,none⟩=some (.bool true):=fun W=>(W.h.cell (p:=⟨i,0,none⟩) f.out.1.lt).trans (f.out.1.cell 0)
  have E:∀W:WB g.heap.size g,W.w.cell? ⟨i,3,none⟩=some (.int .i64 y):=fun W=>(W.h.cell (p:=⟨i,3,none⟩) f.out.1.lt).trans (f.out.1.cell 3)
  have A:∀W:WB g.heap.size g,W.w.cell? ⟨i,4,none⟩=some (.int .i64 m):=fun W=>(W.h.cell (p:=⟨i,4,none⟩) f.out.1.lt).trans (f.out.1.cell 4)
  have B:∀W:WB g.heap.size g,W.w.cell? ⟨i,5,none⟩=some (.int .i64 d):=fun W=>(W.h.cell (p:=⟨i,5,none⟩) f.out.1.lt).trans (f.out.1.cell 5)
  refine zac g.heap.size g (by kernel_rfl) (by kernel_rfl) (K3 _ _) ?_
  iterate 27 (try go_big_quiet_step ((with_reducible refine X1 ((o.out _ (by omega) (by omega)).mono (fun _ _ ⟨D,H⟩=>⟨D,H▸WB.h _⟩)))))
  refine wpQuiet_nil ?_;rintro _ ⟨n,rfl⟩;clear C E A B;have j:=f.out.1.below n.h f.out.1.lt;have M:n.w.cell? ⟨i,6,none⟩=some (.int .i64 h):=j.cell 6;have L:n.w.cell? ⟨i,7,none⟩=some (.int .i64 mi):=j.cell 7;have K:n.w.cell? ⟨i,8,none⟩=some (.int .i64 c):=j.cell 8;have F:n.w.cell? ⟨i,11,none⟩=some (.bool late):=j.cell 11;clear j;cases late
  all_goals go_wp2_with fail
  all_goals go_ret
  all_goals
   rw[s.out];refine⟨congrArg (fun b=>Ending.returned (.bool b)) ?_,f.out.2.trans (n.h.mono (V9 f.out.1.lt))⟩;rw[<-J.out];unfold rngB;rw[G.out]
   first| (simp[*];done)| (simp;omega)
theorem zcg (x n:Nat) (i j:Int) (hi:i=(x:Int)) (hj:j=(n:Int)) (hx:x<=999999999) (hn:n<=9) (w:World):
 Calls prog 189 #[.int .i64 i,.int .i64 j] w fun e w'=>e=.returned (.string ⟨(W5 n x).toArray⟩)/\Below w.heap.size w w':=by
 subst hi;subst hj;go_enter func189,ntmps189;go_wp2_with fail;go_loopw [0,5,6] (fun s0 s5 s6 wr=>∃k y:Nat,k<=n/\y<=999999999/\s0=.int .i64 (y:Int)/\s5=.string ⟨(W5 k x).toArray⟩/\s6=.int .i64 (k:Int)/\Hid (y=x /10 ^ k/\Below w.heap.size w wr)) (fun _ _ s6 _=>n-(intOf s6).toNat)
 case atStart=>exact⟨0,x,by omega,hx,rfl,rfl,rfl,D8 ⟨by simp,K3 _ _⟩⟩
 case round=>
  obtain⟨k,y,hk,hy,rfl,rfl,rfl,l⟩:=hrel;have a:=Gr.za9 k x;by_cases hlt:k<n
  .have d:(k:Int)<(n:Int):=by omega
   obtain⟨c,m⟩:∃c:UInt8,c=Y6 (y%10):=⟨_,rfl⟩
   have g:(48:Int)+(y:Int)%10=(c.toNat:Int):=by rw[m];unfold Y6;rw[UInt8.toNat_ofNat'];omega
   have b:Hid (W5 (k+1) x=[c]++W5 k x/\y /10=x /10 ^ (k+1)):=D8 ⟨by rw[Gr.zt0,<-l.out.1,<-m];rfl,by rw[l.out.1,Nat.div_div_eq_div_mul,V8]⟩;have h:=fun W=>zad [c] (W5 k x) (by rw[a];simp;omega) W
   have f:(convert 80 9 (.slice (some ⟨wr.heap.size,0,none⟩) 1 1)).run prog (wr.alloc (.cells #[.int .u8 (c.toNat:Int)] 5))=.ok (.string ⟨[c].toArray⟩) (wr.alloc (.cells #[.int .u8 (c.toNat:Int)] 5)):=zd5 (B:=wr.heap.size+1) (wr.alloc (.cells #[.int .u8 (c.toNat:Int)] 5)) [c] (some ⟨wr.heap.size,0,none⟩) 1 (U6 c _ rfl _ rfl);rw[<-g]at f;obtain⟨p,o⟩:=ex (W5 k x)
   rw[o]at h b ⊢;have hy10:(0:Int)<=(y:Int)%10:=by omega
   have hy11:(y:Int)%10<=9:=by omega
   clear g a o m;go_wp2;go_roundw
   case rel=>exact⟨k+1,y /10,by omega,by omega,by exact congrArg (Value.int .i64) (by omega),by rw[b.out.1];rfl,by go_num,D8 ⟨b.out.2,l.out.2.alloc l.out.2.size _⟩⟩
   case measure=>simp[intOf];omega
  .obtain rfl:k=n:=by omega
   have d:¬(k:Int)<(k:Int):=by omega
   clear a;go_wp2;go_ret;exact⟨rfl,l.out.2⟩
namespace Utf
def rowOf (c:Nat):Nat×Nat×Nat×Nat:=
 if 192<=c/\c<224 then(2,c-192,128,2047)
 else if 224<=c/\c<240 then(3,c-224,2048,65535)
 else if 240<=c/\c<248 then(4,c-240,65536,1114111)
 else(0,0,0,0)
def goOn:Nat->Str->Option Nat
 |v,[]=>some v
 |v,c::r=>if c<128 || 191<c then none else goOn (64*v+(c.toNat-128)) r
def widen:Nat->Nat×Nat->Nat×Nat
 | 0,p=>p
 |k+1,p=>widen k (64*p.1,64*p.2+63)
def begins (b:Str):Nat×Nat:=
 match b with
 | []=>(0,0)
 |c::r=>
  if c<128/\r=[]then(c.toNat,1)
  else
   let n:=(rowOf c.toNat).1
   if r.length+1>n then(0,0)
   else match goOn (rowOf c.toNat).2.1 r with
    |none=>(0,0)
    |some v=>
     let p:=widen (n-(r.length+1)) (v,v)
     if p.2<(rowOf c.toNat).2.2.1\/p.1>(rowOf c.toNat).2.2.2\/(p.1>=55296/\p.2<=57343)then(0,0)else(p.1,n)
def refAt (r:Str):Nat×Nat:=
 if 1<=r.length/\(begins (r.take 1)).2=1 then begins (r.take 1)
 else if 2<=r.length/\(begins (r.take 2)).2=2 then begins (r.take 2)
 else if 3<=r.length/\(begins (r.take 3)).2=3 then begins (r.take 3)
 else if 4<=r.length/\(begins (r.take 4)).2=4 then begins (r.take 4)
 else(0,0)
end Utf
end Go.Proofs.YtpgmfihonmoliabGreatDoor
namespace Go.Proofs.YtpgmfihonmoliabGreatDoor
namespace Utf
theorem lt8 (c:UInt8) (k:Nat) (hk:k<256):(c<UInt8.ofNat k)↔c.toNat<k:=by
 rw[UInt8.lt_iff_toNat_lt,UInt8.toNat_ofNat_of_lt' (by simpa using hk)]
theorem gt8 (c:UInt8) (k:Nat) (hk:k<256):(UInt8.ofNat k<c)↔k<c.toNat:=by
 rw[UInt8.lt_iff_toNat_lt,UInt8.toNat_ofNat_of_lt' (by simpa using hk)]
def isC (d:UInt8):Bool:=decide (128<=d.toNat) && decide (d.toNat<=191)
theorem zcb (v:Nat) (d:UInt8) (r:Str):goOn v (d::r)=if isC d then goOn (64*v+(d.toNat-128)) r else none:=by
 have a:(d<128)↔d.toNat<128:=lt8 d 128 (by omega);have b:(191<d)↔191<d.toNat:=gt8 d 191 (by omega);rw[goOn];by_cases hd:isC d=true
 .have:128<=d.toNat/\d.toNat<=191:=by simpa[isC]using hd
  rw[if_pos hd,if_neg];simp[a,b];omega
 .rw[if_neg hd,if_pos];simp only[isC,Y9,qqv]at hd;simp[a,b];omega
theorem zc0 (c d:UInt8) (r:Str):begins (c::d::r)=
 if r.length+2>(rowOf c.toNat).1 then(0,0)
 else match goOn (rowOf c.toNat).2.1 (d::r)with
  |none=>(0,0)
  |some v=>if(widen ((rowOf c.toNat).1-(r.length+2)) (v,v)).2<(rowOf c.toNat).2.2.1\/(widen ((rowOf c.toNat).1-(r.length+2)) (v,v)).1>(rowOf c.toNat).2.2.2\/((widen ((rowOf c.toNat).1-(r.length+2)) (v,v)).1>=55296/\(widen ((rowOf c.toNat).1-(r.length+2)) (v,v)).2<=57343)then(0,0)else((widen ((rowOf c.toNat).1-(r.length+2)) (v,v)).1,(rowOf c.toNat).1):=by
 unfold begins;simp only[reduceCtorEq,and_false,if_false,K7]
 all_goals rfl
theorem znt (c d:UInt8) (r:Str):(begins (c::d::r)).2=0\/((begins (c::d::r)).2=(rowOf c.toNat).1/\r.length+2<=(rowOf c.toNat).1):=by
 rw[zc0];split
 .exact .inl rfl
 .grind
theorem znu (c:UInt8):(begins [c]).2=1↔c.toNat<128:=by
 have hlt:c.toNat<256:=c.toNat_lt;have a:(c<128)↔c.toNat<128:=by rw[UInt8.lt_iff_toNat_lt];rfl
 unfold begins;simp only[and_true,Y1,a];by_cases hc:c.toNat<128
 .simp[hc]
 .rw[if_neg hc];simp only[hc,iff_false];unfold rowOf;split
  .simp only[goOn,widen];repeat' split
   all_goals simp
  .split
   .simp only[goOn,widen];repeat' split
    all_goals simp
   .split
    .simp only[goOn,widen];repeat' split
     all_goals simp
    .simp
theorem zxr (c:Nat) (h:192<=c/\c<224):rowOf c=(2,c-192,128,2047):=by unfold rowOf;rw[if_pos h]
theorem zru (c:Nat) (h:224<=c/\c<240):rowOf c=(3,c-224,2048,65535):=by unfold rowOf;rw[if_neg (by omega),if_pos h]
theorem zuq (c:Nat) (h:240<=c/\c<248):rowOf c=(4,c-240,65536,1114111):=by unfold rowOf;rw[if_neg (by omega),if_neg (by omega),if_pos h]
theorem zur (c:Nat) (h:c<192\/248<=c):rowOf c=(0,0,0,0):=by unfold rowOf;rw[if_neg (by omega),if_neg (by omega),if_neg (by omega)]
theorem zdu (c:UInt8) (r:Str) (n:Nat) (hc:¬c.toNat<128) (hn:(rowOf c.toNat).1=n) (_h2:2<=n\/n=0) (h4:n<=4):
 refAt (c::r)=if 2<=n/\n<=r.length+1/\(begins ((c::r).take n)).2=n then begins ((c::r).take n)else(0,0):=by
 have a:¬(begins ((c::r).take 1)).2=1:=by
  rw[show(c::r).take 1=[c]from rfl,znu];exact hc
 have hoth:∀k,2<=k->k<=r.length+1->k≠n->¬(begins ((c::r).take k)).2=k:=by
  intro k hk b hkn;cases r with
  |nil=>rw[Y1]at b;omega
  |cons d q=>
   obtain⟨j,rfl⟩:∃j,k=j+2:=⟨k-2,by omega⟩
   have:=znt c d (q.take j);rw[show(c::d::q).take (j+2)=c::d::q.take j from rfl];have hl:(q.take j).length=j:=by rw[Q6];simp only[K7]at b;omega
   intro he;rcases this with h|h
   .omega
   .omega
 unfold refAt;rw[if_neg (fun h=>a h.2),K7];by_cases a2:n=2
 .grind
 .grind
def Agree (s:Str):Prop:=((dec s).1=65533/\(dec s).2=1/\(refAt s).2=0)\/(¬((dec s).1=65533/\(dec s).2=1)/\refAt s=dec s)
theorem zrv (c:UInt8) (r:Str) (hc:c.toNat<128):Agree (c::r):=by
 have b:(c<128)↔c.toNat<128:=lt8 c 128 (by omega);have a:dec (c::r)=(c.toNat,1):=by
  unfold dec;simp only[K8];rw[if_pos hc]
 have d:begins [c]=(c.toNat,1):=by
  unfold begins;simp only[and_true,b,hc,if_true]
 refine .inr ⟨by rw[a];simp only;omega,?_⟩;rw[a];unfold refAt;rw[show(c::r).take 1=[c]from rfl,d,if_pos ⟨by simp,rfl⟩]
theorem znv (c:UInt8) (r:Str) (hc:128<=c.toNat) (h:c.toNat<192\/248<=c.toNat):Agree (c::r):=by
 have hlt:c.toNat<256:=c.toNat_lt;have a:dec (c::r)=(65533,1):=by
  unfold dec;simp only[K8];have d:(c.toNat /32==6)=false:=by simp;omega
  have e:(c.toNat /16==14)=false:=by simp;omega
  have b:(c.toNat /8==30)=false:=by simp;omega
  rw[if_neg (by omega),d,e,b];simp
 refine .inl ⟨by rw[a],by rw[a],?_⟩;rw[zdu c r 0 (by omega) (by rw[zur _ h]) (.inr rfl) (by omega),if_neg (by omega)]
theorem zd9 (d:UInt8):(d.toNat /64==2)=isC d:=by
 have hlt:d.toNat<256:=d.toNat_lt;unfold isC;rw[X5];simp;omega
theorem zrw (c:UInt8) (r:Str) (h:192<=c.toNat/\c.toNat<224):Agree (c::r):=by
 have b:=zxr _ h;have a:=zdu c r 2 (by omega) (by rw[b]) (.inl (by omega)) (by omega);have j:(c.toNat /32==6)=true:=by simp;omega
 have k:(c.toNat /16==14)=false:=by simp;omega
 have i:(c.toNat /8==30)=false:=by simp;omega
 cases r with
 |nil=>
  have g:dec [c]=(65533,1):=by
   unfold dec;simp only[K8];rw[if_neg (by omega),j,k,i];simp
  exact .inl ⟨by rw[g],by rw[g],by rw[a,if_neg (by simp)]⟩
 |cons d q=>
  have l:begins ((c::d::q).take 2)=begins [c,d]:=rfl;have e:dec (c::d::q)=if isC d then(if 128<=c.toNat%32*64+d.toNat%64 then(c.toNat%32*64+d.toNat%64,2)else(65533,1))else(65533,1):=by
   unfold dec;simp only[K8,X7,K7];rw[if_neg (by omega),j,k,i,zd9];simp
  have f:begins [c,d]=if isC d then(if 128<=c.toNat%32*64+d.toNat%64 then(c.toNat%32*64+d.toNat%64,2)else(0,0))else(0,0):=by
   rw[zc0,b,if_neg (by simp),zcb];cases g:isC d with
   |false=>rfl
   |true=>
    have hd2:128<=d.toNat/\d.toNat<=191:=by simpa[isC]using g
    have m:64*(c.toNat-192)+(d.toNat-128)=c.toNat%32*64+d.toNat%64:=by omega
    simp only[if_true,goOn,Y1,V7,Y2,widen,m];by_cases hge:128<=c.toNat%32*64+d.toNat%64
    .grind
    .grind
  rw[l]at a;unfold Agree;rw[e,a,f];cases g:isC d with
  |false=>simp
  |true=>
   grind
end Utf
end Go.Proofs.YtpgmfihonmoliabGreatDoor
namespace Go.Proofs.YtpgmfihonmoliabGreatDoor
namespace Utf
theorem zjr (v:Nat):Utf8.valid (v:Int)=(decide (v<55296) || (decide (57344<=v) && decide (v<=1114111))):=by
 unfold Utf8.valid;rw[X5];simp only[W6,Y9,qqv];omega
theorem zkx (c:UInt8) (r:Str) (h:224<=c.toNat/\c.toNat<240):Agree (c::r):=by
 have b:=zru _ h;have a:=zdu c r 3 (by omega) (by rw[b]) (.inl (by omega)) (by omega);have o:(c.toNat /32==6)=false:=by simp;omega
 have p:(c.toNat /16==14)=true:=by simp;omega
 have l:(c.toNat /8==30)=false:=by simp;omega
 match r,a with
 | [],a=>
  have f:dec [c]=(65533,1):=by
   unfold dec;simp only[K8];rw[if_neg (by omega),o,p,l];simp
  exact .inl ⟨by rw[f],by rw[f],by rw[a,if_neg (by simp)]⟩
 | [d],a=>
  have f:dec [c,d]=(65533,1):=by
   unfold dec;simp only[K8];rw[if_neg (by omega),o,p,l];simp
  exact .inl ⟨by rw[f],by rw[f],by rw[a,if_neg (by simp)]⟩
 |d::e::q,a=>
  have t:begins ((c::d::e::q).take 3)=begins [c,d,e]:=rfl;obtain⟨v,s⟩:∃v,v=c.toNat%16*4096+d.toNat%64*64+e.toNat%64:=⟨_,rfl⟩
  have j:dec (c::d::e::q)=if isC d && isC e then(if 2048<=v/\(v<55296\/57343<v)then(v,3)else(65533,1))else(65533,1):=by
   unfold dec;simp only[K8,X7,K7];rw[if_neg (by omega),o,p,l,zd9,zd9,<-s];have g:decide (1<q.length+1+1+1)=true:=by simp
   have i:decide (2<q.length+1+1+1)=true:=by simp
   rw[g,i];simp only[W8,D1,W0,if_false];have m:v<=65535:=by omega
   cases hdd:isC d && isC e with
   |false=>simp
   |true=>
    simp only[if_true,zjr];by_cases hg:2048<=v/\(v<55296\/57343<v)
    .grind
    .grind
  have k:begins [c,d,e]=if isC d && isC e then(if 2048<=v/\(v<55296\/57343<v)then(v,3)else(0,0))else(0,0):=by
   rw[zc0,b,if_neg (by simp),zcb];cases f:isC d with
   |false=>rfl
   |true=>
    rw[if_pos rfl,zcb];cases he:isC e with
    |false=>rfl
    |true=>
     have hd2:128<=d.toNat/\d.toNat<=191:=by simpa[isC]using f
     have he2:128<=e.toNat/\e.toNat<=191:=by simpa[isC]using he
     have n:64*(64*(c.toNat-224)+(d.toNat-128))+(e.toNat-128)=v:=by omega
     have m:v<=65535:=by omega
     simp only[if_true,goOn,Y1,K7,V7,Y2,widen,n,D2];by_cases hg:2048<=v/\(v<55296\/57343<v)
     .grind
     .grind
  rw[t]at a;unfold Agree;rw[j,a,k];cases f:isC d && isC e with
  |false=>simp
  |true=>
   grind
theorem znw (c:UInt8) (r:Str) (h:240<=c.toNat/\c.toNat<248):Agree (c::r):=by
 have g:=zuq _ h;have b:=zdu c r 4 (by omega) (by rw[g]) (.inl (by omega)) (by omega);have s:(c.toNat /32==6)=false:=by simp;omega
 have t:(c.toNat /16==14)=false:=by simp;omega
 have p:(c.toNat /8==30)=true:=by simp;omega
 have a:r.length<3->Agree (c::r):=by
  intro hl;have m:dec (c::r)=(65533,1):=by
   unfold dec;simp only[K8,K7];rw[if_neg (by omega),s,t,p];have u:decide (3<r.length+1)=false:=by simp;omega
   rw[u];simp
  exact .inl ⟨by rw[m],by rw[m],by rw[b,if_neg (by omega)]⟩
 match r,b,a with
 | [],_,a=>exact a (by simp)
 | [_],_,a=>exact a (by simp)
 | [_,_],_,a=>exact a (by simp)
 |d::e::f::q,b,_=>
  have w:begins ((c::d::e::f::q).take 4)=begins [c,d,e,f]:=rfl;obtain⟨v,x⟩:∃v,v=c.toNat%8*262144+d.toNat%64*4096+e.toNat%64*64+f.toNat%64:=⟨_,rfl⟩
  have l:dec (c::d::e::f::q)=if isC d && isC e && isC f then(if 65536<=v/\v<=1114111 then(v,4)else(65533,1))else(65533,1):=by
   unfold dec;simp only[K8,X7,K7];rw[if_neg (by omega),s,t,p,zd9,zd9,zd9,<-x];have j:decide (1<q.length+1+1+1+1)=true:=by simp
   have i:decide (2<q.length+1+1+1+1)=true:=by simp
   have k:decide (3<q.length+1+1+1+1)=true:=by simp
   rw[j,i,k];simp only[W8,D1,W0,if_false];cases hdd:isC d && isC e && isC f with
   |false=>simp
   |true=>
    simp only[if_true,zjr];by_cases hg:65536<=v/\v<=1114111
    .grind
    .grind
  have n:begins [c,d,e,f]=if isC d && isC e && isC f then(if 65536<=v/\v<=1114111 then(v,4)else(0,0))else(0,0):=by
   rw[zc0,g,if_neg (by simp),zcb];cases m:isC d with
   |false=>rfl
   |true=>
    rw[if_pos rfl,zcb];cases he:isC e with
    |false=>rfl
    |true=>
     rw[if_pos rfl,zcb];cases hf:isC f with
     |false=>rfl
     |true=>
      have hd2:128<=d.toNat/\d.toNat<=191:=by simpa[isC]using m
      have he2:128<=e.toNat/\e.toNat<=191:=by simpa[isC]using he
      have hf2:128<=f.toNat/\f.toNat<=191:=by simpa[isC]using hf
      have o:64*(64*(64*(c.toNat-240)+(d.toNat-128))+(e.toNat-128))+(f.toNat-128)=v:=by omega
      simp only[if_true,goOn,Y1,K7,V7,Y2,widen,o,D2];by_cases hg:65536<=v/\v<=1114111
      .grind
      .grind
  rw[w]at b;unfold Agree;rw[l,b,n];cases m:isC d && isC e && isC f with
  |false=>simp
  |true=>
   grind
theorem agree (s:Str) (h:s≠[]):Agree s:=by
 cases s with
 |nil=>exact absurd rfl h
 |cons c r=>
  have hlt:c.toNat<256:=c.toNat_lt;by_cases h1:c.toNat<128
  .exact zrv c r h1
  .by_cases h2:c.toNat<192\/248<=c.toNat
   .exact znv c r (by omega) h2
   .by_cases h3:c.toNat<224
    .exact zrw c r (by omega)
    .by_cases h4:c.toNat<240
     .exact zkx c r (by omega)
     .exact znw c r (by omega)
end Utf
end Go.Proofs.YtpgmfihonmoliabGreatDoor
namespace Go.Proofs.YtpgmfihonmoliabGreatDoor
namespace Utf
end Utf
open _root_.Go.Proofs.Tryz
open _root_.Go.Lib (hid)
set_option maxRecDepth 100000
set_option maxHeartbeats 16000000
namespace Utf
open Go.RowKit
theorem byte_at {w:World} {B:Nat} {A:Option Addr} {l:Utf.Str} {k:Nat} (h:RowAt byteL w B A l) (hk:k<l.length):∃ad,A=some ad/\ad.block<B/\w.cell? (ad.add k)=some (.int .u8 ((l[k]).toNat:Int)):=by
 obtain⟨ad,a,c,b,_⟩:=h.get hk;refine⟨ad,a,c,?_⟩;have:=b (.int .u8 ((l[k]).toNat:Int)) rfl;rwa[show k*byteL.sz=k from Z5 k]at this
theorem zky (l:Utf.Str) (h1:l.length=1) (h0:0<l.length) (hq:(l[0]).toNat<128):Utf.begins l=((l[0]).toNat,1):=by
 cases l with
 |nil=>simp at h0
 |cons c r=>
  have a:r=[]:=by simpa using h1
  subst a;unfold Utf.begins;simp only;rw[if_pos ⟨UInt8.lt_iff_toNat_lt.2 (by simpa using hq),by trivial⟩];rfl
def begF (n lo mo len:Nat):Option Nat->Nat×Nat
 |none=>(0,0)
 |some x=>if(Utf.widen (n-len) (x,x)).2<lo\/(Utf.widen (n-len) (x,x)).1>mo\/((Utf.widen (n-len) (x,x)).1>=55296/\(Utf.widen (n-len) (x,x)).2<=57343)then(0,0)else((Utf.widen (n-len) (x,x)).1,n)
theorem zkz (l:Utf.Str) (h0:0<l.length) (hq:¬((l[0]).toNat<128/\l.length=1)) (n v lo mo:Nat) (hrow:Utf.rowOf (l[0]).toNat=(n,v,lo,mo)):
 Utf.begins l=if l.length>n then(0,0)else begF n lo mo l.length (Utf.goOn v (l.drop 1)):=by
 cases l with
 |nil=>simp at h0
 |cons c r=>
  unfold Utf.begins;simp only;rw[if_neg (fun h=>hq ⟨UInt8.lt_iff_toNat_lt.1 h.1,by simp[h.2]⟩)];have e:Utf.rowOf c.toNat=(n,v,lo,mo):=hrow;rw[e];simp only[K7,List.drop_succ_cons,List.drop_zero];by_cases hl:r.length+1>n
  .rw[if_pos hl,if_pos hl]
  .rw[if_neg hl,if_neg hl];cases Utf.goOn v r<;>rfl
theorem znx (l:Utf.Str) (A:Option Addr) (c B:Nat) (h1:l.length=1) (w:World) (hr:RowAt byteL w B A l) (h0:0<l.length) (hq:(l[0]).toNat<128):
 Calls prog 181 #[.slice A l.length c] w fun e w'=>e=.returned (.tuple #[.int .i64 ((l[0]).toNat:Int),.int .i64 1])/\w=w':=by
 obtain⟨d,rfl,_,b⟩:=byte_at hr h0;have b:w.cell? d=some (.int .u8 ((l[0]).toNat:Int)):=by simpa[Addr.add]using b
 obtain⟨q,a⟩:=ex ((l[0]).toNat)
 rw[a]at b hq;rw[a];have hqI:(q:Int)<128:=by omega
 rw[h1];clear hr a h1;go_enter func181,ntmps181;go_wp2;go_ret2;exact⟨rfl,rfl⟩
theorem zny (l:Utf.Str) (A:Option Addr) (c B:Nat) (h0:0<l.length) (h4:l.length<=4) (w:World) (hr:RowAt byteL w B A l) (hq:¬((l[0]).toNat<128/\l.length=1)) (R:Nat×Nat) (hR:Utf.begins l=R):
 Calls prog 181 #[.slice A l.length c] w fun e w'=>e=.returned (.tuple #[.int .i64 (R.1:Int),.int .i64 (R.2:Int)])/\w=w':=by
 obtain⟨ad,rfl,_,x0⟩:=byte_at hr h0;have x0:w.cell? ad=some (.int .u8 ((l[0]).toNat:Int)):=by simpa[Addr.add]using x0
 obtain⟨q,M⟩:=ex ((l[0]).toNat)
 have hq256:q<256:=by rw[<-M];exact UInt8.toNat_lt _
 obtain⟨n,v,r,p,a⟩:∃n v r p,Utf.rowOf q=(n,v,r,p):=⟨_,_,_,_,rfl⟩
 have V:=zkz l h0 hq n v r p (by rw[M];exact a);have f:Hid ((192<=q/\q<224/\n=2/\v=q-192/\r=128/\p=2047)\/(224<=q/\q<240/\n=3/\v=q-224/\r=2048/\p=65535)\/(240<=q/\q<248/\n=4/\v=q-240/\r=65536/\p=1114111)\/((q<192\/248<=q)/\n=0/\v=0/\r=0/\p=0)):=hid (by
  unfold Utf.rowOf at a;split at a
  .injection a with h1 h2;injection h2 with h2 h3;injection h3 with h3 h4;omega
  .split at a
   .injection a with h1 h2;injection h2 with h2 h3;injection h3 with h3 h4;omega
   .split at a
    .injection a with h1 h2;injection h2 with h2 h3;injection h3 with h3 h4;omega
    .injection a with h1 h2;injection h2 with h2 h3;injection h3 with h3 h4;omega)
 rw[hR]at V;rw[M]at x0 hq;have ah:=hid V;have au:=hid hr;have ap:(0:Int)<(l.length:Int):=by omega
 clear V hR M hr a;go_enter func181,ntmps181;go_upto_region 3 with fail;go_cut [23] (fun s23 C=>s23=.bool false/\C=w)
 case first=>
  by_cases h1:q<128
  .have H:(q:Int)<128:=by omega
   have J:¬((l.length:Int)=1):=by omega
   have S:((l.length:Int)==1)=false:=by simpa using J
   go_wp2;go_meet;exact⟨rfl,rfl⟩
  .have H:¬((q:Int)<128):=by omega
   have Q:decide ((q:Int)<128)=false:=by simpa using H
   go_wp2;go_meet;exact⟨rfl,rfl⟩
 case rest=>
 obtain⟨rfl,rfl⟩:=hcut;clear x0 hq ap;obtain⟨w,D⟩:∃w,w=wc:=⟨_,rfl⟩
 subst D;go_upto_region 5 with fail;obtain⟨t,O⟩:∃t,decide (192<=q/\q<224)=t:=⟨_,rfl⟩
 have j:=hid O;clear O;go_cut [30] (fun s30 C=>s30=.bool t/\C=w)
 case first=>
  by_cases h1:192<=q
  .have H:(192:Int)<=(q:Int):=by omega
   by_cases h2:q<224
   .have J:(q:Int)<224:=by omega
    have m:Hid (t=true):=hid (by rw[<-j.out];exact qqk ⟨h1,h2⟩);go_wp2;go_meet;exact⟨by rw[m.out],rfl⟩
   .have J:¬((q:Int)<224):=by omega
    have S:decide ((q:Int)<224)=false:=by simpa using J
    have m:Hid (t=false):=hid (by rw[<-j.out];exact qqx (fun h=>h2 h.2));go_wp2;go_meet;exact⟨by rw[m.out],rfl⟩
  .have H:¬((192:Int)<=(q:Int)):=by omega
   have Q:decide ((192:Int)<=(q:Int))=false:=by simpa using H
   have m:Hid (t=false):=hid (by rw[<-j.out];exact qqx (fun h=>h1 h.1));go_wp2;go_meet;exact⟨by rw[m.out],rfl⟩
 case rest=>
 obtain⟨rfl,rfl⟩:=hcut;obtain⟨w,D⟩:∃w,w=wc:=⟨_,rfl⟩
 subst D;go_upto_if 30 with fail;go_cut [5,6,7,8] (fun s5 s6 s7 s8 C=>∃n0 v0 l0 m0:Nat,s5=.int .i64 n0/\s6=.int .i64 v0/\s7=.int .i64 l0/\s8=.int .i64 m0/\Hid ((192<=q/\q<224->n0=n/\v0=v/\l0=r/\m0=p)/\(¬(192<=q/\q<224)->n0=0/\v0=0/\l0=0/\m0=0))/\C=w)
 case first=>
  cases t with
  |true=>
   have hb:=qqy j.out;have G:(q:Int)-192=((q-192:Nat):Int):=by omega
   have u:Hid ((192<=q/\q<224->2=n/\q-192=v/\128=r/\2047=p)/\(¬(192<=q/\q<224)->2=0/\q-192=0/\128=0/\2047=0)):=hid (by have:=f.out;omega);clear hb;go_wp2;go_meet;exact⟨2,q-192,128,2047,rfl,by rw[<-G],rfl,rfl,u,rfl⟩
  |false=>
   have u:Hid ((192<=q/\q<224->0=n/\0=v/\0=r/\0=p)/\(¬(192<=q/\q<224)->0=0/\0=0/\0=0/\0=0)):=hid (by have:=f.out;have:=qqz j.out;omega);go_wp2;go_meet
   first|exact⟨0,0,0,0,rfl,rfl,rfl,rfl,u,rfl⟩|exact⟨0,0,0,0,rfl,rfl,rfl,rfl,hid ⟨u.out.1,fun _=>⟨rfl,rfl,rfl,rfl⟩⟩,rfl⟩
 case rest=>
 obtain⟨n0,v0,l0,m0,rfl,rfl,rfl,rfl,H0,rfl⟩:=hcut;clear j t;obtain⟨w,D⟩:∃w,w=wc:=⟨_,rfl⟩
 subst D;go_upto_region 7 with fail;obtain⟨t,O⟩:∃t,decide (224<=q/\q<240)=t:=⟨_,rfl⟩
 have j:=hid O;clear O;go_cut [38] (fun s38 C=>s38=.bool t/\C=w)
 case first=>
  by_cases h1:224<=q
  .have H:(224:Int)<=(q:Int):=by omega
   by_cases h2:q<240
   .have J:(q:Int)<240:=by omega
    have m:Hid (t=true):=hid (by rw[<-j.out];exact qqk ⟨h1,h2⟩);go_wp2;go_meet;exact⟨by rw[m.out],rfl⟩
   .have J:¬((q:Int)<240):=by omega
    have S:decide ((q:Int)<240)=false:=by simpa using J
    have m:Hid (t=false):=hid (by rw[<-j.out];exact qqx (fun h=>h2 h.2));go_wp2;go_meet;exact⟨by rw[m.out],rfl⟩
  .have H:¬((224:Int)<=(q:Int)):=by omega
   have Q:decide ((224:Int)<=(q:Int))=false:=by simpa using H
   have m:Hid (t=false):=hid (by rw[<-j.out];exact qqx (fun h=>h1 h.1));go_wp2;go_meet;exact⟨by rw[m.out],rfl⟩
 case rest=>
 obtain⟨rfl,rfl⟩:=hcut;obtain⟨w,D⟩:∃w,w=wc:=⟨_,rfl⟩
 subst D;go_upto_if 38 with fail;go_cut [5,6,7,8] (fun s5 s6 s7 s8 C=>∃n1 v1 l1 m1:Nat,s5=.int .i64 n1/\s6=.int .i64 v1/\s7=.int .i64 l1/\s8=.int .i64 m1/\Hid ((192<=q/\q<240->n1=n/\v1=v/\l1=r/\m1=p)/\(¬(192<=q/\q<240)->n1=0/\v1=0/\l1=0/\m1=0))/\C=w)
 case first=>
  cases t with
  |true=>
   have hb:=qqy j.out;have G:(q:Int)-224=((q-224:Nat):Int):=by omega
   have u:Hid ((192<=q/\q<240->3=n/\q-224=v/\2048=r/\65535=p)/\(¬(192<=q/\q<240)->3=0/\q-224=0/\2048=0/\65535=0)):=hid (by have:=f.out;omega);clear hb;go_wp2;go_meet;exact⟨3,q-224,2048,65535,rfl,by rw[<-G],rfl,rfl,u,rfl⟩
  |false=>
   have u:Hid ((192<=q/\q<240->n0=n/\v0=v/\l0=r/\m0=p)/\(¬(192<=q/\q<240)->n0=0/\v0=0/\l0=0/\m0=0)):=hid (by have:=f.out;have:=qqz j.out;have:=H0.out;omega);go_wp2;go_meet
   first|exact⟨n0,v0,l0,m0,rfl,rfl,rfl,rfl,u,rfl⟩|exact⟨n0,v0,l0,m0,rfl,rfl,rfl,rfl,hid ⟨u.out.1,fun _=>⟨rfl,rfl,rfl,rfl⟩⟩,rfl⟩
 case rest=>
 obtain⟨n1,v1,l1,m1,rfl,rfl,rfl,rfl,H1,rfl⟩:=hcut;clear j t;obtain⟨w,D⟩:∃w,w=wc:=⟨_,rfl⟩
 subst D;go_upto_region 9 with fail;obtain⟨t,O⟩:∃t,decide (240<=q/\q<248)=t:=⟨_,rfl⟩
 have j:=hid O;clear O;go_cut [46] (fun s46 C=>s46=.bool t/\C=w)
 case first=>
  by_cases h1:240<=q
  .have H:(240:Int)<=(q:Int):=by omega
   by_cases h2:q<248
   .have J:(q:Int)<248:=by omega
    have m:Hid (t=true):=hid (by rw[<-j.out];exact qqk ⟨h1,h2⟩);go_wp2;go_meet;exact⟨by rw[m.out],rfl⟩
   .have J:¬((q:Int)<248):=by omega
    have S:decide ((q:Int)<248)=false:=by simpa using J
    have m:Hid (t=false):=hid (by rw[<-j.out];exact qqx (fun h=>h2 h.2));go_wp2;go_meet;exact⟨by rw[m.out],rfl⟩
  .have H:¬((240:Int)<=(q:Int)):=by omega
   have Q:decide ((240:Int)<=(q:Int))=false:=by simpa using H
   have m:Hid (t=false):=hid (by rw[<-j.out];exact qqx (fun h=>h1 h.1));go_wp2;go_meet;exact⟨by rw[m.out],rfl⟩
 case rest=>
 obtain⟨rfl,rfl⟩:=hcut;obtain⟨w,D⟩:∃w,w=wc:=⟨_,rfl⟩
 subst D;go_upto_if 46 with fail;go_cut [5,6,7,8] (fun s5 s6 s7 s8 C=>∃n2 v2 l2 m2:Nat,s5=.int .i64 n2/\s6=.int .i64 v2/\s7=.int .i64 l2/\s8=.int .i64 m2/\Hid ((192<=q/\q<248->n2=n/\v2=v/\l2=r/\m2=p)/\(¬(192<=q/\q<248)->n2=0/\v2=0/\l2=0/\m2=0))/\C=w)
 case first=>
  cases t with
  |true=>
   have hb:=qqy j.out;have G:(q:Int)-240=((q-240:Nat):Int):=by omega
   have u:Hid ((192<=q/\q<248->4=n/\q-240=v/\65536=r/\1114111=p)/\(¬(192<=q/\q<248)->4=0/\q-240=0/\65536=0/\1114111=0)):=hid (by have:=f.out;omega);clear hb;go_wp2;go_meet;exact⟨4,q-240,65536,1114111,rfl,by rw[<-G],rfl,rfl,u,rfl⟩
  |false=>
   have u:Hid ((192<=q/\q<248->n1=n/\v1=v/\l1=r/\m1=p)/\(¬(192<=q/\q<248)->n1=0/\v1=0/\l1=0/\m1=0)):=hid (by have:=f.out;have:=qqz j.out;have:=H1.out;omega);go_wp2;go_meet
   first|exact⟨n1,v1,l1,m1,rfl,rfl,rfl,rfl,u,rfl⟩|exact⟨n1,v1,l1,m1,rfl,rfl,rfl,rfl,hid ⟨u.out.1,fun _=>⟨rfl,rfl,rfl,rfl⟩⟩,rfl⟩
 case rest=>
 obtain⟨n2,v2,l2,m2,rfl,rfl,rfl,rfl,H2,rfl⟩:=hcut;clear j t;obtain⟨w,D⟩:∃w,w=wc:=⟨_,rfl⟩
 subst D;obtain⟨rfl,rfl,rfl,rfl⟩:n2=n/\v2=v/\l2=r/\m2=p:=by have:=f.out;have:=H2.out;omega
 have hn4:n2<=4:=by have:=f.out;omega
 have ae:v2<32:=by have:=f.out;omega
 have hlo:l2<=65536:=by have:=f.out;omega
 have hmo:m2<=1114111:=by have:=f.out;omega
 clear H0 H1 H2 f;by_cases hln:l.length>n2
 .have aa:(n2:Int)<(l.length:Int):=by omega
  have b:Hid (R=(0,0)):=hid (by have:=ah.out;rw[if_pos hln]at this;exact this);go_wp2;go_ret2;rw[b.out];exact⟨rfl,rfl⟩
 .have aa:¬((n2:Int)<(l.length:Int)):=by omega
  have U:Hid (R=begF n2 l2 m2 l.length (Utf.goOn v2 (l.drop 1))):=hid (by have:=ah.out;rw[if_neg hln]at this;exact this)
  skip
  go_wp2_with fail;go_loop [6,9] (fun s6 s9=>∃x i:Nat,1<=i/\i<=l.length/\s6=.int .i64 x/\s9=.int .i64 i/\x<32*64 ^ (i-1)/\Hid (Utf.goOn v2 (l.drop 1)=Utf.goOn x (l.drop i))) (fun _ s9=>l.length-(intOf s9).toNat)
  case atStart=>exact⟨v2,1,by omega,by omega,rfl,rfl,by simpa using ae,hid rfl⟩
  case round=>
   obtain⟨x,i,hi1,hil,rfl,rfl,W,N⟩:=hrel;have al:x<32*64 ^ 3:=U0 W (Z8 _ (Z4 (by omega) (by omega)));have al:x<=8388607:=by omega
   by_cases hlt:i<l.length
   .have aj:(i:Int)<(l.length:Int):=by omega
    obtain⟨ad',P,_,y0⟩:=byte_at au.out hlt;injection P with P
    subst P;have s:l.drop i=l[i]::l.drop (i+1):=Y5 hlt;obtain⟨d,hd⟩:=ex (l[i])
    rw[hd]at y0 s;obtain⟨g,K⟩:=ex d.toNat
    rw[K]at y0;have hd256:g<256:=by rw[<-K];exact UInt8.toNat_lt _
    have X:Utf.goOn x (l.drop i)=if g<128\/191<g then none else Utf.goOn (64*x+(g-128)) (l.drop (i+1)):=by
     rw[s,Utf.zcb];unfold Utf.isC;rw[K];by_cases h1:g<128\/191<g
     .rw[if_pos h1,if_neg (by simp;omega)]
     .rw[if_neg h1,if_pos (by simp;omega)]
    have T:Hid (Utf.goOn v2 (l.drop 1)=if g<128\/191<g then none else Utf.goOn (64*x+(g-128)) (l.drop (i+1))):=hid (N.out.trans X);clear X s hd K N;by_cases h1:g<128
    .have j1:(g:Int)<128:=by omega
     have b:Hid (R=(0,0)):=hid (by rw[U.out,T.out,if_pos (.inl h1)];rfl);go_wp2;go_ret2;rw[b.out];exact⟨rfl,rfl⟩
    .have j1:¬((g:Int)<128):=by omega
     have j1b:decide ((g:Int)<128)=false:=by simpa using j1
     by_cases h2:191<g
     .have j2:(191:Int)<(g:Int):=by omega
      have b:Hid (R=(0,0)):=hid (by rw[U.out,T.out,if_pos (.inr h2)];rfl);go_wp2;go_ret2;rw[b.out];exact⟨rfl,rfl⟩
     .have j2:¬((191:Int)<(g:Int)):=by omega
      have j2b:decide ((191:Int)<(g:Int))=false:=by simpa using j2
      have o:64 ^ (i+1-1)=64*64 ^ (i-1):=by
       rw[show i+1-1=(i-1)+1 from by omega,V8,D5]
      have F:Hid (64*x+(g-128)<32*64 ^ (i+1-1)):=hid (by rw[o];omega);have ab:Hid (Utf.goOn v2 (l.drop 1)=Utf.goOn (64*x+(g-128)) (l.drop (i+1))):=hid (by rw[T.out,if_neg (by omega)]);clear o;go_wp2;go_round
      case rel=>exact⟨64*x+(g-128),i+1,by omega,by omega,by go_num,by go_num,F.out,ab⟩
      case measure=>simp[intOf];omega
   .have aj:¬((i:Int)<(l.length:Int)):=by omega
    have I:i=l.length:=by omega
    have ag:R=if(Utf.widen (n2-l.length) (x,x)).2<l2\/(Utf.widen (n2-l.length) (x,x)).1>m2\/((Utf.widen (n2-l.length) (x,x)).1>=55296/\(Utf.widen (n2-l.length) (x,x)).2<=57343)then(0,0)else((Utf.widen (n2-l.length) (x,x)).1,n2):=by
     have h1:=N.out;rw[I,List.drop_length]at h1;have h1:Utf.goOn v2 (l.drop 1)=some x:=h1;rw[U.out,h1];rfl
    have ar:=hid ag;have aq:x<32*64 ^ (l.length-1):=by rw[<-I];exact W
    clear ag I N;go_wp2_with fail;go_loop [10,11,12] (fun s10 s11 s12=>∃y z k:Nat,l.length<=k/\k<=n2/\s10=.int .i64 y/\s11=.int .i64 z/\s12=.int .i64 k/\y<=z/\z<32*64 ^ (k-1)/\Hid (Utf.widen (n2-l.length) (x,x)=Utf.widen (n2-k) (y,z))) (fun _ _ s12=>n2-(intOf s12).toNat)
    case atStart=>exact⟨x,x,l.length,by omega,by omega,rfl,rfl,rfl,by omega,aq,hid rfl⟩
    case round=>
     obtain⟨y,z,k,hk1,hk2,rfl,rfl,rfl,hyz,am,L⟩:=hrel;have an:z<32*64 ^ 3:=U0 am (Z8 _ (Z4 (by omega) (by omega)));have an:z<=8388607:=by omega
     by_cases hkn:k<n2
     .have af:(k:Int)<(n2:Int):=by omega
      have o:64 ^ (k+1-1)=64*64 ^ (k-1):=by
       rw[show k+1-1=(k-1)+1 from by omega,V8,D5]
      have F:Hid (64*z+63<32*64 ^ (k+1-1)):=hid (by rw[o];omega);have ao:Hid (Utf.widen (n2-l.length) (x,x)=Utf.widen (n2-(k+1)) (64*y,64*z+63)):=hid (by
       rw[L.out,show n2-k=(n2-(k+1))+1 from by omega];rfl)
      clear o L;go_wp2;go_round
      case rel=>exact⟨64*y,64*z+63,k+1,by omega,by omega,by go_num,by go_num,by go_num,by omega,F.out,ao⟩
      case measure=>simp[intOf];omega
     .have af:¬((k:Int)<(n2:Int)):=by omega
      have Z:R=if z<l2\/y>m2\/(y>=55296/\z<=57343)then(0,0)else(y,n2):=by
       rw[ar.out,L.out,show n2-k=0 from by omega];rfl
      have E:=hid Z;clear Z L;by_cases t1:z<l2
      .have ac:(z:Int)<(l2:Int):=by omega
       have b:Hid (R=(0,0)):=hid (by rw[E.out,if_pos (.inl t1)]);go_wp2;go_ret2;rw[b.out];exact⟨rfl,rfl⟩
      .have ac:¬((z:Int)<(l2:Int)):=by omega
       have t1b:decide ((z:Int)<(l2:Int))=false:=by simpa using ac
       by_cases t2:m2<y
       .have Y:(m2:Int)<(y:Int):=by omega
        have b:Hid (R=(0,0)):=hid (by rw[E.out,if_pos (.inr (.inl t2))]);go_wp2;go_ret2;rw[b.out];exact⟨rfl,rfl⟩
       .have Y:¬((m2:Int)<(y:Int)):=by omega
        have t2b:decide ((m2:Int)<(y:Int))=false:=by simpa using Y
        by_cases t3:55296<=y
        .have ai:(55296:Int)<=(y:Int):=by omega
         by_cases t4:z<=57343
         .have ak:(z:Int)<=57343:=by omega
          have b:Hid (R=(0,0)):=hid (by rw[E.out,if_pos (.inr (.inr ⟨t3,t4⟩))]);go_wp2;go_ret2;rw[b.out];exact⟨rfl,rfl⟩
         .have ak:¬((z:Int)<=57343):=by omega
          have t4b:decide ((z:Int)<=57343)=false:=by simpa using ak
          have b:Hid (R=(y,n2)):=hid (by rw[E.out,if_neg (by omega)]);go_wp2;go_ret2;rw[b.out];exact⟨rfl,rfl⟩
        .have ai:¬((55296:Int)<=(y:Int)):=by omega
         have t3b:decide ((55296:Int)<=(y:Int))=false:=by simpa using ai
         have b:Hid (R=(y,n2)):=hid (by rw[E.out,if_neg (by omega)]);go_wp2;go_ret2;rw[b.out];exact⟨rfl,rfl⟩
theorem znz (l:Utf.Str) (A:Option Addr) (c B:Nat) (h0:0<l.length) (h4:l.length<=4) (w:World) (hr:RowAt byteL w B A l) (R:Nat×Nat) (hR:Utf.begins l=R):
 Calls prog 181 #[.slice A l.length c] w fun e w'=>e=.returned (.tuple #[.int .i64 (R.1:Int),.int .i64 (R.2:Int)])/\w=w':=by
 by_cases h1:(l[0]).toNat<128/\l.length=1
 .rw[<-hR,zky l h1.2 h0 h1.1];exact znx l A c B h1.2 w hr h0 h1.1
 .exact zny l A c B h0 h4 w hr h1 R hR
def atC (r:Utf.Str) (k:Nat):Prop:=k<=r.length/\(Utf.begins (r.take k)).2=k
theorem zus (r:Utf.Str) (k:Nat) (h1:1<=k) (h4:k<=4) (hk:atC r k) (hno:∀j,1<=j->j<k->¬atC r j):Utf.refAt r=Utf.begins (r.take k):=by
 unfold Utf.refAt;unfold atC at hk hno;rcases(by omega:k=1\/k=2\/k=3\/k=4)with rfl|rfl|rfl|rfl
 .rw[if_pos hk]
 .rw[if_neg (hno 1 (by omega) (by omega)),if_pos hk]
 .rw[if_neg (hno 1 (by omega) (by omega)),if_neg (hno 2 (by omega) (by omega)),if_pos hk]
 .rw[if_neg (hno 1 (by omega) (by omega)),if_neg (hno 2 (by omega) (by omega)),if_neg (hno 3 (by omega) (by omega)),if_pos hk]
theorem zgs (r:Utf.Str) (hno:∀j,1<=j->j<=4->¬atC r j):Utf.refAt r=(0,0):=by
 unfold Utf.refAt;unfold atC at hno;rw[if_neg (hno 1 (by omega) (by omega)),if_neg (hno 2 (by omega) (by omega)),if_neg (hno 3 (by omega) (by omega)),if_neg (hno 4 (by omega) (by omega))]
theorem zjs (s:Utf.Str):byteL.all s=s.map (fun b=>Value.int .u8 (b.toNat:Int)):=by
 induction s with
 |nil=>rfl
 |cons c s ih=>simp only[Lay.all,List.flatMap_cons,D0]at *;rw[ih];rfl
theorem zut (s:Utf.Str) (w:World):∃w1 cap,(convert 9 80 (.string ⟨s.toArray⟩)).run prog w=.ok (.slice (some ⟨w.heap.size,0,none⟩) s.length cap) w1/\Below w.heap.size w w1/\RowAt byteL w1 w1.heap.size (some ⟨w.heap.size,0,none⟩) s/\s.length<=cap:=by
 have h:=run_bytes_of_string (P:=prog) w 9 80 5 ⟨s.toArray⟩ underlying9 underlying80 underlying5;have d:(⟨s.toArray⟩:ByteArray).size=s.length:=by simp[ByteArray.size]
 rw[d]at h;refine⟨_,_,h,?_,?_,?_⟩
 .exact((K3 _ _).drew).alloc (K1 _) _
 .refine⟨byteL.all_len s,fun _=>⟨_,rfl,?_,?_⟩⟩
  .rw[K5];exact Nat.lt_succ_self _
  .intro j u a;rw[zjs]at a;have f:j<s.length:=by
    have:=(V0.1 a).1;simpa using this
   have e:(⟨w.heap.size,0,none⟩:Addr).add j=⟨w.heap.size,j,none⟩:=by
    unfold Addr.add;by_cases h0:j=0
    .simp[h0]
    .simp[h0]
   rw[e];have b:∀C fr,(w.drew.alloc (.cells C 5 fr)).cell? ⟨w.heap.size,j,none⟩=C[j]? :=fun C fr=>by
    have c:(w.drew.alloc (.cells C 5 fr)).heap[w.heap.size]? =some (.cells C 5 fr):=heap_alloc_new w.drew _;unfold World.cell?;rw[c];rfl
   rw[b];unfold bytesRow;rw[Array.getElem?_append_left (by simpa using f)];simpa using a
 .exact grownCap_ge w s.length 0 5
theorem zuu {w:World} {B g a k:Nat} {s:Utf.Str} (h:RowAt byteL w B (some ⟨g,0,none⟩) s) (hk:a+k<=s.length) (h0:0<k):RowAt byteL w B (some ⟨g,a,none⟩) ((s.drop a).take k):=by
 obtain⟨ad,e,f,c⟩:=h.2 (by omega);injection e with e
 subst e;refine⟨byteL.all_len _,fun _=>⟨_,rfl,f,fun j u b=>?_⟩⟩;rw[zjs]at b c;have d:j<k:=by
  have:=(V0.1 b).1;simp at this;omega
 have l:=c (a+j) u (by
  rw[List.getElem?_map]at b ⊢;rw[<-b,List.getElem?_take_of_lt d,List.getElem?_drop])
 have i:(⟨g,0,none⟩:Addr).add (a+j)=⟨g,a+j,none⟩:=by
  unfold Addr.add;by_cases h0:a+j=0
  .rw[if_pos h0,h0]
  .rw[if_neg h0];simp
 have m:(⟨g,a,none⟩:Addr).add j=⟨g,a+j,none⟩:=by
  unfold Addr.add;by_cases h0:j=0
  .rw[if_pos h0,h0];rfl
  .rw[if_neg h0]
 rw[m,<-i];exact l
theorem zzh (s:Utf.Str) (a:Nat) (ha:a<s.length) (hs:s.length<=1073741823) (w:World) (R:Nat×Nat) (hR:Utf.refAt (s.drop a)=R):
 Calls prog 155 #[.string ⟨s.toArray⟩,.int .i64 a] w fun e w'=>e=.returned (.tuple #[.int .i64 (R.1:Int),.int .i64 (R.2:Int)])/\Below w.heap.size w w':=by
 have u:=hid hR;clear hR;obtain⟨D,b,r,q,d,hcap⟩:=zut s w;have l:=hid q;have y:=hid d;clear q d;go_enter func155,ntmps155;have hne:¬(b=a):=by omega
 have hne':¬(a=b):=by omega
 have hcapI:(s.length:Int)<=(b:Int):=by omega
 go_wp2_with fail;clear r;go_loop [7] (fun s7=>∃k:Nat,1<=k/\k<=5/\s7=.int .i64 k/\Hid (∀j,1<=j->j<k->¬atC (s.drop a) j)) (fun s7=>5-(intOf s7).toNat)
 case atStart=>exact⟨1,by omega,by omega,rfl,hid (fun j o t=>by omega)⟩
 case round=>
  obtain⟨k,B,hk5,rfl,c⟩:=hrel;by_cases hk4:k<=4
  .have f:(k:Int)<=4:=by omega
   by_cases hkl:a+k<=s.length
   .have g:(a:Int)+(k:Int)<=(s.length:Int):=by omega
    have hklC:(a:Int)+(k:Int)<=(b:Int):=by omega
    have haI:(a:Int)<=(a:Int)+(k:Int):=by omega
    have p:((s.drop a).take k).length=k:=by rw[Q6,Q4];omega
    obtain⟨Q,v⟩:=ex (Utf.begins ((s.drop a).take k))
    have n:=znz ((s.drop a).take k) (some ⟨w.heap.size,a,none⟩) (b-a) D.heap.size (by omega) (by omega) D (zuu y.out hkl (by omega)) Q v;rw[p]at n;have z:=hid n;have A:=hid v;clear n p v;go_wp2_with fail;refine z.out.mono ?_;rintro e w2 ⟨rfl,rfl⟩;by_cases hq:Q.2=k
    .have m:(Q.2:Int)=(k:Int):=by omega
     have x:((Q.2:Int)==(k:Int))=true:=by simpa using m
     have C:Hid (R=(Q.1,k)):=hid (by
      rw[<-u.out,<-hq,show(Q.1,Q.2)=Q from rfl,<-A.out];exact zus (s.drop a) k B hk4 ⟨by rw[Q4];omega,by rw[A.out,hq]⟩ c.out)
     clear hq;go_wp2;go_ret2;exact⟨by rw[C.out];rfl,l.out⟩
    .have m:¬((Q.2:Int)=(k:Int)):=by omega
     have x:((Q.2:Int)==(k:Int))=false:=by simpa using m
     go_wp2;go_round
     case rel=>exact⟨k+1,by omega,by omega,by go_num,hid (fun j o t=>by
      by_cases e:j=k
      .subst e;rintro⟨_,i⟩;rw[A.out]at i;exact hq i
      .exact c.out j o (by omega))⟩
     case measure=>simp[intOf];omega
   .have g:¬((a:Int)+(k:Int)<=(s.length:Int)):=by omega
    have hklb:decide ((a:Int)+(k:Int)<=(s.length:Int))=false:=by simpa using g
    have h:Hid (R=(0,0)):=hid (by
     rw[<-u.out];refine zgs _ (fun j o t i=>?_);by_cases hjk:j<k
     .exact c.out j o hjk i
     .have:=i.1;rw[Q4]at this;omega)
    go_wp2;go_ret2;exact⟨by rw[h.out];rfl,l.out⟩
  .have f:¬((k:Int)<=4):=by omega
   have hk4b:decide ((k:Int)<=4)=false:=by simpa using f
   have h:Hid (R=(0,0)):=hid (by
    rw[<-u.out];exact zgs _ (fun j o t i=>c.out j o (by omega) i))
   go_wp2;go_ret2;exact⟨by rw[h.out];rfl,l.out⟩
def runeL:Lay Int:={enc:=fun x=>[.int .i32 x],sz:=1,len:=fun _=>rfl,one:=fun x u hu=>by simp at hu;subst hu;rfl,pos:=by omega}
theorem runeT:SliceT prog runeL 160 21 4:=zb3 runeL 160 21 (.int .i32 0) 4 underlying160 (by kernel_rfl) rfl (by omega)
def badN (s:Utf.Str):Int:=match Utf.bad s with
 |some a=>(a:Int)
 |none=>-1
theorem zuv (s:Utf.Str) (a:Nat) (ha:a<s.length) (R:Nat×Nat) (hR:Utf.refAt (s.drop a)=R) (h:Utf.bad s=Utf.badU (s.drop a).length (s.drop a) a):
 (R.2=0->Utf.bad s=some a)/\(R.2≠0->a+R.2<=s.length/\R.2<=4/\Utf.bad s=Utf.badU (s.drop (a+R.2)).length (s.drop (a+R.2)) (a+R.2)):=by
 have g:s.drop a=s[a]::s.drop (a+1):=Y5 ha;have d:s.drop a≠[]:=by rw[g];exact List.cons_ne_nil _ _
 have hw:=Utf.zig (s.drop a);have j:=Utf.dec_len (s.drop a) d;rw[Q4]at j;have k:∀n,Utf.badU (n+1) (s.drop a) a=if(Utf.dec (s.drop a)).1=65533/\(Utf.dec (s.drop a)).2=1 then some a else Utf.badU n ((s.drop a).drop (Utf.dec (s.drop a)).2) (a+(Utf.dec (s.drop a)).2):=by
  intro n;rw[g];rfl
 have c:(s.drop a).length=(s.length-a-1)+1:=by rw[Q4];omega
 rw[c,k]at h;rcases Utf.agree (s.drop a) d with⟨e,b,i⟩|⟨e,b⟩
 .rw[if_pos ⟨e,b⟩]at h;rw[hR]at i;exact⟨fun _=>h,fun f=>absurd i f⟩
 .rw[if_neg e]at h;rw[hR]at b;refine⟨fun f=>?_,fun _=>⟨by rw[b];omega,by rw[b];omega,?_⟩⟩
  .rw[b]at f;omega
  .rw[h,b,W7];exact Utf.zoy _ _ _ _ (by rw[Q4];omega) (K1 _)
theorem zn0 (s:Utf.Str) (hs:s.length<=1073741823) (w:World):
 Calls prog 124 #[.string ⟨s.toArray⟩] w fun e w'=>Below w.heap.size w w'/\∃v,e=.returned (.tuple #[v,.int .i64 (badN s)]):=by
 go_enter func124,ntmps124;go_wp2_with fail;go_loopw [4,5] (fun s4 s5 wr=>∃(v:Value) (l:List Int) (a:Nat),a<=s.length/\l.length<=a/\s5=.int .i64 a/\v=s4/\Hid (OwnRow runeL wr w.heap.size 21 v l)/\Below w.heap.size w wr/\Hid (Utf.bad s=Utf.badU (s.drop a).length (s.drop a) a))
  (fun _ s5 _=>s.length-(intOf s5).toNat)
 case atStart=>exact⟨_,[],0,by omega,by simp,rfl,rfl,hid D3,K3 _ _,hid rfl⟩
 case round=>
  obtain⟨v,l,a,ha,hla,rfl,rfl,f,q,b⟩:=hrel;by_cases hlt:a<s.length
  .have n:(a:Int)<(s.length:Int):=by omega
   obtain⟨R,z⟩:=ex (Utf.refAt (s.drop a))
   have t:=hid (zzh s a hlt hs wr R z);have D:=hid z;have p:=hid q;clear z q;go_wp2_with fail;refine t.out.mono ?_;rintro e E ⟨rfl,j⟩;have d:Hid (Below w.heap.size w E):=hid (p.out.trans (j.mono p.out.size));have o:=hid (f.out.later j);obtain⟨g,k⟩:=zuv s a hlt R D.out b.out;clear j f;by_cases h0:R.2=0
   .have i:(R.2:Int)=0:=by omega
    have u:((R.2:Int)==0)=true:=by simpa using i
    have y:Hid (badN s=(a:Int)):=hid (by unfold badN;rw[g h0]);clear g k h0;go_wp2;go_ret2;exact⟨d.out,_,by rw[y.out];rfl⟩
   .have i:¬((R.2:Int)=0):=by omega
    have u:((R.2:Int)==0)=false:=by simpa using i
    obtain⟨s1,s2,s3⟩:=k h0;have A:=hid s3;obtain⟨x,hx⟩:=ex (IntKind.i32.wrap (R.1:Int))
    clear g k s3 h0;go_wp2_with (at_builtin;go_must (refine zab _ rfl (.tmp 22) (.tmp 25) 160 21 4 rfl runeT w.heap.size v l rfl (o.out.alloc _) _ _ 1 [x] rfl (U6 _ _ rfl _ ?_) ?_ ?_ ?_))
    .rfl
    .simp;omega
    .rw[K5];have:=d.out.size;omega
    intro F C c m _;have B:Hid (Below w.heap.size w C):=hid ((d.out.alloc d.out.size _).trans ((o.out.alloc _).grown_below m (by rw[K5];have:=d.out.size;omega)));have r:=hid c;clear c m;go_wp2;go_roundw
    case rel=>exact⟨F,l++[x],a+R.2,by omega,by simp;omega,by go_num,rfl,r,B.out,A⟩
    case measure=>simp[intOf];omega
  .have n:¬((a:Int)<(s.length:Int)):=by omega
   have y:Hid (badN s=-1):=hid (by
    have h:=b.out;rw[List.drop_of_length_le (by omega)]at h;have h:Utf.bad s=none:=h;unfold badN;rw[h])
   have p:=hid q;clear q b;go_wp2;go_ret2;exact⟨p.out,_,by rw[y.out];rfl⟩
theorem zzi (s:Utf.Str) (hs:s.length<=1073741823) (w:World) (r:Bool) (hr:decide (Utf.bad s=none)=r):
 Calls prog 94 #[.string ⟨s.toArray⟩] w fun e w'=>e=.returned (.bool r)/\Below w.heap.size w w':=by
 obtain⟨x,c⟩:=ex (badN s)
 have d:=hid (zn0 s hs w);have b:decide (x<0)=r:=by
  rw[<-c,<-hr];unfold badN;cases Utf.bad s with
  |none=>rfl
  |some a=>simp
 rw[c]at d;clear c hr;go_enter func94,ntmps94;go_wp2_with fail;refine d.out.mono ?_;rintro e w2 ⟨f,v,rfl⟩;have g:=hid f;clear f;go_wp2;go_ret;exact⟨by rw[<-b];rfl,g.out⟩
end Utf
end Go.Proofs.YtpgmfihonmoliabGreatDoor
