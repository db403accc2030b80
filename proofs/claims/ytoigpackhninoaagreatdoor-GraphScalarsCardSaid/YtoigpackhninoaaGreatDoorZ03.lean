import Derived.Test.YtoigpackhninoaaGreatDoorZ02
import Derived.StillTail
import Derived.Lib.TrailingZeros
namespace Go.Proofs.YtoigpackhninoaaGreatDoor
open Go.RowKit
structure WB (B:Nat) (w0:World) where
 w:World
 h:Below B w0 w
instance WB.inst (B:Nat) (w0:World):Nonempty (WB B w0):=⟨⟨w0,Below.refl _ _⟩⟩
theorem zaa {P:Program} {id:Nat} {Q:Exit->Act->World->Prop} {a:Act} {w:World} {l:List Oper} (B:Nat) (w0:World) (hm:P.follows .mixedOrders=true) (hB:Region.lexB .any l.toArray=true) (h0:Below B w0 w)
 (h:wpQuiet P l.toArray (fun W=>∃x:WB B w0,W=x.w) (fun a'=>∀W,(∃x:WB B w0,W=x.w)->Q .normal a' W) l a):(Code.region id l.toArray true).wp P Q a w:=
 wp_region_quiet (C:=fun W=>∃x:WB B w0,W=x.w) hm hB ⟨⟨_,below_drewN h0 1⟩,rfl⟩ (by simpa using h)
theorem Calls.grow {P:Program} {f:FuncId} {args:Array Value} {B:Nat} {w0:World} {x:WB B w0} {v:Value} (h:Calls P f args x.w fun e w'=>e=.returned v/\Below B w0 w'):
 Calls P f args x.w fun e w''=>e=.returned v/\∃y:WB B w0,w''=y.w:=h.mono fun _ _ ⟨he,hb⟩=>⟨he,⟨_,hb⟩,rfl⟩
section
variable {P:Program} {ops:Array Oper} {md:Region.Mode} {C:World->Prop}
def wpAnyLQ (P:Program) (md:Region.Mode) (ops:Array Oper) (C:World->Prop) (n:Nat) (L:Array Bool->Act->Prop):Nat->Array Bool->Act->Prop
 | 0,listed,a=>L listed a
 |f+1,listed,a=>Region.ready md ops listed≠[]/\∀i∈Region.ready md ops listed,i<n/\qOp P ops C i (wpAnyLQ P md ops C n L f (listed.setIfInBounds i true)) a
theorem zcf {n g:Nat} {L:Array Bool->Act->Prop} {Q':Exit->Act->World->Prop} (hL:∀listed a w,C w->L listed a->wpAny P md ops Q' g listed a w):
 ∀(f:Nat) (listed:Array Bool) (a:Act) (w:World),C w->wpAnyLQ P md ops C n L f listed a->wpAny P md ops Q' (f+g) listed a w
 | 0,listed,a,w,hC,h=>by rw[Nat.zero_add];exact hL _ _ _ hC h
 |f+1,listed,a,w,hC,h=>by
  rw[show f+1+g=(f+g)+1 by omega];exact⟨fun h0=>absurd h0 h.1,fun i hi=>wpOp_of_qOp hC (fun a' w' hw' h'=>zcf hL f _ a' w' hw' h') (h.2 i hi).2⟩
theorem zfh {n i:Nat} {oi:Oper} {v:Value} {L:Array Bool->Act->Prop} (hi:ops[i]? =some oi) (hsel:∀(j:Nat) (o:Oper) cs b,ops[j]? =some o->o.op≠.select cs b)
 (hs:Region.sinkB md ops n=true) (hc:Region.chainB md ops n=true) (hn:n<ops.size) (hin:i<n)
 (hdone:∀listed a,L listed a->∀j∈Region.ready md ops listed,n<=j):
 ∀(f:Nat) (listed:Array Bool) (a:Act),HeadInv md ops n listed->
  (∀j oj,ops[j]? =some oj->j≠i->listed.getD j true=false->(∀e∈oj.after,Region.binds md e=true->e.on≠i)->oi.apart ops oj=true)->
  i∈Region.ready md ops listed->YieldsIn P ops C oi v a->
  wpAnyLQ P md ops C n L f (listed.setIfInBounds i true) (a.put oi.dst v)->wpAnyLQ P md ops C n L (f+1) listed a:=by
 intro f
 induction f with
 |zero=>
  intro listed a inv _ hr hy H;have hun:=(mem_ready.1 hr).1;refine⟨fun h=>(by rw[h]at hr;cases hr),fun j hj=>?_⟩;have hjn:j<n:=by
   rcases Nat.lt_or_ge j n with h|h
   ·exact h
   ·exact absurd hj (tail_waits hs hc hn inv _ i rfl hin hun j h)
  refine⟨hjn,?_⟩;by_cases hji:j=i
  ·subst hji;exact hy.qOp hi H
  ·have:=hdone _ _ H j (ready_mono hj hji);omega
 |succ f ih=>
  intro listed a inv hfree hr hy H;have hun:=(mem_ready.1 hr).1;refine⟨fun h=>(by rw[h]at hr;cases hr),fun j hj=>?_⟩;have hjn:j<n:=by
   rcases Nat.lt_or_ge j n with h|h
   ·exact h
   ·exact absurd hj (tail_waits hs hc hn inv _ i rfl hin hun j h)
  refine⟨hjn,?_⟩;by_cases hji:j=i
  ·subst hji;exact hy.qOp hi H
  ·have h1:=(H.2 j (ready_mono hj hji)).2;obtain⟨hjun,oj,hoj,hall⟩:=mem_ready.1 hj;have hnot:∀e∈oj.after,Region.binds md e=true->e.on≠i:=fun e he hb heq=>by
    grind
   have h2:=qOp_put hoj (hfree j oj hoj hji hjun hnot) (fun cs b=>hsel i oi cs b hi) (fun cs b=>hsel j oj cs b hoj) hy h1;have hfree':∀k ok,ops[k]? =some ok->k≠i->(listed.setIfInBounds j true).getD k true=false->
    (∀e∈ok.after,Region.binds md e=true->e.on≠i)->oi.apart ops ok=true:=fun k ok hk hki hun hno=>by
    refine hfree k ok hk hki ?_ hno;by_cases hjk:j=k
    ·subst hjk;exact hjun
    ·rw[getD_set_ne true hjk]at hun;exact hun
   refine qOp_mono (fun a' h3=>ih (listed.setIfInBounds j true) a' (inv.set hj hjn) hfree' (ready_mono hr (Ne.symm hji)) h3.1 ?_) h2;rw[Array.setIfInBounds_comm _ _ hji];exact h3.2
theorem zd8 {n g:Nat} {Lq:Act->Prop} (hsel:Region.noSelect ops=true) (hs:Region.sinkB md ops n=true) (hc:Region.chainB md ops n=true) (hn:n<ops.size):
 ∀(l:List Oper) (k:Nat) (listed:Array Bool) (a:Act),(∀j,j<l.length->l[j]? =ops[k+j]?)->k+l.length=n->HeadInv md ops n listed->
 Region.lexHead md ops g l.length k listed=true->wpQuiet P ops C Lq l a->
 wpAnyLQ P md ops C n (fun listed' a'=>Region.seqB md ops g n listed'=true/\Lq a') l.length listed a
 | [],k,listed,a,_,hk,_,hB,h=>by
  have:k=n:=by simpa using hk
  subst this;exact⟨by simpa[Region.lexHead]using hB,h⟩
 |o::l,k,listed,a,hl,hk,inv,hB,h=>by
  have h0:ops[k]? =some o:=by simpa using(hl 0 (by simp)).symm
  simp only[List.length_cons,Region.lexHead,Bool.and_eq_true]at hB;obtain⟨⟨hr,hf⟩,hB'⟩:=hB;have hkn:k<n:=by simp only[List.length_cons]at hk;omega
  have hr':k∈Region.ready md ops listed:=by simpa using hr
  have hst:qOp P ops C k (wpQuiet P ops C Lq l) a:=by unfold qOp;simp only[h0];exact h
  obtain⟨v,hy,hK⟩:=yieldsIn_of_qOp h0 hst;exact zfh h0 (Region.noSelect_spec hsel) hs hc hn hkn (fun listed' a' hL=>seqB_ready hL.1) l.length listed a inv (Region.free_spec h0 hf) hr' hy
   (zd8 hsel hs hc hn l (k+1) _ _ (fun j hj=>by have:=hl (j+1) (by simp;omega);simpa[Nat.add_assoc,Nat.add_comm 1 j]using this) (by simp only[List.length_cons]at hk;omega) (inv.set hr' hkn) hB' hK)
theorem zce {id:Nat} {Q:Exit->Act->World->Prop} {a:Act} {w:World} {l:List Oper} (n:Nat) (hm:P.follows .mixedOrders=true) (hB:Region.lexTailB .any l.toArray n=true) (hC:C {w with drawn:=w.drawn+1})
 (h:wpQuiet P l.toArray C (fun a'=>∀W,C W->wpList P l.toArray Q (l.drop n) a' W) (l.take n) a):(Code.region id l.toArray true).wp P Q a w:=by
 simp only[Region.lexTailB,Bool.and_eq_true,decide_eq_true_eq]at hB;obtain⟨⟨⟨⟨hsel,hn⟩,hs⟩,hc⟩,hlex⟩:=hB;have hn':n<l.length:=by simpa using hn
 have htl:(l.take n).length=n:=by simp;omega
 have hdl:(l.drop n).length=l.toArray.size-n:=by simp
 have inv0:HeadInv .any l.toArray n (Array.replicate l.toArray.size false):=
  ⟨by simp,fun j oj _ hl=>(by rw[getD_replicate_false]at hl;cases hl),fun t _ ht=>getD_in (by simpa using ht) (getD_replicate_false _ _)⟩
 have H:=zd8 (md:=.any) (g:=l.toArray.size-n) hsel hs hc hn (l.take n) 0 _ a (fun j hj=>by
  have hj':j<n:=by rw[htl]at hj;exact hj
  simp[hj']) (by simpa using htl) inv0 (by rw[htl];exact hlex) h
 refine wp_region_any hm ?_;have:=zcf (Q':=Q) (g:=l.toArray.size-n) (fun listed a' w' hw' hL=>by
  have:=wpAny_of_seq (md:=.any) (Q':=Q) (l.drop n) n listed a' w' (fun j=>by simp[List.getElem?_drop]) (by rw[hdl];exact hL.1) (hL.2 w' hw');rwa[hdl]at this) _ _ _ _ hC H
 rw[htl,show n+(l.toArray.size-n)=l.toArray.size by omega]at this;exact this
end
theorem zbe {P:Program} {id:Nat} {Q:Exit->Act->World->Prop} {a:Act} {w:World} {l:List Oper} (n:Nat) (B:Nat) (w0:World) (hm:P.follows .mixedOrders=true) (hB:Region.lexTailB .any l.toArray n=true) (h0:Below B w0 w)
 (h:wpQuiet P l.toArray (fun W=>∃x:WB B w0,W=x.w) (fun a'=>∀W,(∃x:WB B w0,W=x.w)->wpList P l.toArray Q (l.drop n) a' W) (l.take n) a):(Code.region id l.toArray true).wp P Q a w:=
 zce (C:=fun W=>∃x:WB B w0,W=x.w) n hm hB ⟨⟨_,below_drewN h0 1⟩,rfl⟩ h
open Gr
open _root_.Go.Proofs.Tryz
open _root_.Go.Lib (hid)
set_option maxRecDepth 100000
set_option maxHeartbeats 16000000
def CutSl (A:Option Addr) (c:Nat) (w:World) (e:Ending) (w':World):Prop:=∃n,e=.returned (.slice A n c)/\w'=w
theorem zoq (A:Option Addr) (c:Nat) (l:List UInt8) (hl:l.length<=1073741823) (hc:l.length<=c) (w:World) (B:Nat) (h:RowAt byteL w B A l):
 Calls prog 106 #[.slice A l.length c] w (CutSl A c w):=by
 go_enter func106,ntmps106;go_wp2_with fail;go_loop [0] (fun s0=>∃k:Nat,k<=l.length/\s0=.slice A k c) (fun s0=>match s0 with| .slice _ n _=>n|_=>0)
 case atStart=>exact⟨_,Nat.le_refl _,rfl⟩
 case round=>
  obtain⟨k,hk,rfl⟩:=hrel;by_cases h0:0<k
  ·obtain⟨j,rfl⟩:∃j,k=j+1:=⟨k-1,by omega⟩
   have hcut:=fun W=>zgf A (j+1) c j (by omega) W
   obtain⟨ad,rfl,_,y0⟩:=zsw h (show j<l.length by omega);obtain⟨b,hb⟩:∃b:Nat,(l[j]'(by omega)).toNat=b:=⟨_,rfl⟩
   rw[hb]at y0;have hbl:b<256:=by rw[<-hb];exact(l[j]'(by omega)).toNat_lt
   clear hb;by_cases hz:b=0
   ·subst hz;go_wp2;go_round
    case rel=>exact⟨j,by omega,rfl⟩
    case measure=>simp
   ·have hz1:¬((b:Int)=0):=by omega
    have hz2:((b:Int)==0)=false:=by simpa using hz1
    go_wp2;go_ret;exact⟨_,rfl,rfl⟩
  ·obtain rfl:k=0:=by omega
   go_wp2;go_ret;exact⟨_,rfl,rfl⟩
def zri (ok:Bool) (w:World) (e:Ending) (w':World):Prop:=∃b A n c,e=.returned (.tuple #[.agg #[.bool b,.slice A n c],.bool ok])/\Below w.heap.size w w'
theorem zhs (n:Gr.Str) (hl:n.length<=1073741823) (w:World):
 Calls prog 88 #[.string ⟨n.toArray⟩] w (zri (intB n) w):=by
 obtain⟨s,hs⟩:=ex (intS n)
 have HIB:Hid (intB n=if s.length=0\/s.length>400\/(s.head?=some 48/\n.length>1)then false else s.all Gr.dig):=hid (by unfold intB;rw[hs]);have hsn:s.length<=n.length:=by rw[<-hs];unfold intS;split<;>simp
 have hsl:s.length<=1073741823:=by omega
 have HSE:=hid hs;obtain⟨sg,hsg⟩:∃sg,decide (n.length>1/\n.head?=some 45)=sg:=⟨_,rfl⟩
 have HSG:=hid hsg;clear hs hsn hsg;go_enter func88,ntmps88;go_upto_region 3 with fail;obtain⟨w0,hw0⟩:=ex ((w.alloc (.cells #[.bool false,.slice none 0 0] 121)).alloc (.cells #[.bool false,.slice none 0 0] 121))
 obtain⟨zb,hzb⟩:=ex w.heap.size
 have HZB:=hid hzb;have HB0:Hid (Blk w0 (zb+1) 121 #[.bool false,.slice none 0 0]/\Blk w0 zb 121 #[.bool false,.slice none 0 0]/\Below zb w w0/\w0.heap.size=zb+1+1):=hid (by
  rw[<-hw0,<-hzb];have b1:=Blk.new (w.alloc (.cells #[.bool false,.slice none 0 0] 121)) 121 #[.bool false,.slice none 0 0];rw[World.size_alloc]at b1;exact⟨b1,(Blk.new _ _ _).alloc _,((Below.refl _ _).alloc (Nat.le_refl _) _).alloc (by simp) _,by simp⟩)
 (try rw[hw0]);(try rw[hzb]);clear hw0 hzb;go_cut [16] (fun s16 wx=>s16=.bool sg/\wx=w0)
 case first=>
  by_cases h1:1<n.length
  ·have h1I:(1:Int)<(n.length:Int):=by omega
   have h0:0<n.length:=by omega
   obtain⟨c0,hc0⟩:=ex (n[0]'(by omega))
   have hhd:n.head?=some c0:=by rw[List.head?_eq_getElem?,List.getElem?_eq_getElem (by omega),hc0]
   by_cases h2:c0=45
   ·have hb1:=zar n 0 (by omega) c0 45 45 (by decide) hc0 h2;have hb2:=zaj n 0 (by omega) c0 45 45 (by decide) hc0 h2;have HX:Hid (sg=true):=hid (by rw[<-HSG.out,hhd,h2];exact decide_eq_true ⟨h1,rfl⟩);clear hhd hc0 h2;go_wp2;go_meet;exact⟨by rw[HX.out],rfl⟩
   ·have hb1:=zah n 0 (by omega) c0 45 45 (by decide) hc0 h2;have hb2:=zak n 0 (by omega) c0 45 45 (by decide) hc0 h2;have HX:Hid (sg=false):=hid (by rw[<-HSG.out,hhd];exact decide_eq_false (fun h=>h2 (Option.some.inj h.2)));clear hhd hc0 h2;go_wp2;go_meet;exact⟨by rw[HX.out],rfl⟩
  ·have h1I:¬(1:Int)<(n.length:Int):=by omega
   have HX:Hid (sg=false):=hid (by rw[<-HSG.out];exact decide_eq_false (fun h=>h1 h.1));go_wp2;go_meet;exact⟨by rw[HX.out],rfl⟩
 case rest=>
 obtain⟨rfl,rfl⟩:=hcut;obtain⟨w0,hw0⟩:∃w0,w0=wc:=⟨_,rfl⟩
 subst hw0;go_upto_if 16 with fail;go_cut [5] (fun s5 wx=>s5=.string ⟨s.toArray⟩/\Hid (Blk wx (zb+1) 121 #[.bool sg,.slice none 0 0]/\Blk wx zb 121 #[.bool false,.slice none 0 0]/\Below zb w wx/\wx.heap.size=zb+1+1))
 case first=>
  have q2:w0.cell? ⟨zb+1,0,none⟩=some (.bool false):=HB0.out.1.cell 0;have p1:∀j,w0.frozen? ⟨zb+1,j,none⟩=false:=HB0.out.1.frozen;cases sg with
  |true=>
   have h1:n.length>1/\n.head?=some 45:=of_decide_eq_true HSG.out;have HSX:Hid ((⟨n.toArray⟩:ByteArray).extract 1 n.length=⟨s.toArray⟩):=hid (by
    rw[zan,List.take_of_length_le (by simp),<-HSE.out];unfold intS;rw[if_pos h1,List.drop_one])
   have h1I:(1:Int)<=(n.length:Int):=by omega
   have h1N:1<=n.length:=by omega
   clear h1;go_wp2;go_meet;exact⟨by rw[HSX.out],hid ⟨HB0.out.1.set_ 0 _,HB0.out.2.1.far (by simp) _,HB0.out.2.2.1.setCell (by simp) _,by simp[World.setCell];exact HB0.out.2.2.2⟩⟩
  |false=>
   have HSX:Hid (n=s):=hid (by
    rw[<-HSE.out];unfold intS;rw[if_neg (of_decide_eq_false HSG.out)])
   go_wp2;go_meet;exact⟨by rw[HSX.out],HB0⟩
 case rest=>
 obtain⟨rfl,HBC⟩:=hcut;obtain⟨w1,hw1⟩:∃w1,w1=wc:=⟨_,rfl⟩
 subst hw1;have HBB:Hid (Blk w1 (zb+1) 121 #[.bool sg,.slice none 0 0]/\Blk w1 zb 121 #[.bool false,.slice none 0 0]/\Below zb w w1):=hid ⟨HBC.out.1,HBC.out.2.1,HBC.out.2.2.1⟩;have HBI:=hid HBC.out.2.2.2;clear HB0 HBC HSE HSG;obtain⟨bad,hbad⟩:∃bad,decide (s.length=0\/s.length>400\/(s.head?=some 48/\n.length>1))=bad:=⟨_,rfl⟩
 have HBD:=hid hbad;clear hbad;go_upto_region 6 with fail;go_cut [37] (fun s37 wx=>s37=.bool bad/\wx=w1)
 case first=>
  by_cases hz:s.length=0
  ·have HX:Hid (bad=true):=hid (by rw[<-HBD.out];exact decide_eq_true (.inl hz));have hzI:(s.length:Int)=0:=by omega
   obtain rfl:=List.eq_nil_of_length_eq_zero hz;clear hz hzI;go_wp2;go_meet;exact⟨by rw[HX.out],rfl⟩
  ·have hz0:0<s.length:=by omega
   have hzI:¬((s.length:Int)=0):=by omega
   have hzb2:((s.length:Int)==0)=false:=by rw[beq_eq_false_iff_ne];exact hzI
   by_cases h4:s.length>400
   ·have HX:Hid (bad=true):=hid (by rw[<-HBD.out];exact decide_eq_true (.inr (.inl h4)));have h4I:(400:Int)<(s.length:Int):=by omega
    go_wp2;go_meet;exact⟨by rw[HX.out],rfl⟩
   ·have h4I:¬(400:Int)<(s.length:Int):=by omega
    obtain⟨c1,hc1⟩:=ex (s[0]'(by omega))
    have hhd:s.head?=some c1:=by rw[List.head?_eq_getElem?,List.getElem?_eq_getElem (by omega),hc1]
    by_cases hc48:c1=48
    ·have hb1:=zar s 0 (by omega) c1 48 48 (by decide) hc1 hc48;have hb2:=zaj s 0 (by omega) c1 48 48 (by decide) hc1 hc48;obtain⟨m1,hm1⟩:=ex (decide ((1:Int)<(n.length:Int)))
     have HX:Hid (bad=m1):=hid (by rw[<-HBD.out,<-hm1,hhd,hc48];exact decide_eq_decide.2 ⟨fun h=>h.elim (fun h=>absurd h hz) fun h=>h.elim (fun h=>absurd h h4) fun h=>by omega,fun h=>.inr (.inr ⟨rfl,by omega⟩)⟩);clear hhd hc1 hc48;cases m1
     ·have h1:=of_decide_eq_false hm1;clear hm1;go_wp2;go_meet;exact⟨by rw[HX.out],rfl⟩
     ·have h1:=of_decide_eq_true hm1;clear hm1;go_wp2;go_meet;exact⟨by rw[HX.out],rfl⟩
    ·have HX:Hid (bad=false):=hid (by rw[<-HBD.out,hhd];exact decide_eq_false (fun h=>h.elim hz fun h=>h.elim h4 fun h=>hc48 (Option.some.inj h.1)));have hb1:=zah s 0 (by omega) c1 48 48 (by decide) hc1 hc48;have hb2:=zak s 0 (by omega) c1 48 48 (by decide) hc1 hc48;clear hhd hc1 hc48;go_wp2;go_meet;exact⟨by rw[HX.out],rfl⟩
 case rest=>
 obtain⟨rfl,rfl⟩:=hcut;obtain⟨w1,hw1⟩:∃w1,w1=wc:=⟨_,rfl⟩
 subst hw1;have p0:∀j,w1.frozen? ⟨zb,j,none⟩=false:=HBB.out.2.1.frozen;have p1:∀j,w1.frozen? ⟨zb+1,j,none⟩=false:=HBB.out.1.frozen;obtain⟨q0,q1⟩:=cells2 HBB.out.2.1;cases bad with
 |true=>
  have HF:Hid (intB n=false):=hid (by rw[HIB.out,if_pos (of_decide_eq_true HBD.out)]);go_wp2_with fail;obtain⟨e0,e1⟩:=cells2 ((HBB.out.2.1.set_ 0 (.bool false)).set_ 1 (.slice none 0 0));refine bodyPost_ret (v:=.tuple #[.agg #[.bool false,.slice none 0 0],.bool false]) (by simp[results,results88,go_sem,e0,e1]) rfl ?_;rw[HF.out];exact⟨false,none,0,0,rfl,by rw[HZB.out];exact(HBB.out.2.2.setCell (p:=⟨zb,0,none⟩) (by simp) _).setCell (p:=⟨zb,1,none⟩) (by simp) _⟩
 |false=>
  obtain⟨q2,q3⟩:=cells2 HBB.out.1;have HIF:Hid (intB n=s.all Gr.dig):=hid (by rw[HIB.out,if_neg (of_decide_eq_false HBD.out)]);have hmk:=fun W=>zca s.length (by omega) W
  have hz1:zb+1<w1.heap.size:=by have:=HBI.out;omega
  have hz2:zb<w1.heap.size:=by omega
  go_upto_region 10 with fail;obtain⟨w2,hw2⟩:=ex ((w1.setCell ⟨zb+1,1,none⟩ (.slice (some ⟨w1.heap.size,0,none⟩) s.length s.length)).alloc (.cells (ucells (List.replicate s.length 0)) 5))
  obtain⟨db,hdb⟩:=ex w1.heap.size
  have HZ2:Hid (Blk w2 zb 121 #[.bool false,.slice none 0 0]/\Blk w2 (zb+1) 121 #[.bool sg,.slice (some ⟨db,0,none⟩) s.length s.length]/\Blk w2 db 5 (ucells (List.replicate s.length 0))/\Below zb w w2):=hid (by
   rw[<-hw2,<-hdb];refine⟨(HBB.out.2.1.far (by simp) _).alloc _,(HBB.out.1.set_ 1 _).alloc _,?_,?_⟩
   ·have:=Blk.new (w1.setCell ⟨zb+1,1,none⟩ (.slice (some ⟨w1.heap.size,0,none⟩) s.length s.length)) 5 (ucells (List.replicate s.length 0));rwa[show(w1.setCell ⟨zb+1,1,none⟩ (.slice (some ⟨w1.heap.size,0,none⟩) s.length s.length)).heap.size=w1.heap.size from by simp[World.setCell]]at this
   ·exact(HBB.out.2.2.setCell (by simp) _).alloc (by simp[World.setCell];omega) _)
  have HDB:Hid (zb+1<db):=hid (by omega);(try rw[hdb]at hw2);(try rw[hdb]);(try rw[hw2]);clear hw2 hdb hz1 hz2 p0 p1 q0 q1 q2 q3 hmk;go_loopw [45] (fun s45 wr=>∃k:Nat,k<=s.length/\s45=.int .i64 k/\Hid ((s.take k).all Gr.dig=true/\∃l:List UInt8,l.length=s.length/\Blk wr zb 121 #[.bool false,.slice none 0 0]/\Blk wr (zb+1) 121 #[.bool sg,.slice (some ⟨db,0,none⟩) s.length s.length]/\Blk wr db 5 (ucells l)/\Below zb w wr)) (fun s45 _=>s.length-(intOf s45).toNat)
  case atStart=>exact⟨0,by omega,rfl,hid ⟨by simp,List.replicate s.length 0,by simp,HZ2.out⟩⟩
  case round=>
   obtain⟨k,hk,rfl,HV⟩:=hrel;obtain⟨hdig,l,hll,v0,v1,vd,vb⟩:=HV.out;by_cases hlt:k<s.length
   ·have hltI:(k:Int)<(s.length:Int):=by omega
    obtain⟨b,hb⟩:∃b:Nat,(s[k]'(by omega)).toNat=b:=⟨_,rfl⟩
    have hbv:(((⟨s.toArray⟩:ByteArray)[k]'(by simpa[ByteArray.size]using hlt)).toNat:Int)=(b:Int):=by rw[<-hb];rfl
    have hTK:(s.take (k+1)).all Gr.dig=(decide (48<=b) && decide (b<=57)):=by
     rw[List.take_succ_eq_append_getElem hlt,List.all_append,hdig];have:Gr.dig (s[k]'(by omega))=(decide (48<=b) && decide (b<=57)):=by
      unfold Gr.dig;rw[<-hb];simp[UInt8.le_iff_toNat_le]
     simp[this]
    have hbl:b<256:=by rw[<-hb];exact(s[k]'(by omega)).toNat_lt
    have HALL:Hid ((decide (48<=b) && decide (b<=57))=false->intB n=false):=hid (fun e=>by
     rw[HIF.out,List.all_eq_false];have h3:(s.take (k+1)).all Gr.dig=false:=by rw[hTK,e]
     obtain⟨x,hx,hxd⟩:=List.all_eq_false.1 h3;exact⟨x,List.mem_of_mem_take hx,hxd⟩)
    have g0:=v0.cell 0;have HTK:=hid hTK;have HV0:=hid v0;have HV1:=hid v1;have HVD:=hid vd;have HVB:=hid vb;have HLL:=hid hll;have pf0:∀j,wr.frozen? ⟨zb,j,none⟩=false:=v0.frozen;obtain⟨pc0,pc1⟩:=cells2 v0;have pc2:wr.cell? ⟨zb+1,1,none⟩=some (.slice (some ⟨db,0,none⟩) s.length s.length):=v1.cell 1;clear hTK hb hdig v0 v1 vd vb hll g0;by_cases h48:48<=b
    ·by_cases h57:b<=57
     ·have a1:¬((b:Int)<48):=by omega
      have a2:¬((57:Int)<(b:Int)):=by omega
      have i1:(0:Int)<=(s.length:Int)-1-(k:Int):=by omega
      have i2:(s.length:Int)-1-(k:Int)<(s.length:Int):=by omega
      have pfd:∀j,wr.frozen? ⟨db,j,none⟩=false:=HVD.out.frozen;have a48:(48:Int)<=(b:Int):=by omega
      have a57:(b:Int)<=57:=by omega
      obtain⟨dv,zd⟩:∃dv,wr.cell? ⟨db,s.length-1-k,none⟩=some dv:=by
       rw[HVD.out.cell];refine⟨_,Array.getElem?_eq_getElem (i:=s.length-1-k) ?_⟩;have:=HLL.out;simp[ucells];omega
      go_upto_region 14 with fail;go_region
      all_goals go_wp2_with fail
      obtain⟨xb,hxb⟩:∃xb:UInt8,(xb.toNat:Int)=(b:Int)-48:=⟨UInt8.ofNat (b-48),by rw[UInt8.toNat_ofNat'];omega⟩
      rw[<-hxb];have hne:zb≠db:=by have:=HDB.out;omega
      have hne1:zb+1≠db:=by have:=HDB.out;omega
      have HN:Hid ((s.take (k+1)).all Gr.dig=true/\∃l2:List UInt8,l2.length=s.length/\Blk (wr.setCell ⟨db,s.length-1-k,none⟩ (.int .u8 (xb.toNat:Int))).drew zb 121 #[.bool false,.slice none 0 0]/\Blk (wr.setCell ⟨db,s.length-1-k,none⟩ (.int .u8 (xb.toNat:Int))).drew (zb+1) 121 #[.bool sg,.slice (some ⟨db,0,none⟩) s.length s.length]/\Blk (wr.setCell ⟨db,s.length-1-k,none⟩ (.int .u8 (xb.toNat:Int))).drew db 5 (ucells l2)/\Below zb w (wr.setCell ⟨db,s.length-1-k,none⟩ (.int .u8 (xb.toNat:Int))).drew):=hid ⟨by rw[HTK.out];simp[h48,h57],l.set (s.length-1-k) xb,by simp[HLL.out],(HV0.out.far hne _).drew,(HV1.out.far hne1 _).drew,by
       rw[<-zc8];exact(HVD.out.set_ _ _).drew,below_drewN (HVB.out.setCell (by have:=HDB.out;simp;omega) _) 1⟩
      go_roundw
      case rel=>exact⟨k+1,by omega,by go_num,HN⟩
      case measure=>simp[intOf];omega
     ·have HF:Hid (intB n=false):=hid (HALL.out (by simp[h57]));have a1:¬((b:Int)<48):=by omega
      have a2:((57:Int)<(b:Int)):=by omega
      clear pc2;go_wp2_with fail;obtain⟨e0,e1⟩:=cells2 ((HV0.out.set_ 0 (.bool false)).set_ 1 (.slice none 0 0));refine bodyPost_ret (v:=.tuple #[.agg #[.bool false,.slice none 0 0],.bool false]) (by simp[results,results88,go_sem,e0,e1]) rfl ?_;rw[HF.out];exact⟨false,none,0,0,rfl,by rw[HZB.out];exact(HVB.out.setCell (p:=⟨zb,0,none⟩) (by simp) _).setCell (p:=⟨zb,1,none⟩) (by simp) _⟩
    ·have HF:Hid (intB n=false):=hid (HALL.out (by simp[h48]));have a1:((b:Int)<48):=by omega
     clear pc2;go_wp2_with fail;obtain⟨e0,e1⟩:=cells2 ((HV0.out.set_ 0 (.bool false)).set_ 1 (.slice none 0 0));refine bodyPost_ret (v:=.tuple #[.agg #[.bool false,.slice none 0 0],.bool false]) (by simp[results,results88,go_sem,e0,e1]) rfl ?_;rw[HF.out];exact⟨false,none,0,0,rfl,by rw[HZB.out];exact(HVB.out.setCell (p:=⟨zb,0,none⟩) (by simp) _).setCell (p:=⟨zb,1,none⟩) (by simp) _⟩
   ·have hltI:¬(k:Int)<(s.length:Int):=by omega
    have HF:Hid (intB n=true):=hid (by
     rw[HIF.out];rwa[show k=s.length from by omega,List.take_length]at hdig)
    have HT:=hid (zoq (some ⟨db,0,none⟩) s.length l (by omega) (by omega) wr (db+1) (RowAt.ofBlk vd (zam l) (by omega)));rw[hll]at HT;have pf0:∀j,wr.frozen? ⟨zb,j,none⟩=false:=v0.frozen;have pf1:∀j,wr.frozen? ⟨zb+1,j,none⟩=false:=v1.frozen;obtain⟨pc0,pc1⟩:=cells2 v0;obtain⟨pc3,pc2⟩:=cells2 v1;have HV0:=hid v0;have HV1:=hid v1;have HVB:=hid vb;clear v0 v1 vd vb hll hdig;go_wp2_with fail;refine HT.out.mono ?_;rintro e w5 ⟨m,rfl,hw5⟩;subst hw5;go_wp2_with fail;have b0:=((HV0.out.far (p:=⟨zb+1,1,none⟩) (by simp) (.slice (some ⟨db,0,none⟩) m s.length)).set_ 0 (.bool sg)).set_ 1 (.slice (some ⟨db,0,none⟩) m s.length);obtain⟨e0,e1⟩:=cells2 b0;refine bodyPost_ret (v:=.tuple #[.agg #[.bool sg,.slice (some ⟨db,0,none⟩) m s.length],.bool true]) (by simp[results,results88,go_sem,e0,e1]) rfl ?_;rw[HF.out];exact⟨sg,_,_,_,rfl,by rw[HZB.out];exact((HVB.out.setCell (p:=⟨zb+1,1,none⟩) (by simp) _).setCell (p:=⟨zb,0,none⟩) (by simp) _).setCell (p:=⟨zb,1,none⟩) (by simp) _⟩
section
variable {P:Program} {ops:Array Oper} {md:Region.Mode}
def nopOf (o:Oper):Oper:={o with op:=.move (.const (.bool false)),dst:=none}
def zfv (md:Region.Mode) (ops:Array Oper):Bool:=(List.range ops.size).all fun j=>((ops[j]?).map (·.after.all fun e=>!Region.binds md e || decide (e.on<j))).getD true
def apartB (ops:Array Oper):Bool:=(List.range ops.size).all fun i=>(List.range ops.size).all fun j=>decide (i=j) || match ops[i]?.bind (·.dst),ops[j]?.bind (·.dst)with
 |some a,some b=>decide (a≠b)
 |_,_=>true
def waitsB (md:Region.Mode) (ops:Array Oper) (s:Nat) (d:Tmp):Bool:=(List.range ops.size).all fun j=>!(decide (ops[j]?.bind (·.dst)=some d)) || Region.waitsFor md ops s j
theorem zox {i j:Nat} {a:Tmp} (h:apartB ops=true) (hi:i<ops.size) (hj:j<ops.size) (hne:i≠j) (ha:ops[i]?.bind (·.dst)=some a):ops[j]?.bind (·.dst)≠some a:=by
 intro hb;have h1:=List.all_eq_true.1 (List.all_eq_true.1 h i (List.mem_range.2 hi)) j (List.mem_range.2 hj);rw[ha,hb]at h1;simp[hne]at h1
theorem zfw {C:World->Prop} {aF:Act} {d:Tmp}:∀(fuel:Nat) (listed:Array Bool) (a:Act),(∀j,listed.getD j true=false->ops[j]?.bind (·.dst)≠some d)->
 wpAnyQ P md ops C (fun a'=>a'=aF) fuel listed a->a.tmps[d]? =aF.tmps[d]?
 | 0,_,_,_,h=>by rw[h.2]
 |fuel+1,listed,a,hd,h=>by
  cases hr:Region.ready md ops listed with
  |nil=>rw[h.1 hr]
  |cons i l=>
   have hi:i∈Region.ready md ops listed:=by rw[hr];exact .head _
   obtain⟨hun,o,ho,_⟩:=mem_ready.1 hi;have hnd:o.dst≠some d:=by have:=hd i hun;rwa[ho]at this
   have hd':∀j,(listed.setIfInBounds i true).getD j true=false->ops[j]?.bind (·.dst)≠some d:=by
    intro j hj;by_cases hij:i=j
    ·subst hij;rw[ho];exact hnd
    ·simp_all
   have key:∀v,wpAnyQ P md ops C (fun a'=>a'=aF) fuel (listed.setIfInBounds i true) (a.put o.dst v)->a.tmps[d]? =aF.tmps[d]? :=by
    intro v hv;have:=zfw fuel _ _ hd' hv;rw[<-this];unfold Act.put;cases hod:o.dst with
    |none=>rfl
    |some d2=>
     grind
   have h2:=h.2 i hi;unfold qOp at h2;simp only[ho]at h2;split at h2
   ·obtain⟨v,_,hv⟩:=h2;exact key v hv
   ·exact key _ h2
theorem zoy {a:Act} {dst:Option Tmp} {u v:Value} (h:∀d,dst=some d->(a.put dst u).tmps[d]? =(a.put dst v).tmps[d]?):a.put dst u=a.put dst v:=by
 cases dst with
 |none=>rfl
 |some d=>
  have h1:=h d rfl;unfold Act.put at h1 ⊢;simp only at h1 ⊢;by_cases hd:d<a.tmps.size
  ·grind
  ·rw[Array.setIfInBounds_eq_of_size_le (Nat.not_lt.1 hd),Array.setIfInBounds_eq_of_size_le (Nat.not_lt.1 hd)]
theorem zj4 {listed:Array Bool} (he:zfv md ops=true) (hsz:listed.size=ops.size) (hr:Region.ready md ops listed=[]):∀j,j<ops.size->listed.getD j false=true:=by
 intro j
 induction j using Nat.strongRecOn with
 |_ j ih=>
  intro hj;cases hl:listed.getD j false with
  |true=>rfl
  |false=>
   exfalso;have h1:j∈Region.ready md ops listed:=by
    rw[mem_ready];refine⟨getD_in (by omega) hl,ops[j],Array.getElem?_eq_getElem hj,fun e hee hb=>?_⟩;have h2:=List.all_eq_true.1 he j (List.mem_range.2 hj);rw[Array.getElem?_eq_getElem hj]at h2;simp only[Option.map_some,Option.getD_some]at h2;have h3:=Array.all_eq_true'.1 h2 e hee;simp only[hb,Bool.not_true,Bool.false_or,decide_eq_true_eq]at h3;exact ih e.on h3 (by omega)
   rw[hr]at h1;cases h1
variable {s:Nat} {os:Oper} {D:Bool->World->Prop} {aF:Act} {Q:Exit->Act->World->Prop}
theorem zmh (_hs:ops[s]? =some os) {j:Nat} (hne:j≠s):(ops.setIfInBounds s (nopOf os))[j]? =ops[j]? :=Array.getElem?_setIfInBounds_ne (Ne.symm hne)
theorem zfx (hs:ops[s]? =some os):(ops.setIfInBounds s (nopOf os))[s]? =some (nopOf os):=Array.getElem?_setIfInBounds_self_of_lt (Array.getElem?_eq_some_iff.1 hs).1
theorem zhu (hs:ops[s]? =some os) (hd:os.dst=none) (j:Nat):(ops.setIfInBounds s (nopOf os))[j]?.bind (·.dst)=ops[j]?.bind (·.dst):=by
 by_cases h:j=s
 ·subst h;rw[zfx hs,hs];simp[nopOf,hd]
 ·rw[zmh hs h]
theorem zhv (hs:ops[s]? =some os) (hd:os.dst=none) (t:Array Value):yielded (ops.setIfInBounds s (nopOf os)) t=yielded ops t:=by
 funext j
 unfold yielded;rw[zhu hs hd]
theorem zgs (hs:ops[s]? =some os) (listed:Array Bool) (i:Nat):i∈Region.ready md (ops.setIfInBounds s (nopOf os)) listed↔i∈Region.ready md ops listed:=by
 rw[mem_ready,mem_ready];by_cases h:i=s
 ·subst h;rw[zfx hs,hs];constructor
  ·rintro⟨a,o,ho,b⟩;injection ho with ho
   subst ho;exact⟨a,os,rfl,b⟩
  ·rintro⟨a,o,ho,b⟩;injection ho with ho
   subst ho;exact⟨a,_,rfl,b⟩
 ·rw[zmh hs h]
theorem zmi {p q:Tmp} {ty:TypeId} (hs:ops[s]? =some os) (hd:os.dst=none) (hg:os.guard=none) (hop:os.op=.store ty (.tmp p) (.tmp q)) (he:zfv md ops=true) (hap:apartB ops=true) (hp:waitsB md ops s p=true) (hq:waitsB md ops s q=true)
 (hst:∀w,D false w->∃w',(execOp aF.eval os).run P w=.ok .skip w'/\D true w') (hend:∀w,D true w->Q .normal aF w):
 ∀(fuel:Nat) (listed:Array Bool) (a:Act) (w:World),listed.size=ops.size->(∀b,wpAnyQ P md (ops.setIfInBounds s (nopOf os)) (D b) (fun a'=>a'=aF) fuel listed a)->D (listed.getD s false) w->wpAny P md ops Q fuel listed a w:=by
 have hsz:s<ops.size:=(Array.getElem?_eq_some_iff.1 hs).1;have hdone:∀(listed:Array Bool) (w:World),listed.size=ops.size->Region.ready md ops listed=[]->D (listed.getD s false) w->D true w:=fun listed w h1 h2 h3=>by
  rwa[zj4 he h1 h2 s hsz]at h3
 have hrd:∀listed,Region.ready md (ops.setIfInBounds s (nopOf os)) listed=[]↔Region.ready md ops listed=[]:=fun listed=>by
  rw[List.eq_nil_iff_forall_not_mem,List.eq_nil_iff_forall_not_mem];exact forall_congr' (fun i=>not_congr (zgs hs listed i))
 intro fuel
 induction fuel with
 |zero=>
  intro listed a w h1 h2 h3;have h4:=h2 true;refine⟨(hrd listed).1 h4.1,?_⟩;rw[h4.2];exact hend w (hdone listed w h1 ((hrd listed).1 h4.1) h3)
 |succ fuel ih=>
  intro listed a w h1 h2 h3;refine⟨fun hr=>?_,fun i hi=>?_⟩
  ·rw[(h2 true).1 ((hrd listed).2 hr)];exact hend w (hdone listed w h1 hr h3)
  ·obtain⟨hun,o,ho,hall⟩:=mem_ready.1 hi;have hisz:i<ops.size:=(Array.getElem?_eq_some_iff.1 ho).1;have hi':=(zgs (md:=md) hs listed i).2 hi;have hsz':(listed.setIfInBounds i true).size=ops.size:=by simpa using h1
   by_cases his:i=s
   ·subst his;obtain rfl:o=os:=Option.some.inj (ho.symm.trans hs);have hnx:∀b,wpAnyQ P md (ops.setIfInBounds i (nopOf o)) (D b) (fun a'=>a'=aF) fuel (listed.setIfInBounds i true) a:=fun b=>by
     have h4:=(h2 b).2 i hi';unfold qOp at h4;rw[zfx hs]at h4;simp only at h4;rw[if_pos (show Region.wanted (nopOf o) _=true by simp[Region.wanted,nopOf,hg])]at h4;obtain⟨v,_,hv⟩:=h4;exact hv
    have hslot:∀d,waitsB md ops i d=true->a.tmps[d]? =aF.tmps[d]? :=fun d hwd=>by
     refine zfw (C:=D true) fuel _ a (fun j hj hjd=>?_) (hnx true);rw[zhu hs hd]at hjd;have hjs:j<ops.size:=by
      grind
     have h5:=List.all_eq_true.1 hwd j (List.mem_range.2 hjs);rw[decide_eq_true hjd]at h5;simp only[Bool.not_true,Bool.false_or]at h5;obtain⟨oj,hoj,e,hee,heb,heo⟩:=Region.waitsFor_spec h5;obtain rfl:oj=o:=Option.some.inj (hoj.symm.trans ho);have h6:=hall e hee heb;rw[heo]at h6;by_cases hij:i=j
     ·grind
     ·simp_all
    have hfl:listed.getD i false=false:=getD_both hun;rw[hfl]at h3;obtain⟨w',hrun,hD⟩:=hst w h3;have hev:execOp a.eval o=execOp aF.eval o:=by
     have e1:a.eval (.tmp p)=aF.eval (.tmp p):=by
      show a.tmps.getD p undef=aF.tmps.getD p undef;rw[Array.getD_eq_getD_getElem?,Array.getD_eq_getD_getElem?,hslot p hp]
     have e2:a.eval (.tmp q)=aF.eval (.tmp q):=by
      show a.tmps.getD q undef=aF.tmps.getD q undef;rw[Array.getD_eq_getD_getElem?,Array.getD_eq_getD_getElem?,hslot q hq]
     unfold execOp;rw[hop];simp only[e1,e2]
    unfold wpOp;rw[ho];simp only[Region.wanted,hg,if_true];left;unfold Oper.wp;rw[hev,hrun];show wpAny P md ops Q fuel (listed.setIfInBounds i true) (a.put o.dst undef) w';rw[hd];refine ih _ a w' hsz' hnx ?_;rw[show(listed.setIfInBounds i true).getD i false=true from by
     have:i<listed.size:=by omega
     simp[this]]
    exact hD
   ·have hfl:(listed.setIfInBounds i true).getD s false=listed.getD s false:=getD_set_ne false his;have hoi':(ops.setIfInBounds s (nopOf os))[i]? =some o:=by rw[zmh hs his,ho]
    have hnext:∀b,(if Region.wanted o (yielded ops a.tmps)then o.quiet P a (D b) (wpAnyQ P md (ops.setIfInBounds s (nopOf os)) (D b) (fun a'=>a'=aF) fuel (listed.setIfInBounds i true))else wpAnyQ P md (ops.setIfInBounds s (nopOf os)) (D b) (fun a'=>a'=aF) fuel (listed.setIfInBounds i true) (a.put o.dst undef)):=fun b=>by
     have h4:=(h2 b).2 i hi';unfold qOp at h4;rw[hoi']at h4;simp only[zhv hs hd]at h4;exact h4
    unfold wpOp;rw[ho];simp only;by_cases hw:Region.wanted o (yielded ops a.tmps)=true
    ·rw[if_pos hw];left;simp only[hw,if_true]at hnext;have hval:∀(b b':Bool) (v v':Value),wpAnyQ P md (ops.setIfInBounds s (nopOf os)) (D b) (fun a'=>a'=aF) fuel (listed.setIfInBounds i true) (a.put o.dst v)->wpAnyQ P md (ops.setIfInBounds s (nopOf os)) (D b') (fun a'=>a'=aF) fuel (listed.setIfInBounds i true) (a.put o.dst v')->a.put o.dst v=a.put o.dst v':=fun b b' v v' k1 k2=>by
      refine zoy (fun d hod=>?_);have hfree:∀j,(listed.setIfInBounds i true).getD j true=false->(ops.setIfInBounds s (nopOf os))[j]?.bind (·.dst)≠some d:=fun j hj=>by
       rw[zhu hs hd];have hij:i≠j:=by
        rintro rfl;have:i<listed.size:=by omega
        simp[this]at hj
       by_cases hjs:j<ops.size
       ·exact zox hap hisz hjs hij (by rw[ho];exact hod)
       ·grind
      rw[zfw fuel _ _ hfree k1,zfw fuel _ _ hfree k2]
     obtain⟨v,hv,hk⟩:=hnext (listed.getD s false);refine Oper.wp_of_quiet (C:=D (listed.getD s false)) (K:=fun a'=>∀b,wpAnyQ P md (ops.setIfInBounds s (nopOf os)) (D b) (fun a''=>a''=aF) fuel (listed.setIfInBounds i true) a') h3 (fun a' w' hw' hk'=>ih _ a' w' hsz' hk' (by rw[hfl];exact hw')) ⟨v,hv,fun b=>?_⟩;obtain⟨v',_,hk'⟩:=hnext b;rw[hval _ _ v v' hk hk'];exact hk'
    ·grind
theorem zaz {id:Nat} {l:List Oper} {a:Act} {w:World} {p q:Tmp} {ty:TypeId} (s:Nat) (hm:P.follows .mixedOrders=true) (l':List Oper) (hs:l.toArray[s]? =some os) (hl':l'=l.set s (nopOf os)) (hd:os.dst=none) (hg:os.guard=none) (hop:os.op=.store ty (.tmp p) (.tmp q))
 (hB:Region.lexB .any l'.toArray=true) (he:zfv .any l.toArray=true) (hap:apartB l.toArray=true) (hp:waitsB .any l.toArray s p=true) (hq:waitsB .any l.toArray s q=true) (D:Bool->World->Prop) (hD:D false {w with drawn:=w.drawn+1})
 (h:∀b,wpQuiet P l'.toArray (D b) (fun a'=>a'=aF) l' a)
 (hst:∀w,D false w->∃w',(execOp aF.eval os).run P w=.ok .skip w'/\D true w') (hend:∀w,D true w->Q .normal aF w):(Code.region id l.toArray true).wp P Q a w:=by
 simp only[Region.lexB,Bool.and_eq_true]at hB;have e:l.toArray.setIfInBounds s (nopOf os)=l'.toArray:=by rw[hl'];simp
 have hsz:l'.length=l.toArray.size:=by rw[hl'];simp
 refine wp_region_any hm ?_;have hsl:s<l.toArray.size:=(Array.getElem?_eq_some_iff.1 hs).1;refine zmi hs hd hg hop he hap hp hq hst hend _ _ a _ (by simp) (fun b=>?_) (by rw[getD_replicate_false];exact hD);rw[e,<-hsz];have:=wpAnyQ_lex (C:=D b) (md:=.any) hB.1 l' 0 (Array.replicate l'.length false) a (by simp) (by simpa using hB.2) (h b);exact this
end
structure WL (g:Nat) (t:TypeId) (w0:World) (cs:Array Value) where
 w:World
 h:KB g w0 w
 hc:Blk w g t cs
theorem Calls.late {P:Program} {f:FuncId} {args:Array Value} {g:Nat} {t:TypeId} {w0:World} {cs:Array Value} {x:WL g t w0 cs} {v:Value} (h:Calls P f args x.w fun e w'=>e=.returned v/\Below x.w.heap.size x.w w'):
 Calls P f args x.w fun e w''=>e=.returned v/\∃y:WL g t w0 cs,w''=y.w:=h.mono fun _ _ ⟨he,hb⟩=>⟨he,⟨_,x.h.trans (KB.of_below hb),x.hc.below hb x.hc.lt⟩,rfl⟩
namespace Flt
open Ieee
theorem b52:Ieee.double.binade=4503599627370496:=by decide
theorem sgnW:Ieee.double.signWeight=9223372036854775808:=by decide
theorem infR:Ieee.double.infRung=9218868437227405312:=by decide
theorem leastP:Ieee.double.leastPlace=-1074:=by decide
theorem fracB:Ieee.double.fractionBits=52:=rfl
theorem cut0 (neg:Bool) (n:Nat):Toward.even.cut neg n 0=n:=by
 have h:(1:Nat) <<<min 0 (n.log2+2)=1:=by rw[Nat.zero_min];rfl
 unfold Toward.cut;rw[h];simp[Nat.mod_one]
theorem zlz (neg:Bool) (K d:Nat) (hK:0<K):Toward.even.cut neg (K*2 ^ d) d=K:=by
 have hp:0<2 ^ d:=Nat.two_pow_pos d;have hl:d<=(K*2 ^ d).log2:=(Nat.le_log2 (by have:=Nat.mul_pos hK hp;omega)).2 (Nat.le_mul_of_pos_left _ hK);have h:(1:Nat) <<<min d ((K*2 ^ d).log2+2)=2 ^ d:=by rw[Nat.min_eq_left (by omega),Nat.shiftLeft_eq,Nat.one_mul]
 unfold Toward.cut;rw[h];simp[Nat.mul_div_cancel _ hp,Nat.mul_mod_left]
theorem zre (M:Nat) (p last:Int) (hM:M≠0) (hlast:max (p+(M.log2:Int)-52) (-1074)=last) (h:last<=p):Ieee.double.nearest false M p=min ((last+1074).toNat*4503599627370496+M*2 ^ (p-last).toNat) 9218868437227405312:=by
 unfold Format.nearest;rw[if_neg hM,leastP,b52,infR,fracB];simp only[Format.word,Bool.false_eq_true,if_false];rw[show((52:Nat):Int)=52 from rfl,hlast,show(last-p).toNat=0 from by omega,cut0,Nat.shiftLeft_eq,show last- -1074=last+1074 from by omega]
theorem zgq (M K:Nat) (p last:Int) (hM:M≠0) (hlast:max (p+(M.log2:Int)-52) (-1074)=last) (h:p<=last) (hK:M=K*2 ^ (last-p).toNat):Ieee.double.nearest false M p=min ((last+1074).toNat*4503599627370496+K) 9218868437227405312:=by
 unfold Format.nearest;rw[if_neg hM,leastP,b52,infR,fracB];simp only[Format.word,Bool.false_eq_true,if_false];rw[show((52:Nat):Int)=52 from rfl,hlast,show(p-last).toNat=0 from by omega,show last- -1074=last+1074 from by omega,Nat.shiftLeft_eq,Nat.pow_zero,Nat.mul_one,hK,zlz];rcases Nat.eq_zero_or_pos K with h0|h0
 ·grind
 ·exact h0
theorem zhq (m L:Nat) (h1:2 ^ L<=m) (h2:m<2 ^ (L+1)):m.log2=L:=by
 have h0:m≠0:=by have:=Nat.two_pow_pos L;omega
 have a:=(Nat.le_log2 h0).2 h1;have b:=(Nat.log2_lt h0).2 h2;omega
def lastP (L:Nat) (e:Int):Int:=max (e+L-52) (-1074)
def sig (m L:Nat) (e:Int):Nat:=m*2 ^ (e-lastP L e).toNat
def fw (m L:Nat) (e:Int):Nat:=(lastP L e+1074).toNat*4503599627370496+sig m L e
structure Fits (m L:Nat) (e:Int):Prop where
 odd:m%2=1
 lo:2 ^ L<=m
 hi:m<2 ^ (L+1)
 len:L+1<=53
 e0:-1074<=e
 e1:e+L+1<=1024
section
variable {m L:Nat} {e:Int}
theorem Fits.last_le (h:Fits m L e):lastP L e<=e:=by have:=h.len;have:=h.e0;unfold lastP;omega
theorem zeb (a:Nat) (h:a<=53):2 ^ a<=9007199254740992:=Nat.pow_le_pow_right (n:=2) (by omega) h
theorem Fits.sig_bd (h:Fits m L e):0<sig m L e/\sig m L e<9007199254740992/\(4503599627370496<=sig m L e\/lastP L e=-1074)/\lastP L e<=971/\-1074<=lastP L e:=by
 have h1:=h.len;have h2:=h.e0;have h3:=h.e1;have h4:=h.lo;have h5:=h.hi;have h0:=h.last_le;have hd:L+(e-lastP L e).toNat<=52:=by unfold lastP;omega
 have hm:0<m:=by have:=Nat.two_pow_pos L;omega
 refine⟨Nat.mul_pos hm (Nat.two_pow_pos _),?_,?_,by unfold lastP;omega,by unfold lastP;omega⟩
 ·have:sig m L e<2 ^ (L+1)*2 ^ (e-lastP L e).toNat:=Nat.mul_lt_mul_of_pos_right h5 (Nat.two_pow_pos _);rw[<-Nat.pow_add]at this;exact Nat.lt_of_lt_of_le this (zeb _ (by omega))
 ·by_cases hc:e+L-52< -1074
  ·right;unfold lastP;omega
  ·left;have he:L+(e-lastP L e).toNat=52:=by unfold lastP;omega
   have:2 ^ L*2 ^ (e-lastP L e).toNat<=sig m L e:=Nat.mul_le_mul_right _ h4;rw[<-Nat.pow_add,he]at this;exact this
theorem Fits.fw_lt (h:Fits m L e):0<fw m L e/\fw m L e<9218868437227405312:=by
 obtain⟨a,b,c,d,f⟩:=h.sig_bd;unfold fw;omega
theorem Fits.read (h:Fits m L e):Ieee.double.read (fw m L e)=.number false (sig m L e) (lastP L e):=by
 obtain⟨a,b,c,d,f⟩:=h.sig_bd;obtain⟨g0,g1⟩:=h.fw_lt;obtain⟨k,hk⟩:∃k:Nat,lastP L e=-1074+k:=⟨(lastP L e+1074).toNat,by omega⟩
 have hf:fw m L e=k*4503599627370496+sig m L e:=by unfold fw;rw[hk,show(-1074+(k:Int)+1074).toNat=k from by omega]
 unfold Format.read;rw[sgnW,b52,infR,leastP];have e1:fw m L e /9223372036854775808=0:=Nat.div_eq_of_lt (by omega);have e2:fw m L e%9223372036854775808=fw m L e:=Nat.mod_eq_of_lt (by omega);rw[e1,e2];simp only[Nat.zero_mod];rw[hk,hf];rw[hf]at g0 g1;by_cases hn:k*4503599627370496+sig m L e<4503599627370496
 ·grind
 ·grind
theorem Fits.ofNat (h:Fits m L e):floatOfInt .f64 (m:Int)=(L+1022)*4503599627370496+m*2 ^ (52-L):=by
 have h1:=h.len;have h4:=h.lo;have h5:=h.hi;have hm:m≠0:=by have:=Nat.two_pow_pos L;omega
 have hl:=zhq m L h4 h5;unfold floatOfInt FloatKind.nearest FloatKind.encode FloatKind.format;simp only[Format.write];rw[show decide ((m:Int)<0)=false from by simp,Int.natAbs_natCast,zre m 0 ((L:Int)-52) hm (by rw[hl];omega) (by omega)];have e1:((L:Int)-52+1074).toNat=L+1022:=by omega
 have e2:(0-((L:Int)-52)).toNat=52-L:=by omega
 rw[e1,e2];have:m*2 ^ (52-L)<9007199254740992:=by
  have:m*2 ^ (52-L)<2 ^ (L+1)*2 ^ (52-L):=Nat.mul_lt_mul_of_pos_right h5 (Nat.two_pow_pos _);rw[<-Nat.pow_add,show L+1+(52-L)=53 from by omega]at this;exact this
 omega
theorem Fits.full (h:Fits m L e):4503599627370496<=m*2 ^ (52-L)/\m*2 ^ (52-L)<9007199254740992:=by
 have h1:=h.len;have h4:=h.lo;have h5:=h.hi;constructor
 ·have:2 ^ L*2 ^ (52-L)<=m*2 ^ (52-L):=Nat.mul_le_mul_right _ h4;rw[<-Nat.pow_add,show L+(52-L)=52 from by omega]at this;exact this
 ·have:m*2 ^ (52-L)<2 ^ (L+1)*2 ^ (52-L):=Nat.mul_lt_mul_of_pos_right h5 (Nat.two_pow_pos _);rw[<-Nat.pow_add,show L+1+(52-L)=53 from by omega]at this;exact this
theorem zcw (k s:Nat) (hk:1<=k) (hk2:k<=2046) (hs:4503599627370496<=s) (hs2:s<9007199254740992):Ieee.double.read (k*4503599627370496+(s-4503599627370496))=.number false s ((k:Int)-1075):=by
 unfold Format.read;rw[sgnW,b52,infR,leastP];have e1:(k*4503599627370496+(s-4503599627370496)) /9223372036854775808=0:=Nat.div_eq_of_lt (by omega);have e2:(k*4503599627370496+(s-4503599627370496))%9223372036854775808=k*4503599627370496+(s-4503599627370496):=Nat.mod_eq_of_lt (by omega);have e3:(k*4503599627370496+(s-4503599627370496))%4503599627370496=s-4503599627370496:=by omega
 have e4:(k*4503599627370496+(s-4503599627370496)) /4503599627370496=k:=by omega
 simp only[e1,e2,e3,e4,Nat.zero_mod];rw[if_neg (by omega),if_pos (by omega),show 4503599627370496+(s-4503599627370496)=s from by omega,show -1074+((k-1:Nat):Int)=(k:Int)-1075 from by omega];rfl
theorem Fits.mul_one (h:Fits m L e) (hn:-1022<=e+L):Ieee.double.mul 4607182418800017408 ((e+L+1023).toNat*4503599627370496+(m*2 ^ (52-L)-4503599627370496))=some (fw m L e):=by
 obtain⟨f1,f2⟩:=h.full;have h1:=h.len;have h2:=h.e0;have h3:=h.e1;obtain⟨g0,g1⟩:=h.fw_lt;have r1:=zcw 1023 4503599627370496 (by omega) (by omega) (by omega) (by omega);rw[show 1023*4503599627370496+(4503599627370496-4503599627370496)=4607182418800017408 from rfl]at r1;have r2:=zcw (e+L+1023).toNat (m*2 ^ (52-L)) (by omega) (by omega) f1 f2;unfold Format.mul;rw[r1,r2];simp only[Datum.product,Option.map_some,Format.write,Bool.false_xor];generalize hS:m*2 ^ (52-L)=S at *;have hl:(4503599627370496*S).log2=104:=zhq _ _ (by omega) (by omega);have hlp:lastP L e=e+L-52:=by unfold lastP;omega
 have hsg:sig m L e=S:=by unfold sig;rw[hlp,show(e-(e+↑L-52)).toNat=52-L from by omega,hS]
 rw[zgq (4503599627370496*S) S _ (e+L-52) (by omega) (by rw[hl];omega) (by omega) (by rw[show(e+(L:Int)-52-(((1023:Nat):Int)-1075+(((e+L+1023).toNat:Int)-1075))).toNat=52 from by omega,Nat.mul_comm])];unfold fw at g1 ⊢;rw[hlp,hsg]at g1 ⊢;refine congrArg some ?_;exact Nat.min_eq_left (by omega)
theorem Fits.mul_small (h:Fits m L e) (hn:e+L< -1022):Ieee.double.mul 4368491638549381120 ((e+L+1076).toNat*4503599627370496+(m*2 ^ (52-L)-4503599627370496))=some (fw m L e):=by
 obtain⟨f1,f2⟩:=h.full;have h1:=h.len;have h2:=h.e0;have h3:=h.e1;obtain⟨g0,g1⟩:=h.fw_lt;have r1:=zcw 970 4503599627370496 (by omega) (by omega) (by omega) (by omega);rw[show 970*4503599627370496+(4503599627370496-4503599627370496)=4368491638549381120 from rfl]at r1;have r2:=zcw (e+L+1076).toNat (m*2 ^ (52-L)) (by omega) (by omega) f1 f2;unfold Format.mul;rw[r1,r2];simp only[Datum.product,Option.map_some,Format.write,Bool.false_xor];have hlp:lastP L e=-1074:=by unfold lastP;omega
 obtain⟨q,hq⟩:∃q:Nat,e=-1074+q:=⟨(e+1074).toNat,by omega⟩
 have hsg:sig m L e=m*2 ^ q:=by unfold sig;rw[hlp,show(e- -1074).toNat=q from by omega]
 have hM:4503599627370496*(m*2 ^ (52-L))=m*2 ^ q*2 ^ (104-L-q):=by
  rw[show(4503599627370496:Nat)=2 ^ 52 from by decide,<-Nat.mul_assoc,Nat.mul_comm (2 ^ 52) m,Nat.mul_assoc,<-Nat.pow_add,Nat.mul_assoc,<-Nat.pow_add,show 52+(52-L)=q+(104-L-q)from by omega]
 have hl:(4503599627370496*(m*2 ^ (52-L))).log2=104:=zhq _ _ (by omega) (by omega);rw[zgq _ (m*2 ^ q) (((970:Nat):Int)-1075+(((e+L+1076).toNat:Int)-1075)) (-1074) (by omega) (by rw[hl];omega) (by omega) (by rw[hM,show((-1074:Int)-(((970:Nat):Int)-1075+(((e+L+1076).toNat:Int)-1075))).toNat=104-L-q from by omega])];unfold fw at g1 ⊢;rw[hlp,hsg]at g1 ⊢;refine congrArg some ?_;exact Nat.min_eq_left (by omega)
theorem Fits.order_self (h:Fits m L e):Ieee.double.order (fw m L e) (fw m L e)=some .eq:=by
 unfold Format.order;rw[h.read];simp[Datum.order]
theorem Fits.order_zero (h:Fits m L e):Ieee.double.order (fw m L e) 0=some .gt:=by
 obtain⟨a,b,c,d,f⟩:=h.sig_bd;unfold Format.order;have r0:Ieee.double.read 0=.number false 0 (-1074):=by decide
 rw[h.read,r0];simp only[Datum.order,signed,Bool.false_eq_true,if_false,Nat.zero_shiftLeft];rw[show min (lastP L e) (-1074)=-1074 from by omega,Nat.shiftLeft_eq];have:0<sig m L e*2 ^ (lastP L e- -1074).toNat:=Nat.mul_pos a (Nat.two_pow_pos _);generalize sig m L e*2 ^ (lastP L e- -1074).toNat=N at this;simp only[compare,compareOfLessAndEq];rw[if_neg (by omega),if_neg (by omega)]
theorem Fits.order_max (h:Fits m L e):Ieee.double.order (fw m L e) 9218868437227405311=some .lt\/Ieee.double.order (fw m L e) 9218868437227405311=some .eq:=by
 obtain⟨a,b,c,d,f⟩:=h.sig_bd;unfold Format.order;have r0:Ieee.double.read 9218868437227405311=.number false 9007199254740991 971:=by decide
 rw[h.read,r0];simp only[Datum.order,signed,Bool.false_eq_true,if_false];rw[show min (lastP L e) 971=lastP L e from by omega,show(lastP L e-lastP L e).toNat=0 from by omega,Nat.shiftLeft_zero,Nat.shiftLeft_eq];have:sig m L e<=9007199254740991*2 ^ (971-lastP L e).toNat:=Nat.le_trans (by omega) (Nat.le_mul_of_pos_right 9007199254740991 (Nat.two_pow_pos _));generalize 9007199254740991*2 ^ (971-lastP L e).toNat=N at this;simp only[compare,compareOfLessAndEq];by_cases h:(sig m L e:Int)<(N:Int)
 ·rw[if_pos h];exact .inl rfl
 ·grind
theorem Fits.fields (h:Fits m L e):∃z:Nat,z<=52/\sig m L e=m*2 ^ z/\e=lastP L e+z/\
 ((fw m L e /4503599627370496=0/\fw m L e%4503599627370496=m*2 ^ z/\e=-1074+z)\/(∃k:Nat,fw m L e /4503599627370496=k+1/\k+1<=2046/\fw m L e%4503599627370496+4503599627370496=m*2 ^ z/\e=(k:Int)-1074+z)):=by
 obtain⟨a,b,c,d,f⟩:=h.sig_bd;have h1:=h.len;have h2:=h.e0;have h3:=h.e1;have h0:=h.last_le;refine⟨(e-lastP L e).toNat,by unfold lastP;omega,rfl,by omega,?_⟩;obtain⟨k,hk⟩:∃k:Nat,lastP L e=-1074+k:=⟨(lastP L e+1074).toNat,by omega⟩
 have hf:fw m L e=k*4503599627370496+sig m L e:=by unfold fw;rw[hk,show(-1074+(k:Int)+1074).toNat=k from by omega]
 have hs:m*2 ^ (e-lastP L e).toNat=sig m L e:=rfl;rw[hs,hf];by_cases hn:sig m L e<4503599627370496
 ·omega
 ·grind
theorem zs4 (m z:Nat) (hm:m%2=1) (hz:m*2 ^ z<18446744073709551616):Lib.ctz 64 (m*2 ^ z)=z:=by
 have hp:0<m*2 ^ z:=Nat.mul_pos (by omega) (Nat.two_pow_pos _);obtain⟨q,hq,_⟩:=Lib.ctzFrom_spec 64 (m*2 ^ z) hp hz;unfold Lib.ctz;rw[if_neg (by omega)];generalize Lib.ctzFrom 64 (m*2 ^ z)=c at hq;rcases Nat.lt_trichotomy c z with h|h|h
 ·obtain⟨d,rfl⟩:∃d,z=c+(d+1):=⟨z-c-1,by omega⟩
  rw[Nat.pow_add,Nat.mul_left_comm]at hq;have:=Nat.eq_of_mul_eq_mul_left (Nat.two_pow_pos c) hq;rw[Nat.pow_succ,<-Nat.mul_assoc]at this;omega
 ·exact h
 ·obtain⟨d,rfl⟩:∃d,c=z+(d+1):=⟨c-z-1,by omega⟩
  rw[Nat.pow_add,Nat.mul_assoc,Nat.mul_comm m]at hq;have:=Nat.eq_of_mul_eq_mul_left (Nat.two_pow_pos z) hq;rw[Nat.pow_succ,Nat.mul_assoc,Nat.mul_left_comm]at this;omega
end
end Flt
theorem zbf (a b:Nat) (ha:a<18446744073709551616) (hb:b<18446744073709551616):
 bits .andNot .u64 (a:Int) (b:Int)=((a &&& (18446744073709551615-b):Nat):Int):=by
 have hx:a &&& (18446744073709551615-b)<2 ^ 64:=Nat.and_lt_two_pow _ (by omega);have h1:(BitVec.ofInt 64 (a:Int)).toNat=a:=by
  grind
 have h2:(BitVec.ofInt 64 (b:Int)).toNat=b:=by
  grind
 show IntKind.u64.wrap ((BitVec.ofInt 64 (a:Int) &&& ~~~ BitVec.ofInt 64 (b:Int)).toNat:Int)=_;rw[BitVec.toNat_and,BitVec.toNat_not,h1,h2,IntKind.wrap_u64];rw[show 2 ^ 64-1-b=18446744073709551615-b from by omega];omega
theorem zdr (a n:Nat):a &&& (2 ^ n-1)=a%2 ^ n:=Nat.and_two_pow_sub_one_eq_mod a n
theorem zrf (a n:Nat) (h:a<2 ^ n):a &&& 2 ^ n=0:=by
 apply Nat.eq_of_testBit_eq;intro i;rw[Nat.testBit_and,Nat.testBit_two_pow,Nat.zero_testBit];by_cases hi:n=i
 ·subst hi;rw[Nat.testBit_lt_two_pow h];rfl
 ·simp[hi]
theorem zs5 (f k n:Nat) (h:f<2 ^ n):f ||| (k*2 ^ n)=f+k*2 ^ n:=by
 rw[Nat.or_comm,Nat.mul_comm,<-Nat.two_pow_add_eq_or_of_lt h,Nat.add_comm]
theorem zhr (a:Nat) (h:a<9223372036854775808):bits .andNot .u64 (a:Int) 9223372036854775808=(a:Int):=by
 have:=zbf a 9223372036854775808 (by omega) (by omega);rw[show(18446744073709551615-9223372036854775808:Nat)=2 ^ 63-1 from by decide,zdr,Nat.mod_eq_of_lt (by omega)]at this;exact this
theorem zoo (a:Nat) (h:a<18446744073709551616):bits .and .u64 (a:Int) 4503599627370495=((a%4503599627370496:Nat):Int):=by
 have:=bits_and_u64_nat a 4503599627370495 h (by omega);rw[show(4503599627370495:Nat)=2 ^ 52-1 from by decide,zdr]at this;exact this
theorem zjz (a:Nat) (h:a<9223372036854775808):bits .andNot .u64 (a:Int) 9218868437227405312=((a%4503599627370496:Nat):Int):=by
 have:=zbf a 9218868437227405312 (by omega) (by omega);rw[show(18446744073709551615-9218868437227405312:Nat)=(2 ^ 52-1) ||| 2 ^ 63 from by decide,Nat.and_or_distrib_left,zdr,zrf a 63 (by omega),Nat.or_zero]at this;exact this
theorem zl0 (f k:Nat) (h:f<4503599627370496) (hk:k<4096):bits .or .u64 (f:Int) ((k*4503599627370496:Nat):Int)=((k*4503599627370496+f:Nat):Int):=by
 have:=bits_or_u64_nat f (k*4503599627370496) (by omega) (by omega);rw[show f |||k*4503599627370496=f+k*4503599627370496 from zs5 f k 52 h,Nat.add_comm]at this;exact this
theorem or_one (f:Nat) (h:f<4503599627370496):bits .or .u64 (f:Int) 4503599627370496=((f+4503599627370496:Nat):Int):=by
 have:=zl0 f 1 h (by omega);rw[Nat.one_mul,Nat.add_comm]at this;exact this
theorem zrg (k:Nat) (h:k<2048):bits .and .i64 (k:Int) 2047=(k:Int):=by
 have h1:(BitVec.ofInt 64 (k:Int)).toNat=k:=by
  grind
 have h2:(BitVec.ofInt 64 (2047:Int)).toNat=2047:=by decide
 show IntKind.i64.wrap ((BitVec.ofInt 64 (k:Int) &&& BitVec.ofInt 64 2047).toNat:Int)=_;rw[BitVec.toNat_and,h1,h2,show(2047:Nat)=2 ^ 11-1 from by decide,zdr,Nat.mod_eq_of_lt (by omega)];simp[IntKind.wrap,IntKind.signed,IntKind.bits];omega
end Go.Proofs.YtoigpackhninoaaGreatDoor
