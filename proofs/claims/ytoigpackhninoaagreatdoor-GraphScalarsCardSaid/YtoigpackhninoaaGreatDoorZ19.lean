/- A region that draws its order and holds ONE store of its own, which may come up beside operations that read no memory: one walk in the order of the text, the store left out, at two classes of worlds (before the store, behind it). Walks: the reference's two, is, Leap, Month, Days of moments. Walks: the reference's Leap, Month, Days of moments. Walks: the reference's date of moments. Walks: the reference's clock of moments. The reference's UTF-8 against the model's: plain. The reference's UTF-8 reader against the model's decoder: up to two bytes. The reference's UTF-8 reader against the model's decoder: three and four bytes. The reference's first invalid offset is the program's: plain. -/
import Derived.Test.YtoigpackhninoaaGreatDoorZ02
import Derived.Test.YtoigpackhninoaaGreatDoorZ13
import Derived.Test.YtoigpackhninoaaGreatDoorZ03
import Derived.Test.YtoigpackhninoaaGreatDoorGrReached
import Derived.Lib.Hide
import Derived.WalkSpells
import Derived.WalkLawsBesides
import Derived.Handy
import Derived.Laws.ResultCell
import Derived.RegionTactic
import Derived.BigRegion
import Derived.Test.YtoigpackhninoaaGreatDoorZ05
namespace Go.Proofs.YtoigpackhninoaaGreatDoor
open Go.RowKit
section
variable {P:Program} {ops:Array Oper} {md:Region.Mode}
def nopOf (o:Oper):Oper:={o with op:=.move (.const (.bool false)),dst:=none}
def earlierB (md:Region.Mode) (ops:Array Oper):Bool:=(List.range ops.size).all fun j=>((ops[j]?).map (·.after.all fun e=>!Region.binds md e || decide (e.on<j))).getD true
def apartB (ops:Array Oper):Bool:=(List.range ops.size).all fun i=>(List.range ops.size).all fun j=>decide (i=j) || match ops[i]?.bind (·.dst),ops[j]?.bind (·.dst)with
 |some a,some b=>decide (a≠b)
 |_,_=>true
def waitsB (md:Region.Mode) (ops:Array Oper) (s:Nat) (d:Tmp):Bool:=(List.range ops.size).all fun j=>!(decide (ops[j]?.bind (·.dst)=some d)) || Region.waitsFor md ops s j
theorem apart_of {i j:Nat} {a:Tmp} (h:apartB ops=true) (hi:i<ops.size) (hj:j<ops.size) (hne:i≠j) (ha:ops[i]?.bind (·.dst)=some a):ops[j]?.bind (·.dst)≠some a:=by
 intro hb;have h1:=List.all_eq_true.1 (List.all_eq_true.1 h i (List.mem_range.2 hi)) j (List.mem_range.2 hj);rw[ha,hb]at h1;simp[hne]at h1
theorem persist {C:World->Prop} {aF:Act} {d:Tmp}:∀(fuel:Nat) (listed:Array Bool) (a:Act),(∀j,listed.getD j true=false->ops[j]?.bind (·.dst)≠some d)->
 wpAnyQ P md ops C (fun a'=>a'=aF) fuel listed a->a.tmps[d]? =aF.tmps[d]?
 | 0,_,_,_,h=>by rw[h.2]
 |fuel+1,listed,a,hd,h=>by
  cases hr:Region.ready md ops listed with
  |nil=>rw[h.1 hr]
  |cons i l=>
   have hi:i∈Region.ready md ops listed:=by rw[hr];exact .head _
   obtain⟨hun,o,ho,_⟩:=mem_ready.1 hi;have hnd:o.dst≠some d:=by have:=hd i hun;rwa[ho]at this
   have hd':∀j,(listed.setIfInBounds i true).getD j true=false->ops[j]?.bind (·.dst)≠some d:=by
    intro j hj;by_cases hij:i=j
    ·subst hij;rw[ho];exact hnd
    ·rw[getD_set_ne true hij]at hj;exact hd j hj
   have key:∀v,wpAnyQ P md ops C (fun a'=>a'=aF) fuel (listed.setIfInBounds i true) (a.put o.dst v)->a.tmps[d]? =aF.tmps[d]? :=by
    intro v hv;have:=persist fuel _ _ hd' hv;rw[<-this];unfold Act.put;cases hod:o.dst with
    |none=>rfl
    |some d2=>
     simp only;rw[Array.getElem?_setIfInBounds_ne (by rintro rfl;exact hnd hod)]
   have h2:=h.2 i hi;unfold qOp at h2;simp only[ho]at h2;split at h2
   ·obtain⟨v,_,hv⟩:=h2;exact key v hv
   ·exact key _ h2
theorem put_same {a:Act} {dst:Option Tmp} {u v:Value} (h:∀d,dst=some d->(a.put dst u).tmps[d]? =(a.put dst v).tmps[d]?):a.put dst u=a.put dst v:=by
 cases dst with
 |none=>rfl
 |some d=>
  have h1:=h d rfl;unfold Act.put at h1 ⊢;simp only at h1 ⊢;by_cases hd:d<a.tmps.size
  ·rw[Array.getElem?_setIfInBounds_self_of_lt hd,Array.getElem?_setIfInBounds_self_of_lt hd]at h1;injection h1 with h1
   rw[h1]
  ·rw[Array.setIfInBounds_eq_of_size_le (Nat.not_lt.1 hd),Array.setIfInBounds_eq_of_size_le (Nat.not_lt.1 hd)]
theorem all_listed {listed:Array Bool} (he:earlierB md ops=true) (hsz:listed.size=ops.size) (hr:Region.ready md ops listed=[]):∀j,j<ops.size->listed.getD j false=true:=by
 intro j
 induction j using Nat.strongRecOn with
 |_ j ih=>
  intro hj;cases hl:listed.getD j false with
  |true=>rfl
  |false=>
   exfalso;have h1:j∈Region.ready md ops listed:=by
    rw[mem_ready];refine⟨getD_in (by omega) hl,ops[j],Array.getElem?_eq_getElem hj,fun e hee hb=>?_⟩;have h2:=List.all_eq_true.1 he j (List.mem_range.2 hj);rw[Array.getElem?_eq_getElem hj]at h2;simp only[Option.map_some,Option.getD_some]at h2;have h3:=Array.all_eq_true'.1 h2 e hee;simp only[hb,Bool.not_true,Bool.false_or,decide_eq_true_eq]at h3;exact ih e.on h3 (by omega)
   rw[hr]at h1;cases h1
variable {s:Nat} {os:Oper} {D:Bool->World->Prop} {aF:Act} {Q:Exit->Act->World->Prop}
theorem nop_at (_hs:ops[s]? =some os) {j:Nat} (hne:j≠s):(ops.setIfInBounds s (nopOf os))[j]? =ops[j]? :=Array.getElem?_setIfInBounds_ne (Ne.symm hne)
theorem nop_self (hs:ops[s]? =some os):(ops.setIfInBounds s (nopOf os))[s]? =some (nopOf os):=Array.getElem?_setIfInBounds_self_of_lt (Array.getElem?_eq_some_iff.1 hs).1
theorem nop_dst (hs:ops[s]? =some os) (hd:os.dst=none) (j:Nat):(ops.setIfInBounds s (nopOf os))[j]?.bind (·.dst)=ops[j]?.bind (·.dst):=by
 by_cases h:j=s
 ·subst h;rw[nop_self hs,hs];simp[nopOf,hd]
 ·rw[nop_at hs h]
theorem nop_yielded (hs:ops[s]? =some os) (hd:os.dst=none) (t:Array Value):yielded (ops.setIfInBounds s (nopOf os)) t=yielded ops t:=by
 funext j
 unfold yielded;rw[nop_dst hs hd]
theorem nop_ready (hs:ops[s]? =some os) (listed:Array Bool) (i:Nat):i∈Region.ready md (ops.setIfInBounds s (nopOf os)) listed↔i∈Region.ready md ops listed:=by
 rw[mem_ready,mem_ready];by_cases h:i=s
 ·subst h;rw[nop_self hs,hs];constructor
  ·rintro⟨a,o,ho,b⟩;injection ho with ho
   subst ho;exact⟨a,os,rfl,b⟩
  ·rintro⟨a,o,ho,b⟩;injection ho with ho
   subst ho;exact⟨a,_,rfl,b⟩
 ·rw[nop_at hs h]
theorem late_main {p q:Tmp} {ty:TypeId} (hs:ops[s]? =some os) (hd:os.dst=none) (hg:os.guard=none) (hop:os.op=.store ty (.tmp p) (.tmp q)) (he:earlierB md ops=true) (hap:apartB ops=true) (hp:waitsB md ops s p=true) (hq:waitsB md ops s q=true)
 (hst:∀w,D false w->∃w',(execOp aF.eval os).run P w=.ok .skip w'/\D true w') (hend:∀w,D true w->Q .normal aF w):
 ∀(fuel:Nat) (listed:Array Bool) (a:Act) (w:World),listed.size=ops.size->(∀b,wpAnyQ P md (ops.setIfInBounds s (nopOf os)) (D b) (fun a'=>a'=aF) fuel listed a)->D (listed.getD s false) w->wpAny P md ops Q fuel listed a w:=by
 have hsz:s<ops.size:=(Array.getElem?_eq_some_iff.1 hs).1;have hdone:∀(listed:Array Bool) (w:World),listed.size=ops.size->Region.ready md ops listed=[]->D (listed.getD s false) w->D true w:=fun listed w h1 h2 h3=>by
  rwa[all_listed he h1 h2 s hsz]at h3
 have hrd:∀listed,Region.ready md (ops.setIfInBounds s (nopOf os)) listed=[]↔Region.ready md ops listed=[]:=fun listed=>by
  rw[List.eq_nil_iff_forall_not_mem,List.eq_nil_iff_forall_not_mem];exact forall_congr' (fun i=>not_congr (nop_ready hs listed i))
 intro fuel
 induction fuel with
 |zero=>
  intro listed a w h1 h2 h3;have h4:=h2 true;refine⟨(hrd listed).1 h4.1,?_⟩;rw[h4.2];exact hend w (hdone listed w h1 ((hrd listed).1 h4.1) h3)
 |succ fuel ih=>
  intro listed a w h1 h2 h3;refine⟨fun hr=>?_,fun i hi=>?_⟩
  ·rw[(h2 true).1 ((hrd listed).2 hr)];exact hend w (hdone listed w h1 hr h3)
  ·obtain⟨hun,o,ho,hall⟩:=mem_ready.1 hi;have hisz:i<ops.size:=(Array.getElem?_eq_some_iff.1 ho).1;have hi':=(nop_ready (md:=md) hs listed i).2 hi;have hsz':(listed.setIfInBounds i true).size=ops.size:=by simpa using h1
   by_cases his:i=s
   ·subst his;obtain rfl:o=os:=Option.some.inj (ho.symm.trans hs);have hnx:∀b,wpAnyQ P md (ops.setIfInBounds i (nopOf o)) (D b) (fun a'=>a'=aF) fuel (listed.setIfInBounds i true) a:=fun b=>by
     have h4:=(h2 b).2 i hi';unfold qOp at h4;rw[nop_self hs]at h4;simp only at h4;rw[if_pos (show Region.wanted (nopOf o) _=true by simp[Region.wanted,nopOf,hg])]at h4;obtain⟨v,_,hv⟩:=h4;exact hv
    have hslot:∀d,waitsB md ops i d=true->a.tmps[d]? =aF.tmps[d]? :=fun d hwd=>by
     refine persist (C:=D true) fuel _ a (fun j hj hjd=>?_) (hnx true);rw[nop_dst hs hd]at hjd;have hjs:j<ops.size:=by
      rcases Nat.lt_or_ge j ops.size with h|h
      ·exact h
      ·rw[Array.getElem?_eq_none h]at hjd;cases hjd
     have h5:=List.all_eq_true.1 hwd j (List.mem_range.2 hjs);rw[decide_eq_true hjd]at h5;simp only[Bool.not_true,Bool.false_or]at h5;obtain⟨oj,hoj,e,hee,heb,heo⟩:=Region.waitsFor_spec h5;obtain rfl:oj=o:=Option.some.inj (hoj.symm.trans ho);have h6:=hall e hee heb;rw[heo]at h6;by_cases hij:i=j
     ·subst hij;rw[hs]at hjd;simp[hd]at hjd
     ·rw[getD_set_ne true hij]at hj;rw[getD_both hj]at h6;cases h6
    have hfl:listed.getD i false=false:=getD_both hun;rw[hfl]at h3;obtain⟨w',hrun,hD⟩:=hst w h3;have hev:execOp a.eval o=execOp aF.eval o:=by
     have e1:a.eval (.tmp p)=aF.eval (.tmp p):=by
      show a.tmps.getD p undef=aF.tmps.getD p undef;rw[Array.getD_eq_getD_getElem?,Array.getD_eq_getD_getElem?,hslot p hp]
     have e2:a.eval (.tmp q)=aF.eval (.tmp q):=by
      show a.tmps.getD q undef=aF.tmps.getD q undef;rw[Array.getD_eq_getD_getElem?,Array.getD_eq_getD_getElem?,hslot q hq]
     unfold execOp;rw[hop];simp only[e1,e2]
    unfold wpOp;rw[ho];simp only[Region.wanted,hg,if_true];left;unfold Oper.wp;rw[hev,hrun];show wpAny P md ops Q fuel (listed.setIfInBounds i true) (a.put o.dst undef) w';rw[hd];refine ih _ a w' hsz' hnx ?_;rw[show(listed.setIfInBounds i true).getD i false=true from by
     have:i<listed.size:=by omega
     simp[this]]
    exact hD
   ·have hfl:(listed.setIfInBounds i true).getD s false=listed.getD s false:=getD_set_ne false his;have hoi':(ops.setIfInBounds s (nopOf os))[i]? =some o:=by rw[nop_at hs his,ho]
    have hnext:∀b,(if Region.wanted o (yielded ops a.tmps)then o.quiet P a (D b) (wpAnyQ P md (ops.setIfInBounds s (nopOf os)) (D b) (fun a'=>a'=aF) fuel (listed.setIfInBounds i true))else wpAnyQ P md (ops.setIfInBounds s (nopOf os)) (D b) (fun a'=>a'=aF) fuel (listed.setIfInBounds i true) (a.put o.dst undef)):=fun b=>by
     have h4:=(h2 b).2 i hi';unfold qOp at h4;rw[hoi']at h4;simp only[nop_yielded hs hd]at h4;exact h4
    unfold wpOp;rw[ho];simp only;by_cases hw:Region.wanted o (yielded ops a.tmps)=true
    ·rw[if_pos hw];left;simp only[hw,if_true]at hnext;have hval:∀(b b':Bool) (v v':Value),wpAnyQ P md (ops.setIfInBounds s (nopOf os)) (D b) (fun a'=>a'=aF) fuel (listed.setIfInBounds i true) (a.put o.dst v)->wpAnyQ P md (ops.setIfInBounds s (nopOf os)) (D b') (fun a'=>a'=aF) fuel (listed.setIfInBounds i true) (a.put o.dst v')->a.put o.dst v=a.put o.dst v':=fun b b' v v' k1 k2=>by
      refine put_same (fun d hod=>?_);have hfree:∀j,(listed.setIfInBounds i true).getD j true=false->(ops.setIfInBounds s (nopOf os))[j]?.bind (·.dst)≠some d:=fun j hj=>by
       rw[nop_dst hs hd];have hij:i≠j:=by
        rintro rfl;have:i<listed.size:=by omega
        simp[this]at hj
       by_cases hjs:j<ops.size
       ·exact apart_of hap hisz hjs hij (by rw[ho];exact hod)
       ·rw[Array.getElem?_eq_none (by omega)];simp
      rw[persist fuel _ _ hfree k1,persist fuel _ _ hfree k2]
     obtain⟨v,hv,hk⟩:=hnext (listed.getD s false);refine Oper.wp_of_quiet (C:=D (listed.getD s false)) (K:=fun a'=>∀b,wpAnyQ P md (ops.setIfInBounds s (nopOf os)) (D b) (fun a''=>a''=aF) fuel (listed.setIfInBounds i true) a') h3 (fun a' w' hw' hk'=>ih _ a' w' hsz' hk' (by rw[hfl];exact hw')) ⟨v,hv,fun b=>?_⟩;obtain⟨v',_,hk'⟩:=hnext b;rw[hval _ _ v v' hk hk'];exact hk'
    ·rw[if_neg hw];simp only[hw]at hnext;exact ih _ _ w hsz' (fun b=>by simpa using hnext b) (by rw[hfl];exact h3)
theorem wp_region_late {id:Nat} {l:List Oper} {a:Act} {w:World} {p q:Tmp} {ty:TypeId} (s:Nat) (hm:P.follows .mixedOrders=true) (l':List Oper) (hs:l.toArray[s]? =some os) (hl':l'=l.set s (nopOf os)) (hd:os.dst=none) (hg:os.guard=none) (hop:os.op=.store ty (.tmp p) (.tmp q))
 (hB:Region.lexB .any l'.toArray=true) (he:earlierB .any l.toArray=true) (hap:apartB l.toArray=true) (hp:waitsB .any l.toArray s p=true) (hq:waitsB .any l.toArray s q=true) (D:Bool->World->Prop) (hD:D false {w with drawn:=w.drawn+1})
 (h:∀b,wpQuiet P l'.toArray (D b) (fun a'=>a'=aF) l' a)
 (hst:∀w,D false w->∃w',(execOp aF.eval os).run P w=.ok .skip w'/\D true w') (hend:∀w,D true w->Q .normal aF w):(Code.region id l.toArray true).wp P Q a w:=by
 simp only[Region.lexB,Bool.and_eq_true]at hB;have e:l.toArray.setIfInBounds s (nopOf os)=l'.toArray:=by rw[hl'];simp
 have hsz:l'.length=l.toArray.size:=by rw[hl'];simp
 refine wp_region_any hm ?_;have hsl:s<l.toArray.size:=(Array.getElem?_eq_some_iff.1 hs).1;refine late_main hs hd hg hop he hap hp hq hst hend _ _ a _ (by simp) (fun b=>?_) (by rw[getD_replicate_false];exact hD);rw[e,<-hsz];have:=wpAnyQ_lex (C:=D b) (md:=.any) hB.1 l' 0 (Array.replicate l'.length false) a (by simp) (by simpa using hB.2) (h b);exact this
end
structure WL (g:Nat) (t:TypeId) (w0:World) (cs:Array Value) where
 w:World
 h:KB g w0 w
 hc:Blk w g t cs
theorem Calls.late {P:Program} {f:FuncId} {args:Array Value} {g:Nat} {t:TypeId} {w0:World} {cs:Array Value} {x:WL g t w0 cs} {v:Value} (h:Calls P f args x.w fun e w'=>e=.returned v/\Below x.w.heap.size x.w w'):
 Calls P f args x.w fun e w''=>e=.returned v/\∃y:WL g t w0 cs,w''=y.w:=h.mono fun _ _ ⟨he,hb⟩=>⟨he,⟨_,x.h.trans (KB.of_below hb),x.hc.below hb x.hc.lt⟩,rfl⟩
end Go.Proofs.YtoigpackhninoaaGreatDoor
namespace Go.Proofs.YtoigpackhninoaaGreatDoor
set_option maxRecDepth 100000
set_option maxHeartbeats 16000000
open Go.RowKit
def tw (s:Gr.Str) (a n:Nat):Int:=match Gr.numAt s a n with
 |some v=>(v:Int)
 |none=>-1
theorem dig_nat (c:UInt8) (b:Nat) (hb:c.toNat=b):Gr.dig c=(decide (48<=b) && decide (b<=57))/\Gr.dv c=b-48:=by
 subst hb;refine⟨?_,rfl⟩;rw[Bool.eq_iff_iff,Gr.dig_iff];simp
theorem take_next (s:Gr.Str) (a k:Nat) (h:a+k<s.length):(s.drop a).take (k+1)=(s.drop a).take k++[s[a+k]]:=by
 rw[List.take_succ_eq_append_getElem (by simp;omega),List.getElem_drop]
theorem numAt_no (s:Gr.Str) (a n k:Nat) (hk:k<n) (h:a+k<s.length) (hd:Gr.dig s[a+k]=false):Gr.numAt s a n=none:=by
 unfold Gr.numAt;rw[if_neg];rintro⟨h1,h2⟩;rw[List.all_eq_true]at h2;have:=h2 s[a+k] (by
  rw[List.mem_take_iff_getElem];exact⟨k,by simp;omega,by rw[List.getElem_drop]⟩)
 rw[hd]at this;cases this
theorem numAt_short (s:Gr.Str) (a n:Nat) (h:s.length<a+n):Gr.numAt s a n=none:=by
 unfold Gr.numAt;rw[if_neg (fun hc=>by omega)]
theorem numAt_all (s:Gr.Str) (a n:Nat) (h:a+n<=s.length) (hd:((s.drop a).take n).all Gr.dig=true):Gr.numAt s a n=some (Gr.val ((s.drop a).take n)):=by
 unfold Gr.numAt;rw[if_pos ⟨h,hd⟩]
theorem val_bd (l:Gr.Str) (hd:l.all Gr.dig=true) (h:l.length<=9):Gr.val l<1000000000:=Nat.lt_of_lt_of_le (Gr.val_lt l hd) (Nat.pow_le_pow_right (n:=10) (by omega) h)
theorem numAt_bd {s:Gr.Str} {a n v:Nat} (h:Gr.numAt s a n=some v) (hn:n<=9):v<1000000000/\v<10 ^ n/\a+n<=s.length:=by
 unfold Gr.numAt at h;split at h
 ·rename_i hc;injection h with h
  subst h;have hlen:((s.drop a).take n).length=n:=by simp;omega
  have:=Gr.val_lt _ hc.2;rw[hlen]at this;exact⟨val_bd _ hc.2 (by omega),this,hc.1⟩
 ·cases h
theorem two_any (s:Gr.Str) (hl:s.length<=1073741823) (a n:Nat) (i j:Int) (hi:i=(a:Int)) (hj:j=(n:Int)) (ha:a<=2147483647) (hn:n<=9) (w:World):
 Calls Tryz.prog 163 #[.string ⟨s.toArray⟩,.int .i64 i,.int .i64 j] w fun e w'=>e=.returned (.int .i64 (tw s a n))/\w=w':=by
 subst hi;subst hj;obtain⟨r,hr⟩:∃r,tw s a n=r:=⟨_,rfl⟩
 have HR:=Lib.hid hr;rw[hr];clear hr;by_cases hlen:s.length<a+n
 ·have hlI:(s.length:Int)<(a:Int)+(n:Int):=by omega
  have HF:Hid (r=-1):=Lib.hid (by rw[<-HR.out];unfold tw;rw[numAt_short s a n hlen]);go_enter Tryz.func163,Tryz.ntmps163;go_wp2_with fail;go_ret;rw[HF.out];exact⟨rfl,rfl⟩
 ·have hlI:¬(s.length:Int)<(a:Int)+(n:Int):=by omega
  go_enter Tryz.func163,Tryz.ntmps163;go_wp2_with fail;go_loop [7,8] (fun s7 s8=>∃k v:Nat,k<=n/\v<=999999999/\s7=.int .i64 (v:Int)/\s8=.int .i64 ((a+k:Nat):Int)/\Hid (((s.drop a).take k).all Gr.dig=true/\v=Gr.val ((s.drop a).take k))) (fun _ s8=>a+n-(intOf s8).toNat)
  case atStart=>exact⟨0,0,by omega,by omega,rfl,rfl,Lib.hid ⟨by simp,by simp[Gr.val]⟩⟩
  case round=>
   obtain⟨k,v,hk,hv,rfl,rfl,HV⟩:=hrel;by_cases hlt:k<n
   ·have hltI:((a+k:Nat):Int)<(a:Int)+(n:Int):=by omega
    have hltS:a+k<s.length:=by omega
    obtain⟨b,hb⟩:∃b:Nat,(s[a+k]'hltS).toNat=b:=⟨_,rfl⟩
    have hbv:(((⟨s.toArray⟩:ByteArray)[a+k]'(by simpa[ByteArray.size]using hltS)).toNat:Int)=(b:Int):=by rw[<-hb];rfl
    have hbl:b<256:=by rw[<-hb];exact(s[a+k]'hltS).toNat_lt
    have HBD:=Lib.hid (dig_nat (s[a+k]'hltS) b hb);clear hb;by_cases h48:48<=b
    ·have a48:¬(b:Int)<48:=by omega
     have b48:(48:Int)<=(b:Int):=by omega
     by_cases h57:b<=57
     ·have a57:¬(57:Int)<(b:Int):=by omega
      have HT:=Lib.hid (take_next s a k hltS);have HNX:Hid (((s.drop a).take (k+1)).all Gr.dig=true/\10*v+(b-48)=Gr.val ((s.drop a).take (k+1))):=Lib.hid (by
       rw[HT.out,List.all_append,HV.out.1,Gr.val_snoc,<-HV.out.2,HBD.out.2];exact⟨by simp[HBD.out.1,h48,h57],rfl⟩)
      have hvn:10*v+(b-48)<=999999999:=by
       rw[HNX.out.2];have:=val_bd _ HNX.out.1 (by simp;omega);omega
      clear hlI;go_wp2_with fail;go_round
      case rel=>exact⟨k+1,10*v+(b-48),by omega,hvn,by exact congrArg (Value.int .i64) (by omega),by go_num,HNX⟩
      case measure=>simp[intOf];omega
     ·have a57:(57:Int)<(b:Int):=by omega
      have HF:Hid (r=-1):=Lib.hid (by rw[<-HR.out];unfold tw;rw[numAt_no s a n k hlt hltS (by rw[HBD.out.1];simp[h57])]);go_wp2_with fail;go_ret;rw[HF.out];exact⟨rfl,rfl⟩
    ·have a48:(b:Int)<48:=by omega
     have HF:Hid (r=-1):=Lib.hid (by rw[<-HR.out];unfold tw;rw[numAt_no s a n k hlt hltS (by rw[HBD.out.1];simp[h48])]);go_wp2_with fail;go_ret;rw[HF.out];exact⟨rfl,rfl⟩
   ·obtain rfl:k=n:=by omega
    have hltI:¬((a+k:Nat):Int)<(a:Int)+(k:Int):=by omega
    have HF:Hid (r=(v:Int)):=Lib.hid (by rw[<-HR.out];unfold tw;rw[numAt_all s a k (by omega) HV.out.1,HV.out.2]);go_wp2_with fail;go_ret;rw[HF.out];exact⟨rfl,rfl⟩
theorem is_any (s:Gr.Str) (_hl:s.length<=1073741823) (a:Nat) (i:Int) (hi:i=(a:Int)) (c:UInt8) (j:Int) (hj:j=(c.toNat:Int)) (w:World):
 Calls Tryz.prog 136 #[.string ⟨s.toArray⟩,.int .i64 i,.int .u8 j] w fun e w'=>e=.returned (.bool (Gr.isAt s a c))/\w=w':=by
 subst hi;subst hj;obtain⟨r,hr⟩:∃r,Gr.isAt s a c=r:=⟨_,rfl⟩
 have HR:=Lib.hid hr;rw[hr];clear hr;obtain⟨d,hd⟩:∃d:Nat,c.toNat=d:=⟨_,rfl⟩
 have HD:=Lib.hid hd;rw[hd];clear hd;by_cases hlt:a<s.length
 ·have hltI:(a:Int)<(s.length:Int):=by omega
  obtain⟨b,hb⟩:∃b:Nat,(s[a]'hlt).toNat=b:=⟨_,rfl⟩
  have hbv:(((⟨s.toArray⟩:ByteArray)[a]'(by simpa[ByteArray.size]using hlt)).toNat:Int)=(b:Int):=by rw[<-hb];rfl
  have HF:Hid (((b:Int)==(d:Int))=r):=Lib.hid (by
   rw[<-HR.out];unfold Gr.isAt;rw[List.getElem?_eq_getElem hlt,Bool.eq_iff_iff];simp only[beq_iff_eq,Option.some.injEq];rw[<-UInt8.toNat_inj,HD.out,hb];omega)
  clear hb;go_enter Tryz.func136,Tryz.ntmps136;go_wp2_with fail;go_ret;rw[<-HF.out];exact⟨rfl,rfl⟩
 ·have hltI:¬(a:Int)<(s.length:Int):=by omega
  have HF:Hid (r=false):=Lib.hid (by
   rw[<-HR.out];unfold Gr.isAt;rw[List.getElem?_eq_none (by omega)];rfl)
  go_enter Tryz.func136,Tryz.ntmps136;go_wp2_with fail;go_ret;rw[HF.out];exact⟨rfl,rfl⟩
end Go.Proofs.YtoigpackhninoaaGreatDoor
namespace Go.Proofs.YtoigpackhninoaaGreatDoor
set_option maxRecDepth 100000
set_option maxHeartbeats 16000000
open Go.RowKit
theorem rleap_any (y:Int) (w:World):
 Calls Tryz.prog 164 #[.int .i64 y] w fun e w'=>e=.returned (.bool (Cal.leapB y))/\w=w':=by
 go_enter Tryz.func164,Tryz.ntmps164;go_wp2
 all_goals go_ret
 all_goals exact⟨congrArg (fun b=>Ending.returned (.bool b)) (by simp[Cal.leapB, *]),rfl⟩
theorem rmonth_any (y m:Int) (_h1:1<=m) (_h2:m<=12) (w:World):
 Calls Tryz.prog 138 #[.int .i64 y,.int .i64 m] w fun e w'=>e=.returned (.int .i64 (Cal.dim y m))/\w=w':=by
 go_enter Tryz.func138,Tryz.ntmps138;go_wp2_with (go_at_call 164;refine(rleap_any _ _).mono ?_;rintro e w' ⟨rfl,rfl⟩)
 all_goals go_ret
 all_goals exact⟨congrArg (fun b=>Ending.returned (.int .i64 b)) (by simp_all [Cal.dim,Cal.lp]),rfl⟩
theorem rdays_any (y m d:Int) (h0:0<=y) (h1:y<=20000) (h2:1<=m) (h3:m<=12) (h4:0<=d) (h5:d<=1000) (w:World):
 Calls Tryz.prog 162 #[.int .i64 y,.int .i64 m,.int .i64 d] w fun e w'=>e=.returned (.int .i64 (Cal.num y m d))/\w=w':=by
 have HF:Hid (Cal.fst y=365*y+(y+3) /4-(y+99) /100+(y+399) /400):=Lib.hid rfl;have hb0:0<=365*y+(y+3) /4-(y+99) /100+(y+399) /400:=by omega
 have hb1:365*y+(y+3) /4-(y+99) /100+(y+399) /400<=10000000:=by omega
 go_enter Tryz.func162,Tryz.ntmps162;go_wp2_with fail;go_loop [7,8] (fun n i=>∃k c:Int,1<=k/\k<=m/\0<=c/\c<=366/\i=.int .i64 k/\n=.int .i64 (365*y+(y+3) /4-(y+99) /100+(y+399) /400-719528+c)/\Hid (Cal.cum y k=c)) (fun _ i=>(13-intOf i).toNat)
 case atStart=>exact⟨1,0,by omega,by omega,by omega,by omega,rfl,by exact congrArg (Value.int .i64) (by omega),Lib.hid rfl⟩
 case round=>
  obtain⟨k,c,hk1,hk2,hc0,hc1,rfl,rfl,HC⟩:=hrel;by_cases hlt:k<m
  ·have db:=Cal.dim_bd y k;have CS:=Lib.hid (Cal.cum_succ y k (by omega) (by omega));have cb:=Cal.cum_bd y (k+1);have CB:=Lib.hid cb;clear cb;obtain⟨q,hq⟩:∃q,Cal.dim y k=q:=⟨_,rfl⟩
   have HQ:Hid (∀W,Calls Tryz.prog 138 #[.int .i64 y,.int .i64 k] W fun e w'=>e=.returned (.int .i64 q)/\W=w'):=Lib.hid (fun W=>by rw[<-hq];exact rmonth_any y k (by omega) (by omega) W);rw[hq]at db CS;clear hq;go_wp2_with fail;refine(HQ.out _).mono ?_;rintro e w' ⟨rfl,rfl⟩;go_wp2_with fail;go_round
   case rel=>exact⟨k+1,c+q,by omega,by omega,by omega,by have:=CS.out;have:=CB.out;have:=HC.out;omega,rfl,by exact congrArg (Value.int .i64) (by omega),Lib.hid (by rw[CS.out,HC.out])⟩
   case measure=>simp[intOf];omega
  ·obtain rfl:k=m:=by omega
   have HN:Hid (Cal.num y k d=365*y+(y+3) /4-(y+99) /100+(y+399) /400-719528+c+d-1):=Lib.hid (by unfold Cal.num;rw[HF.out,HC.out];omega);go_wp2_with fail;go_ret;rw[HN.out];exact⟨rfl,rfl⟩
end Go.Proofs.YtoigpackhninoaaGreatDoor
namespace Go.Proofs.YtoigpackhninoaaGreatDoor
set_option maxRecDepth 100000
set_option maxHeartbeats 16000000
open Go.RowKit
structure RT where
 date:Bool
 time:Bool
 zone:Bool
 y:Int
 m:Int
 d:Int
 h:Int
 mi:Int
 c:Int
 nanos:Int
 off:Int
 late:Bool
def RT.v (t:RT):Value:=.agg #[.bool t.date,.bool t.time,.bool t.zone,.int .i64 t.y,.int .i64 t.m,.int .i64 t.d,.int .i64 t.h,.int .i64 t.mi,.int .i64 t.c,.int .i64 t.nanos,.int .i64 t.off,.bool t.late]
def RT.cs (t:RT):Array Value:=(T12 t.date t.time t.zone t.y t.m t.d t.h t.mi t.c t.nanos t.off t.late)
def RT.z:RT:=⟨false,false,false,0,0,0,0,0,0,0,0,false⟩
theorem tw_bd (s:Gr.Str) (a n:Nat) (hn:n<=9):-1<=tw s a n/\tw s a n<=999999999:=by
 unfold tw;split
 ·rename_i v h;have:=numAt_bd h hn;omega
 ·omega
theorem tw_some {s:Gr.Str} {a n:Nat} (h:¬tw s a n<0):∃v:Nat,Gr.numAt s a n=some v/\tw s a n=(v:Int):=by
 unfold tw at h ⊢;split
 ·rename_i v hv;exact⟨v,by rw[hv],rfl⟩
 ·rename_i hv;rw[hv]at h;simp at h
theorem tw_none {s:Gr.Str} {a n:Nat} (h:tw s a n<0):Gr.numAt s a n=none:=by
 unfold tw at h;split at h
 ·omega
 ·assumption
def DatePost (s:Gr.Str) (w:World) (e:Ending) (w':World):Prop:=∃(t:RT) (r:Int),e=.returned (.tuple #[t.v,.int .i64 r])/\Below w.heap.size w w'/\
 match Gr.dateAt s with
 |none=>r=-1
 |some (y,m,d)=>r=10/\t=⟨true,false,false,y,m,d,0,0,0,0,0,false⟩
theorem below_two {w:World} (a b:Obj):Below w.heap.size w ((w.alloc a).alloc b):=((Below.refl _ _).alloc (Nat.le_refl _) _).alloc (by simp) _
theorem rdate_any (s:Gr.Str) (hl:s.length<=1073741823) (w:World):
 Calls Tryz.prog 134 #[.string ⟨s.toArray⟩,.int .i64 0,.agg #[.bool false,.bool false,.bool false,.int .i64 0,.int .i64 0,.int .i64 0,.int .i64 0,.int .i64 0,.int .i64 0,.int .i64 0,.int .i64 0,.bool false]] w (DatePost s w):=by
 have HT1:=Lib.hid (fun W=>two_any s hl 0 4 0 4 rfl rfl (by omega) (by omega) W);have HT2:=Lib.hid (fun W=>two_any s hl 5 2 5 2 rfl rfl (by omega) (by omega) W);have HT3:=Lib.hid (fun W=>two_any s hl 8 2 8 2 rfl rfl (by omega) (by omega) W);have HI1:=Lib.hid (fun W=>is_any s hl 4 4 rfl 45 45 rfl W);have HI2:=Lib.hid (fun W=>is_any s hl 7 7 rfl 45 45 rfl W);have HSY:=Lib.hid (fun h=> @tw_some s 0 4 h);have HSM:=Lib.hid (fun h=> @tw_some s 5 2 h);have HSD:=Lib.hid (fun h=> @tw_some s 8 2 h);have HNY:=Lib.hid (fun h=> @tw_none s 0 4 h);have HNM:=Lib.hid (fun h=> @tw_none s 5 2 h);have HND:=Lib.hid (fun h=> @tw_none s 8 2 h);have bY:=tw_bd s 0 4 (by omega);have bM:=tw_bd s 5 2 (by omega);have bD:=tw_bd s 8 2 (by omega);obtain⟨Y,hY⟩:∃Y,tw s 0 4=Y:=⟨_,rfl⟩
 obtain⟨M,hM⟩:∃M,tw s 5 2=M:=⟨_,rfl⟩
 obtain⟨D,hD⟩:∃D,tw s 8 2=D:=⟨_,rfl⟩
 obtain⟨p,hp⟩:∃p,Gr.isAt s 4 45=p:=⟨_,rfl⟩
 obtain⟨q,hq⟩:∃q,Gr.isAt s 7 45=q:=⟨_,rfl⟩
 have HP:Hid (Gr.isAt s 4 45=p/\Gr.isAt s 7 45=q):=Lib.hid ⟨hp,hq⟩;rw[hY]at HT1 HSY HNY bY;rw[hM]at HT2 HSM HNM bM;rw[hD]at HT3 HSD HND bD;rw[hp]at HI1;rw[hq]at HI2;clear hY hM hD hp hq;have hc:Y<0\/(¬Y<0/\M<0)\/(¬Y<0/\¬M<0/\D<0)\/(¬Y<0/\¬M<0/\¬D<0/\p=false)\/(¬Y<0/\¬M<0/\¬D<0/\p=true/\q=false)\/(¬Y<0/\¬M<0/\¬D<0/\p=true/\q=true):=by
  cases p<;>cases q<;>simp<;>omega
 have go:∀(r:Int) (ok:Bool) (w':World),Below w.heap.size w w'->(Gr.dateAt s=none/\r=-1\/∃y m d:Nat,Gr.dateAt s=some (y,m,d)/\r=10/\ok=true/\Y=y/\M=m/\D=d)->DatePost s w (.returned (.tuple #[.agg #[.bool ok,.bool false,.bool false,.int .i64 Y,.int .i64 M,.int .i64 D,.int .i64 0,.int .i64 0,.int .i64 0,.int .i64 0,.int .i64 0,.bool false],.int .i64 r])) w':=by
  intro r ok w' hb h;refine⟨⟨ok,false,false,Y,M,D,0,0,0,0,0,false⟩,r,rfl,hb,?_⟩;rcases h with⟨h1,h2⟩|⟨y,m,d,h1,h2,h3,rfl,rfl,rfl⟩
  ·rw[h1];exact h2
  ·rw[h1];exact⟨h2,by rw[h3]⟩
 have HGO:=Lib.hid go;clear go;rcases hc with c1|⟨c1,c2⟩|⟨c1,c2,c3⟩|⟨c1,c2,c3,rfl⟩|⟨c1,c2,c3,rfl,rfl⟩|⟨c1,c2,c3,rfl,rfl⟩
 case inr.inr.inr.inr.inr=>
  have HF:Hid (∃y m d:Nat,Gr.dateAt s=some (y,m,d)/\Y=y/\M=m/\D=d):=Lib.hid (by
   obtain⟨y,h1,h2⟩:=HSY.out c1;obtain⟨m,h3,h4⟩:=HSM.out c2;obtain⟨d,h5,h6⟩:=HSD.out c3;refine⟨y,m,d,?_,h2,h4,h6⟩;unfold Gr.dateAt;rw[h1,h3,h5,HP.out.1,HP.out.2];rfl)
  go_enter Tryz.func134,Tryz.ntmps134;go_wp2_with fail;refine(HT1.out _).mono ?_;rintro e w1 ⟨rfl,rfl⟩;go_wp2_with fail;refine(HT2.out _).mono ?_;rintro e w1 ⟨rfl,rfl⟩;go_wp2_with fail;refine(HT3.out _).mono ?_;rintro e w1 ⟨rfl,rfl⟩;go_wp2_with fail;refine(HI1.out _).mono ?_;rintro e w1 ⟨rfl,rfl⟩;go_wp2_with fail;refine(HI2.out _).mono ?_;rintro e w1 ⟨rfl,rfl⟩;go_wp2_with fail;refine bodyPost_ret (v:=.tuple #[.agg #[.bool true,.bool false,.bool false,.int .i64 Y,.int .i64 M,.int .i64 D,.int .i64 0,.int .i64 0,.int .i64 0,.int .i64 0,.int .i64 0,.bool false],.int .i64 10]) (by rw[results_cell_tmp rfl];go_simp) rfl ?_;refine HGO.out _ _ _ (below_two _ _) (.inr ?_);obtain⟨y,m,d,h1,h2,h3,h4⟩:=HF.out;exact⟨y,m,d,h1,rfl,rfl,h2,h3,h4⟩
 all_goals
  have HF:Hid (Gr.dateAt s=none):=Lib.hid (by
   unfold Gr.dateAt
   first
    | (rw[HNY.out c1])
    | (obtain⟨y,h1,_⟩:=HSY.out c1;rw[h1,HNM.out c2])
    | (obtain⟨y,h1,_⟩:=HSY.out c1;obtain⟨m,h3,_⟩:=HSM.out c2;rw[h1,h3,HND.out c3])
    | (obtain⟨y,h1,_⟩:=HSY.out c1;obtain⟨m,h3,_⟩:=HSM.out c2;obtain⟨d,h5,_⟩:=HSD.out c3;rw[h1,h3,h5,HP.out.1,HP.out.2];rfl)
    | (obtain⟨y,h1,_⟩:=HSY.out c1;obtain⟨m,h3,_⟩:=HSM.out c2;obtain⟨d,h5,_⟩:=HSD.out c3;rw[h1,h3,h5,HP.out.1];rfl))
  go_enter Tryz.func134,Tryz.ntmps134;go_wp2_with fail;refine(HT1.out _).mono ?_;rintro e w1 ⟨rfl,rfl⟩;go_wp2_with fail;refine(HT2.out _).mono ?_;rintro e w1 ⟨rfl,rfl⟩;go_wp2_with fail;refine(HT3.out _).mono ?_;rintro e w1 ⟨rfl,rfl⟩;go_wp2_with fail;(try (refine(HI1.out _).mono ?_;rintro e w1 ⟨rfl,rfl⟩;go_wp2_with fail));(try (refine(HI2.out _).mono ?_;rintro e w1 ⟨rfl,rfl⟩;go_wp2_with fail));refine bodyPost_ret (v:=.tuple #[.agg #[.bool false,.bool false,.bool false,.int .i64 Y,.int .i64 M,.int .i64 D,.int .i64 0,.int .i64 0,.int .i64 0,.int .i64 0,.int .i64 0,.bool false],.int .i64 (-1)]) (by rw[results_cell_tmp rfl];go_simp) rfl ?_;exact HGO.out _ _ _ (below_two _ _) (.inl ⟨HF.out,rfl⟩)
end Go.Proofs.YtoigpackhninoaaGreatDoor
namespace Go.Proofs.YtoigpackhninoaaGreatDoor
open Go.RowKit
def ClockPost (s:Gr.Str) (a:Nat) (date:Bool) (Y M D:Int) (w:World) (e:Ending) (w':World):Prop:=∃(t:RT) (r:Int),e=.returned (.tuple #[t.v,.int .i64 r])/\Below w.heap.size w w'/\
 match Gr.clockAt s a with
 |none=>r=-1
 |some k=>r=(k.stop:Int)/\t=⟨date,true,false,Y,M,D,k.h,k.m,k.s,k.nanos,0,false⟩
def fracU (n:Nat):Nat:=if n<=8 then 10 ^ (8-n)else 0
structure Frac (s:Gr.Str) (b n N U:Nat):Prop where
 le:b+n<=s.length
 dig:((s.drop b).take n).all Gr.dig=true
 u:U=fracU n
 nn:n<=9->N=Gr.val ((s.drop b).take n)*10 ^ (9-n)
 hi:N<=999999999
theorem fracU_div (n:Nat):fracU n /10=fracU (n+1):=by
 unfold fracU;by_cases h:n+1<=8
 ·rw[if_pos (by omega),if_pos h,show 8-n=(8-(n+1))+1 from by omega,Nat.pow_succ,Nat.mul_div_cancel _ (by omega)]
 ·rw[if_neg h];by_cases h8:n<=8
  ·rw[if_pos h8,show 8-n=0 from by omega]
  ·rw[if_neg h8]
theorem Frac.start {s:Gr.Str} {b:Nat} (h:b<=s.length):Frac s b 0 0 100000000:=⟨h,by simp,by simp[fracU],fun _=>by simp[Gr.val],by omega⟩
theorem Frac.next {s:Gr.Str} {b n N U:Nat} (h:Frac s b n N U) (hlt:b+n<s.length) (hd:Gr.dig (s[b+n])=true):Frac s b (n+1) (N+U*Gr.dv s[b+n]) (U /10):=by
 have ht:=take_next s b n hlt;have hda:((s.drop b).take (n+1)).all Gr.dig=true:=by rw[ht,List.all_append,h.dig];simp[hd]
 refine⟨by omega,hda,by rw[h.u,fracU_div],?_,?_⟩
 ·intro hn;rw[h.nn (by omega),ht,Gr.val_snoc,h.u];unfold fracU;rw[if_pos (by omega),show 9-n=(8-n)+1 from by omega,Nat.pow_succ,show 9-(n+1)=8-n from by omega];rw[Nat.add_mul,Nat.mul_comm (10 ^ (8-n)) (Gr.dv _)]
  congr 1
  rw[Nat.mul_comm (10 ^ (8-n)) 10,<-Nat.mul_assoc,Nat.mul_comm (Gr.val _) 10]
 ·by_cases hn:n+1<=9
  ·have e:N+U*Gr.dv s[b+n]=Gr.val ((s.drop b).take (n+1))*10 ^ (9-(n+1)):=by
    rw[h.nn (by omega),ht,Gr.val_snoc,h.u];unfold fracU;rw[if_pos (by omega),show 9-n=(8-n)+1 from by omega,Nat.pow_succ,show 9-(n+1)=8-n from by omega];rw[Nat.add_mul,Nat.mul_comm (10 ^ (8-n)) (Gr.dv _)]
    congr 1
    rw[Nat.mul_comm (10 ^ (8-n)) 10,<-Nat.mul_assoc,Nat.mul_comm (Gr.val _) 10]
   rw[e];have hv:=Gr.val_lt _ hda;have hlen:((s.drop b).take (n+1)).length=n+1:=by simp;omega
   rw[hlen]at hv;have:Gr.val ((s.drop b).take (n+1))*10 ^ (9-(n+1))<10 ^ (n+1)*10 ^ (9-(n+1)):=Nat.mul_lt_mul_of_pos_right hv (Nat.pow_pos (by omega));rw[<-Nat.pow_add,show n+1+(9-(n+1))=9 from by omega]at this;omega
  ·have:U=0:=by rw[h.u];unfold fracU;rw[if_neg (by omega)]
   rw[this,Nat.zero_mul];exact h.hi
theorem Frac.stop {s:Gr.Str} {b n N U:Nat} (h:Frac s b n N U) (hn:∀h2:b+n<s.length,Gr.dig (s[b+n]'h2)=false):(s.drop b).takeWhile Gr.dig=(s.drop b).take n:=by
 have h1:s.drop b=(s.drop b).take n++s.drop (b+n):=by
  rw[<-List.drop_drop];exact(List.take_append_drop n (s.drop b)).symm
 rw[h1,List.takeWhile_append_of_pos (by simpa using h.dig)];have h2:(s.drop (b+n)).takeWhile Gr.dig=[]:=by
  rcases Nat.lt_or_ge (b+n) s.length with h3|h3
  ·rw[List.drop_eq_getElem_cons h3,List.takeWhile_cons,hn h3];rfl
  ·rw[List.drop_eq_nil_of_le h3];rfl
 have hle:=h.le;rw[h2,List.append_nil,List.take_append_of_le_length (by simp;omega),List.take_take,Nat.min_self]
theorem clock_frac {s:Gr.Str} {a h m c n N U:Nat} (h1:Gr.numAt s a 2=some h) (h2:Gr.numAt s (a+3) 2=some m) (h3:Gr.numAt s (a+6) 2=some c) (h4:Gr.isAt s (a+2) 58=true) (h5:Gr.isAt s (a+5) 58=true) (h6:Gr.isAt s (a+8) 46=true)
 (hf:Frac s (a+9) n N U) (hn:∀h2:a+9+n<s.length,Gr.dig (s[a+9+n]'h2)=false):Gr.clockAt s a=if n<1\/9<n then none else some ⟨h,m,c,N,a+9+n⟩:=by
 have e:=hf.stop hn;have hle:=hf.le;have hlen:((s.drop (a+9)).take n).length=n:=by simp;omega
 unfold Gr.clockAt;rw[h1,h2,h3,h4,h5,h6,e,hlen];simp only[Bool.and_self,if_true];by_cases hc:n<1\/9<n
 ·rw[if_pos hc,if_pos (by omega)]
 ·rw[if_neg hc,if_neg (by omega),hf.nn (by omega)]
theorem clock_plain {s:Gr.Str} {a h m c:Nat} (h1:Gr.numAt s a 2=some h) (h2:Gr.numAt s (a+3) 2=some m) (h3:Gr.numAt s (a+6) 2=some c) (h4:Gr.isAt s (a+2) 58=true) (h5:Gr.isAt s (a+5) 58=true) (h6:Gr.isAt s (a+8) 46=false):Gr.clockAt s a=some ⟨h,m,c,0,a+8⟩:=by
 unfold Gr.clockAt;rw[h1,h2,h3,h4,h5,h6];rfl
end Go.Proofs.YtoigpackhninoaaGreatDoor
namespace Go.Proofs.YtoigpackhninoaaGreatDoor
namespace Utf
def rowOf (c:Nat):Nat×Nat×Nat×Nat:=
 if 192<=c/\c<224 then(2,c-192,128,2047)
 else if 224<=c/\c<240 then(3,c-224,2048,65535)
 else if 240<=c/\c<248 then(4,c-240,65536,1114111)
 else(0,0,0,0)
def goOn:Nat->Str->Option Nat
 |v,[]=>some v
 |v,c::r=>if c<128 || 191<c then none else goOn (64*v+(c.toNat-128)) r
def widen:Nat->Nat×Nat->Nat×Nat
 | 0,p=>p
 |k+1,p=>widen k (64*p.1,64*p.2+63)
def begins (b:Str):Nat×Nat:=
 match b with
 | []=>(0,0)
 |c::r=>
  if c<128/\r=[]then(c.toNat,1)
  else
   let n:=(rowOf c.toNat).1
   if r.length+1>n then(0,0)
   else match goOn (rowOf c.toNat).2.1 r with
    |none=>(0,0)
    |some v=>
     let p:=widen (n-(r.length+1)) (v,v)
     if p.2<(rowOf c.toNat).2.2.1\/p.1>(rowOf c.toNat).2.2.2\/(p.1>=55296/\p.2<=57343)then(0,0)else(p.1,n)
def refAt (r:Str):Nat×Nat:=
 if 1<=r.length/\(begins (r.take 1)).2=1 then begins (r.take 1)
 else if 2<=r.length/\(begins (r.take 2)).2=2 then begins (r.take 2)
 else if 3<=r.length/\(begins (r.take 3)).2=3 then begins (r.take 3)
 else if 4<=r.length/\(begins (r.take 4)).2=4 then begins (r.take 4)
 else(0,0)
end Utf
end Go.Proofs.YtoigpackhninoaaGreatDoor
namespace Go.Proofs.YtoigpackhninoaaGreatDoor
namespace Utf
theorem lt8 (c:UInt8) (k:Nat) (hk:k<256):(c<UInt8.ofNat k)↔c.toNat<k:=by
 rw[UInt8.lt_iff_toNat_lt,UInt8.toNat_ofNat_of_lt' (by simpa using hk)]
theorem gt8 (c:UInt8) (k:Nat) (hk:k<256):(UInt8.ofNat k<c)↔k<c.toNat:=by
 rw[UInt8.lt_iff_toNat_lt,UInt8.toNat_ofNat_of_lt' (by simpa using hk)]
def isC (d:UInt8):Bool:=decide (128<=d.toNat) && decide (d.toNat<=191)
theorem goOn_cons (v:Nat) (d:UInt8) (r:Str):goOn v (d::r)=if isC d then goOn (64*v+(d.toNat-128)) r else none:=by
 have h1:(d<128)↔d.toNat<128:=lt8 d 128 (by omega);have h2:(191<d)↔191<d.toNat:=gt8 d 191 (by omega);rw[goOn];by_cases hd:isC d=true
 ·have:128<=d.toNat/\d.toNat<=191:=by simpa[isC]using hd
  rw[if_pos hd,if_neg];simp[h1,h2];omega
 ·rw[if_neg hd,if_pos];simp only[isC,Bool.and_eq_true,decide_eq_true_eq]at hd;simp[h1,h2];omega
theorem begins_row (c d:UInt8) (r:Str):begins (c::d::r)=
 if r.length+2>(rowOf c.toNat).1 then(0,0)
 else match goOn (rowOf c.toNat).2.1 (d::r)with
  |none=>(0,0)
  |some v=>if(widen ((rowOf c.toNat).1-(r.length+2)) (v,v)).2<(rowOf c.toNat).2.2.1\/(widen ((rowOf c.toNat).1-(r.length+2)) (v,v)).1>(rowOf c.toNat).2.2.2\/((widen ((rowOf c.toNat).1-(r.length+2)) (v,v)).1>=55296/\(widen ((rowOf c.toNat).1-(r.length+2)) (v,v)).2<=57343)then(0,0)else((widen ((rowOf c.toNat).1-(r.length+2)) (v,v)).1,(rowOf c.toNat).1):=by
 unfold begins;simp only[reduceCtorEq,and_false,if_false,List.length_cons]
 all_goals rfl
theorem begins_len (c d:UInt8) (r:Str):(begins (c::d::r)).2=0\/((begins (c::d::r)).2=(rowOf c.toNat).1/\r.length+2<=(rowOf c.toNat).1):=by
 rw[begins_row];split
 ·exact .inl rfl
 ·rename_i h;split
  ·exact .inl rfl
  ·split
   ·exact .inl rfl
   ·exact .inr ⟨rfl,by omega⟩
theorem begins_one (c:UInt8):(begins [c]).2=1↔c.toNat<128:=by
 have hlt:c.toNat<256:=c.toNat_lt;have h1:(c<128)↔c.toNat<128:=by rw[UInt8.lt_iff_toNat_lt];rfl
 unfold begins;simp only[and_true,List.length_nil,h1];by_cases hc:c.toNat<128
 ·simp[hc]
 ·rw[if_neg hc];simp only[hc,iff_false];unfold rowOf;split
  ·simp only[goOn,widen];repeat' split
   all_goals simp
  ·split
   ·simp only[goOn,widen];repeat' split
    all_goals simp
   ·split
    ·simp only[goOn,widen];repeat' split
     all_goals simp
    ·simp
theorem row_two (c:Nat) (h:192<=c/\c<224):rowOf c=(2,c-192,128,2047):=by unfold rowOf;rw[if_pos h]
theorem row_three (c:Nat) (h:224<=c/\c<240):rowOf c=(3,c-224,2048,65535):=by unfold rowOf;rw[if_neg (by omega),if_pos h]
theorem row_four (c:Nat) (h:240<=c/\c<248):rowOf c=(4,c-240,65536,1114111):=by unfold rowOf;rw[if_neg (by omega),if_neg (by omega),if_pos h]
theorem row_none (c:Nat) (h:c<192\/248<=c):rowOf c=(0,0,0,0):=by unfold rowOf;rw[if_neg (by omega),if_neg (by omega),if_neg (by omega)]
theorem refAt_row (c:UInt8) (r:Str) (n:Nat) (hc:¬c.toNat<128) (hn:(rowOf c.toNat).1=n) (h2:2<=n\/n=0) (h4:n<=4):
 refAt (c::r)=if 2<=n/\n<=r.length+1/\(begins ((c::r).take n)).2=n then begins ((c::r).take n)else(0,0):=by
 have hone:¬(begins ((c::r).take 1)).2=1:=by
  rw[show(c::r).take 1=[c]from rfl,begins_one];exact hc
 have hoth:∀k,2<=k->k<=r.length+1->k≠n->¬(begins ((c::r).take k)).2=k:=by
  intro k hk hk2 hkn;cases r with
  |nil=>rw[List.length_nil]at hk2;omega
  |cons d q=>
   obtain⟨j,rfl⟩:∃j,k=j+2:=⟨k-2,by omega⟩
   have:=begins_len c d (q.take j);rw[show(c::d::q).take (j+2)=c::d::q.take j from rfl];have hl:(q.take j).length=j:=by rw[List.length_take];simp only[List.length_cons]at hk2;omega
   intro he;rcases this with h|h
   ·omega
   ·omega
 unfold refAt;rw[if_neg (fun h=>hone h.2),List.length_cons];by_cases a2:n=2
 ·subst a2;by_cases b:2<=r.length+1/\(begins ((c::r).take 2)).2=2
  ·rw[if_pos b,if_pos ⟨by omega,b.1,b.2⟩]
  ·rw[if_neg b,if_neg (fun h=>hoth 3 (by omega) h.1 (by omega) h.2),if_neg (fun h=>hoth 4 (by omega) h.1 (by omega) h.2),if_neg (fun h=>b ⟨h.2.1,h.2.2⟩)]
 ·rw[if_neg (fun h=>hoth 2 (by omega) h.1 (by omega) h.2)];by_cases a3:n=3
  ·subst a3;by_cases b:3<=r.length+1/\(begins ((c::r).take 3)).2=3
   ·rw[if_pos b,if_pos ⟨by omega,b.1,b.2⟩]
   ·rw[if_neg b,if_neg (fun h=>hoth 4 (by omega) h.1 (by omega) h.2),if_neg (fun h=>b ⟨h.2.1,h.2.2⟩)]
  ·rw[if_neg (fun h=>hoth 3 (by omega) h.1 (by omega) h.2)];by_cases a4:n=4
   ·subst a4;by_cases b:4<=r.length+1/\(begins ((c::r).take 4)).2=4
    ·rw[if_pos b,if_pos ⟨by omega,b.1,b.2⟩]
    ·rw[if_neg b,if_neg (fun h=>b ⟨h.2.1,h.2.2⟩)]
   ·rw[if_neg (fun h=>hoth 4 (by omega) h.1 (by omega) h.2),if_neg (by omega)]
def Agree (s:Str):Prop:=((dec s).1=65533/\(dec s).2=1/\(refAt s).2=0)\/(¬((dec s).1=65533/\(dec s).2=1)/\refAt s=dec s)
theorem agree_low (c:UInt8) (r:Str) (hc:c.toNat<128):Agree (c::r):=by
 have h1:(c<128)↔c.toNat<128:=lt8 c 128 (by omega);have hd:dec (c::r)=(c.toNat,1):=by
  unfold dec;simp only[List.getD_cons_zero];rw[if_pos hc]
 have hb:begins [c]=(c.toNat,1):=by
  unfold begins;simp only[and_true,h1,hc,if_true]
 refine .inr ⟨by rw[hd];simp only;omega,?_⟩;rw[hd];unfold refAt;rw[show(c::r).take 1=[c]from rfl,hb,if_pos ⟨by simp,rfl⟩]
theorem agree_none (c:UInt8) (r:Str) (hc:128<=c.toNat) (h:c.toNat<192\/248<=c.toNat):Agree (c::r):=by
 have hlt:c.toNat<256:=c.toNat_lt;have hd:dec (c::r)=(65533,1):=by
  unfold dec;simp only[List.getD_cons_zero];have e1:(c.toNat /32==6)=false:=by simp;omega
  have e2:(c.toNat /16==14)=false:=by simp;omega
  have e3:(c.toNat /8==30)=false:=by simp;omega
  rw[if_neg (by omega),e1,e2,e3];simp
 refine .inl ⟨by rw[hd],by rw[hd],?_⟩;rw[refAt_row c r 0 (by omega) (by rw[row_none _ h]) (.inr rfl) (by omega),if_neg (by omega)]
theorem isC_iff (d:UInt8):(d.toNat /64==2)=isC d:=by
 have hlt:d.toNat<256:=d.toNat_lt;unfold isC;rw[Bool.eq_iff_iff];simp;omega
theorem agree_two (c:UInt8) (r:Str) (h:192<=c.toNat/\c.toNat<224):Agree (c::r):=by
 have hrow:=row_two _ h;have href:=refAt_row c r 2 (by omega) (by rw[hrow]) (.inl (by omega)) (by omega);have e1:(c.toNat /32==6)=true:=by simp;omega
 have e2:(c.toNat /16==14)=false:=by simp;omega
 have e3:(c.toNat /8==30)=false:=by simp;omega
 cases r with
 |nil=>
  have hd:dec [c]=(65533,1):=by
   unfold dec;simp only[List.getD_cons_zero];rw[if_neg (by omega),e1,e2,e3];simp
  exact .inl ⟨by rw[hd],by rw[hd],by rw[href,if_neg (by simp)]⟩
 |cons d q=>
  have hb:begins ((c::d::q).take 2)=begins [c,d]:=rfl;have hdec:dec (c::d::q)=if isC d then(if 128<=c.toNat%32*64+d.toNat%64 then(c.toNat%32*64+d.toNat%64,2)else(65533,1))else(65533,1):=by
   unfold dec;simp only[List.getD_cons_zero,List.getD_cons_succ,List.length_cons];rw[if_neg (by omega),e1,e2,e3,isC_iff];simp
  have hval:begins [c,d]=if isC d then(if 128<=c.toNat%32*64+d.toNat%64 then(c.toNat%32*64+d.toNat%64,2)else(0,0))else(0,0):=by
   rw[begins_row,hrow,if_neg (by simp),goOn_cons];cases hd:isC d with
   |false=>rfl
   |true=>
    have hd2:128<=d.toNat/\d.toNat<=191:=by simpa[isC]using hd
    have hv:64*(c.toNat-192)+(d.toNat-128)=c.toNat%32*64+d.toNat%64:=by omega
    simp only[if_true,goOn,List.length_nil,Nat.zero_add,Nat.sub_self,widen,hv];by_cases hge:128<=c.toNat%32*64+d.toNat%64
    ·rw[if_pos hge,if_neg (by omega)]
    ·rw[if_neg hge,if_pos (by omega)]
  rw[hb]at href;unfold Agree;rw[hdec,href,hval];cases hd:isC d with
  |false=>simp
  |true=>
   have hd2:128<=d.toNat/\d.toNat<=191:=by simpa[isC]using hd
   by_cases hge:128<=c.toNat%32*64+d.toNat%64
   ·simp only[if_true,if_pos hge,List.length_cons];rw[if_pos (by simp)];exact .inr ⟨fun h=>by simp at h,rfl⟩
   ·simp only[if_true,if_neg hge];rw[if_neg (by simp)];exact .inl (by simp)
end Utf
end Go.Proofs.YtoigpackhninoaaGreatDoor
namespace Go.Proofs.YtoigpackhninoaaGreatDoor
namespace Utf
theorem valid_nat (v:Nat):Utf8.valid (v:Int)=(decide (v<55296) || (decide (57344<=v) && decide (v<=1114111))):=by
 unfold Utf8.valid;rw[Bool.eq_iff_iff];simp only[Bool.or_eq_true,Bool.and_eq_true,decide_eq_true_eq];omega
theorem agree_three (c:UInt8) (r:Str) (h:224<=c.toNat/\c.toNat<240):Agree (c::r):=by
 have hrow:=row_three _ h;have href:=refAt_row c r 3 (by omega) (by rw[hrow]) (.inl (by omega)) (by omega);have e1:(c.toNat /32==6)=false:=by simp;omega
 have e2:(c.toNat /16==14)=true:=by simp;omega
 have e3:(c.toNat /8==30)=false:=by simp;omega
 match r,href with
 | [],href=>
  have hd:dec [c]=(65533,1):=by
   unfold dec;simp only[List.getD_cons_zero];rw[if_neg (by omega),e1,e2,e3];simp
  exact .inl ⟨by rw[hd],by rw[hd],by rw[href,if_neg (by simp)]⟩
 | [d],href=>
  have hd:dec [c,d]=(65533,1):=by
   unfold dec;simp only[List.getD_cons_zero];rw[if_neg (by omega),e1,e2,e3];simp
  exact .inl ⟨by rw[hd],by rw[hd],by rw[href,if_neg (by simp)]⟩
 |d::e::q,href=>
  have hb:begins ((c::d::e::q).take 3)=begins [c,d,e]:=rfl;obtain⟨v,hv⟩:∃v,v=c.toNat%16*4096+d.toNat%64*64+e.toNat%64:=⟨_,rfl⟩
  have hdec:dec (c::d::e::q)=if isC d && isC e then(if 2048<=v/\(v<55296\/57343<v)then(v,3)else(65533,1))else(65533,1):=by
   unfold dec;simp only[List.getD_cons_zero,List.getD_cons_succ,List.length_cons];rw[if_neg (by omega),e1,e2,e3,isC_iff,isC_iff,<-hv];have hlen1:decide (1<q.length+1+1+1)=true:=by simp
   have hlen2:decide (2<q.length+1+1+1)=true:=by simp
   rw[hlen1,hlen2];simp only[Bool.false_and,Bool.true_and,Bool.false_eq_true,if_false];have hv2:v<=65535:=by omega
   cases hdd:isC d && isC e with
   |false=>simp
   |true=>
    simp only[if_true,valid_nat];by_cases hg:2048<=v/\(v<55296\/57343<v)
    ·rw[if_pos hg,if_pos];simp;omega
    ·rw[if_neg hg,if_neg];simp;omega
  have hval:begins [c,d,e]=if isC d && isC e then(if 2048<=v/\(v<55296\/57343<v)then(v,3)else(0,0))else(0,0):=by
   rw[begins_row,hrow,if_neg (by simp),goOn_cons];cases hd:isC d with
   |false=>rfl
   |true=>
    rw[if_pos rfl,goOn_cons];cases he:isC e with
    |false=>rfl
    |true=>
     have hd2:128<=d.toNat/\d.toNat<=191:=by simpa[isC]using hd
     have he2:128<=e.toNat/\e.toNat<=191:=by simpa[isC]using he
     have hvv:64*(64*(c.toNat-224)+(d.toNat-128))+(e.toNat-128)=v:=by omega
     have hv2:v<=65535:=by omega
     simp only[if_true,goOn,List.length_nil,List.length_cons,Nat.zero_add,Nat.sub_self,widen,hvv,Bool.and_self];by_cases hg:2048<=v/\(v<55296\/57343<v)
     ·rw[if_pos hg,if_neg (by omega)]
     ·rw[if_neg hg,if_pos (by omega)]
  rw[hb]at href;unfold Agree;rw[hdec,href,hval];cases hd:isC d && isC e with
  |false=>simp
  |true=>
   by_cases hg:2048<=v/\(v<55296\/57343<v)
   ·simp only[if_true,if_pos hg,List.length_cons];rw[if_pos (by simp)];exact .inr ⟨fun h=>by simp at h,rfl⟩
   ·simp only[if_true,if_neg hg];rw[if_neg (by simp)];exact .inl (by simp)
theorem agree_four (c:UInt8) (r:Str) (h:240<=c.toNat/\c.toNat<248):Agree (c::r):=by
 have hrow:=row_four _ h;have href:=refAt_row c r 4 (by omega) (by rw[hrow]) (.inl (by omega)) (by omega);have e1:(c.toNat /32==6)=false:=by simp;omega
 have e2:(c.toNat /16==14)=false:=by simp;omega
 have e3:(c.toNat /8==30)=true:=by simp;omega
 have short:r.length<3->Agree (c::r):=by
  intro hl;have hd:dec (c::r)=(65533,1):=by
   unfold dec;simp only[List.getD_cons_zero,List.length_cons];rw[if_neg (by omega),e1,e2,e3];have h3:decide (3<r.length+1)=false:=by simp;omega
   rw[h3];simp
  exact .inl ⟨by rw[hd],by rw[hd],by rw[href,if_neg (by omega)]⟩
 match r,href,short with
 | [],_,short=>exact short (by simp)
 | [_],_,short=>exact short (by simp)
 | [_,_],_,short=>exact short (by simp)
 |d::e::f::q,href,_=>
  have hb:begins ((c::d::e::f::q).take 4)=begins [c,d,e,f]:=rfl;obtain⟨v,hv⟩:∃v,v=c.toNat%8*262144+d.toNat%64*4096+e.toNat%64*64+f.toNat%64:=⟨_,rfl⟩
  have hdec:dec (c::d::e::f::q)=if isC d && isC e && isC f then(if 65536<=v/\v<=1114111 then(v,4)else(65533,1))else(65533,1):=by
   unfold dec;simp only[List.getD_cons_zero,List.getD_cons_succ,List.length_cons];rw[if_neg (by omega),e1,e2,e3,isC_iff,isC_iff,isC_iff,<-hv];have hlen1:decide (1<q.length+1+1+1+1)=true:=by simp
   have hlen2:decide (2<q.length+1+1+1+1)=true:=by simp
   have hlen3:decide (3<q.length+1+1+1+1)=true:=by simp
   rw[hlen1,hlen2,hlen3];simp only[Bool.false_and,Bool.true_and,Bool.false_eq_true,if_false];cases hdd:isC d && isC e && isC f with
   |false=>simp
   |true=>
    simp only[if_true,valid_nat];by_cases hg:65536<=v/\v<=1114111
    ·rw[if_pos hg,if_pos];simp;omega
    ·rw[if_neg hg,if_neg];simp;omega
  have hval:begins [c,d,e,f]=if isC d && isC e && isC f then(if 65536<=v/\v<=1114111 then(v,4)else(0,0))else(0,0):=by
   rw[begins_row,hrow,if_neg (by simp),goOn_cons];cases hd:isC d with
   |false=>rfl
   |true=>
    rw[if_pos rfl,goOn_cons];cases he:isC e with
    |false=>rfl
    |true=>
     rw[if_pos rfl,goOn_cons];cases hf:isC f with
     |false=>rfl
     |true=>
      have hd2:128<=d.toNat/\d.toNat<=191:=by simpa[isC]using hd
      have he2:128<=e.toNat/\e.toNat<=191:=by simpa[isC]using he
      have hf2:128<=f.toNat/\f.toNat<=191:=by simpa[isC]using hf
      have hvv:64*(64*(64*(c.toNat-240)+(d.toNat-128))+(e.toNat-128))+(f.toNat-128)=v:=by omega
      simp only[if_true,goOn,List.length_nil,List.length_cons,Nat.zero_add,Nat.sub_self,widen,hvv,Bool.and_self];by_cases hg:65536<=v/\v<=1114111
      ·rw[if_pos hg,if_neg (by omega)]
      ·rw[if_neg hg,if_pos (by omega)]
  rw[hb]at href;unfold Agree;rw[hdec,href,hval];cases hd:isC d && isC e && isC f with
  |false=>simp
  |true=>
   by_cases hg:65536<=v/\v<=1114111
   ·simp only[if_true,if_pos hg,List.length_cons];rw[if_pos (by simp)];exact .inr ⟨fun h=>by simp at h,rfl⟩
   ·simp only[if_true,if_neg hg];rw[if_neg (by simp)];exact .inl (by simp)
theorem agree (s:Str) (h:s≠[]):Agree s:=by
 cases s with
 |nil=>exact absurd rfl h
 |cons c r=>
  have hlt:c.toNat<256:=c.toNat_lt;by_cases h1:c.toNat<128
  ·exact agree_low c r h1
  ·by_cases h2:c.toNat<192\/248<=c.toNat
   ·exact agree_none c r (by omega) h2
   ·by_cases h3:c.toNat<224
    ·exact agree_two c r (by omega)
    ·by_cases h4:c.toNat<240
     ·exact agree_three c r (by omega)
     ·exact agree_four c r (by omega)
end Utf
end Go.Proofs.YtoigpackhninoaaGreatDoor
namespace Go.Proofs.YtoigpackhninoaaGreatDoor
namespace Utf
end Utf
end Go.Proofs.YtoigpackhninoaaGreatDoor
