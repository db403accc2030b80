/- Numerals, decimal numbers, floats' texts: plain. The calendar; moments and local dates and times: plain. -/
import Derived.Lib.ItoaNum
import Derived.Lib.AtoiTie
import Derived.Lib.ParseIntB
namespace Go.Proofs.YtoigpackhninoaaGreatDoor
namespace Gr
def dig (c:UInt8):Bool:=48<=c && c<=57
theorem dig_iff (c:UInt8):dig c=true↔48<=c.toNat/\c.toNat<=57:=by
 unfold dig;rw[Bool.and_eq_true,decide_eq_true_iff,decide_eq_true_iff,UInt8.le_iff_toNat_le,UInt8.le_iff_toNat_le];exact Iff.rfl
def dv (c:UInt8):Nat:=c.toNat-48
def val (l:List UInt8):Nat:=l.foldl (fun n c=>10*n+dv c) 0
theorem val_nil:val []=0:=rfl
theorem val_snoc (l:List UInt8) (c:UInt8):val (l++[c])=10*val l+dv c:=by unfold val;rw[List.foldl_append];rfl
theorem foldv (l:List UInt8) (a:Nat):l.foldl (fun n c=>10*n+dv c) a=a*10 ^ l.length+val l:=by
 induction l generalizing a with
 |nil=>simp[val]
 |cons c l ih=>
  unfold val;rw[List.foldl_cons,List.foldl_cons,ih,ih (10*0+dv c),List.length_cons,Nat.pow_succ];rw[Nat.add_mul,Nat.mul_zero,Nat.zero_add,Nat.add_assoc]
  congr 1
  rw[Nat.mul_comm 10 a,Nat.mul_assoc,Nat.mul_comm 10]
theorem val_cons (c:UInt8) (l:List UInt8):val (c::l)=dv c*10 ^ l.length+val l:=by
 unfold val;rw[List.foldl_cons,foldv,Nat.mul_zero,Nat.zero_add];rfl
theorem val_lt (l:List UInt8) (h:l.all dig=true):val l<10 ^ l.length:=by
 induction l with
 |nil=>simp[val]
 |cons c l ih=>
  rw[List.all_cons,Bool.and_eq_true,dig_iff]at h;have:=ih h.2;rw[val_cons,List.length_cons,Nat.pow_succ];have hd:dv c<=9:=by unfold dv;omega
  have:dv c*10 ^ l.length<=9*10 ^ l.length:=Nat.mul_le_mul_right _ hd;omega
theorem decDigits_snoc {u:Nat} (h:¬u<10):Lib.decDigits u=Lib.decDigits (u /10)++[UInt8.ofNat (48+u%10)]:=by
 rw[Lib.decDigits,dif_neg h]
theorem dig_of (k:Nat) (h:k<10):dig (UInt8.ofNat (48+k))=true:=by
 rw[dig_iff,UInt8.toNat_ofNat'];omega
theorem dv_of (k:Nat) (h:k<10):dv (UInt8.ofNat (48+k))=k:=by
 unfold dv;rw[UInt8.toNat_ofNat'];omega
theorem decDigits_all (u:Nat):(Lib.decDigits u).all dig=true:=by
 induction u using Nat.strongRecOn with
 |_ u ih=>
  by_cases h:u<10
  ·rw[Lib.decDigits_one h,List.all_cons,dig_of u h];rfl
  ·rw[decDigits_snoc h,List.all_append,ih _ (by omega),List.all_cons,dig_of (u%10) (by omega)];rfl
theorem decDigits_val (u:Nat):val (Lib.decDigits u)=u:=by
 induction u using Nat.strongRecOn with
 |_ u ih=>
  by_cases h:u<10
  ·rw[Lib.decDigits_one h,val_cons,dv_of u h];simp[val]
  ·rw[decDigits_snoc h,val_snoc,ih _ (by omega),dv_of _ (by omega)];omega
theorem decDigits_ne (u:Nat):Lib.decDigits u≠[]:=by
 intro h;have:=Lib.decDigits_length u;rw[h]at this;have:=Lib.nDigits_pos u;simp at *;omega
theorem head_app (l m:List UInt8) (h:l≠[]):(l++m).head?=l.head?:=by
 cases l with
 |nil=>exact absurd rfl h
 |cons a l=>rfl
theorem snoc_ind {P:List UInt8->Prop} (h0:P []) (h1:∀l c,P l->P (l++[c])):∀l,P l:=by
 have key:∀l:List UInt8,P l.reverse:=by
  intro l
  induction l with
  |nil=>exact h0
  |cons a l ih=>rw[List.reverse_cons];exact h1 _ _ ih
 intro l;have:=key l.reverse;rwa[List.reverse_reverse]at this
theorem decDigits_head (u:Nat) (h0:u≠0):(Lib.decDigits u).head?≠some 48:=by
 induction u using Nat.strongRecOn with
 |_ u ih=>
  by_cases h:u<10
  ·rw[Lib.decDigits_one h];intro e;simp only[List.head?_cons,Option.some.injEq]at e;have:=congrArg UInt8.toNat e;rw[UInt8.toNat_ofNat']at this;simp at this;omega
  ·rw[decDigits_snoc h,head_app _ _ (decDigits_ne _)];exact ih _ (by omega) (by omega)
theorem canon_dec (l:List UInt8) (hne:l≠[]) (hd:l.all dig=true) (hz:l.head?≠some 48\/l.length=1):Lib.decDigits (val l)=l:=by
 revert hne hd hz
 refine snoc_ind (P:=fun l=>l≠[]->l.all dig=true->(l.head?≠some 48\/l.length=1)->Lib.decDigits (val l)=l) (fun h=>absurd rfl h) ?_ l;intro l c ih hne hd hz
 ·rw[List.all_append,Bool.and_eq_true]at hd;have hc:dig c=true:=by simpa using hd.2
  have hcv:=(dig_iff c).1 hc;have hcc:UInt8.ofNat (48+dv c)=c:=by
   unfold dv;rw[show 48+(c.toNat-48)=c.toNat from by omega];simp
  have hd9:dv c<10:=by unfold dv;omega
  rw[val_snoc];by_cases hl:l=[]
  ·subst hl;rw[val_nil,Nat.mul_zero,Nat.zero_add,Lib.decDigits_one hd9,hcc];rfl
  ·have hz1:l.head?≠some 48:=by
    rcases hz with h|h
    ·rwa[head_app _ _ hl]at h
    ·simp at h;exact absurd h hl
   have ih1:=ih hl hd.1 (.inl hz1);have hpos:1<=val l:=by
    rcases Nat.eq_zero_or_pos (val l)with h0|h0
    ·rw[h0,Lib.decDigits_one (by omega)]at ih1;exact absurd (by rw[<-ih1];rfl) hz1
    ·exact h0
   rw[decDigits_snoc (by omega),show(10*val l+dv c) /10=val l from by omega,show(10*val l+dv c)%10=dv c from by omega,ih1,hcc]
theorem digitVal_dig (c:UInt8):Lib.digitVal c=if dig c=true then some (dv c)else none:=by
 unfold Lib.digitVal;by_cases h:dig c=true
 ·rw[if_pos h,if_pos ((dig_iff c).1 h)];rfl
 ·rw[if_neg h,if_neg (fun e=>h ((dig_iff c).2 e))]
theorem decFrom_val (l:List UInt8) (a:Nat):Lib.decFrom a l=if l.all dig=true then some (a*10 ^ l.length+val l)else none:=by
 induction l generalizing a with
 |nil=>simp[Lib.decFrom,val]
 |cons c l ih=>
  unfold Lib.decFrom;rw[digitVal_dig];by_cases h:dig c=true
  ·rw[if_pos h];simp only;rw[ih,List.all_cons,h,Bool.true_and];by_cases h2:l.all dig=true
   ·rw[if_pos h2,if_pos h2,val_cons,List.length_cons,Nat.pow_succ,Nat.add_mul,<-Nat.add_assoc,Nat.mul_assoc,Nat.mul_comm 10]
   ·rw[if_neg h2,if_neg h2]
  ·rw[if_neg h];simp only;rw[if_neg (by rw[List.all_cons];simp[h])]
theorem decNat_val (l:List UInt8):Lib.decNat l=if l≠[]/\l.all dig=true then some (val l)else none:=by
 unfold Lib.decNat;cases l with
 |nil=>simp
 |cons c l=>
  rw[List.isEmpty_cons,if_neg (by simp),decFrom_val,Nat.zero_mul,Nat.zero_add];by_cases h:(c::l).all dig=true
  ·rw[if_pos h,if_pos ⟨by simp,h⟩]
  ·rw[if_neg h,if_neg (fun e=>h e.2)]
theorem atoi_itoa (n:Int):Lib.atoi (Lib.itoa n)=some n:=by
 unfold Lib.itoa;by_cases h:n<0
 ·rw[if_pos h];unfold Lib.atoi;simp only[beq_self_eq_true,if_true];rw[decNat_val,if_pos ⟨decDigits_ne _,decDigits_all _⟩,decDigits_val];simp;omega
 ·rw[if_neg h];have hne:=decDigits_ne n.toNat;have hall:=decDigits_all n.toNat;have hval:=decDigits_val n.toNat;cases hd:Lib.decDigits n.toNat with
  |nil=>exact absurd hd hne
  |cons c l=>
   rw[hd]at hall hval;have hc:dig c=true:=by rw[List.all_cons,Bool.and_eq_true]at hall;exact hall.1
   have hcv:=(dig_iff c).1 hc;unfold Lib.atoi;have h45:(c==45)=false:=by
    rw[beq_eq_false_iff_ne];intro e;subst e;revert hcv;decide
   have h43:(c==43)=false:=by
    rw[beq_eq_false_iff_ne];intro e;subst e;revert hcv;decide
   simp only[h45,h43,Bool.false_eq_true,if_false];rw[decNat_val,if_pos ⟨by simp,hall⟩,hval];simp;omega
theorem nDigits_le (k u:Nat) (h:u<10 ^ (k+1)):Lib.nDigits u<=k+1:=by
 induction k generalizing u with
 |zero=>rw[Lib.nDigits_small (by simpa using h)];exact Nat.le_refl _
 |succ k ih=>
  by_cases h1:u<10
  ·rw[Lib.nDigits_small h1];omega
  ·rw[Lib.nDigits_big h1];have:=ih (u /10) (by rw[Nat.pow_succ]at h;omega);omega
theorem itoa_len_le (n:Int) (k:Nat) (h:n.natAbs<10 ^ (k+1)):(Lib.itoa n).length<=k+2:=by
 unfold Lib.itoa;split
 ·rw[List.length_cons,Lib.decDigits_length];have:=nDigits_le k _ h;omega
 ·rw[Lib.decDigits_length];have:=nDigits_le k n.toNat (by omega);omega
def intS (n:List UInt8):List UInt8:=if n.length>1/\n.head?=some 45 then n.tail else n
def intB (n:List UInt8):Bool:=if(intS n).length=0\/(intS n).length>400\/((intS n).head?=some 48/\n.length>1)then false else(intS n).all dig
structure Dn where
 neg:Bool
 d:List Nat
 e:Int
def isZ (x:Nat):Bool:=x==0
def rz (d:List Nat):List Nat:=(d.reverse.dropWhile isZ).reverse
def zeroD:Dn:=⟨false,[],0⟩
def norm (neg:Bool) (d:List Nat) (e:Int):Dn:=
 if d.dropWhile isZ=[]then zeroD else⟨neg,rz (d.dropWhile isZ),e+(((d.dropWhile isZ).length-(rz (d.dropWhile isZ)).length:Nat):Int)⟩
def ch (v:Nat):UInt8:=UInt8.ofNat (48+v)
def vals (s:List UInt8):List Nat:=s.map dv
def coef (x:Dn):List UInt8:=if x.d=[]then[48]else(if x.neg=true then[45]else[])++x.d.map ch
def text (x:Dn):List UInt8:=coef x++101::Lib.itoa x.e
def lim (x:Dn):Nat:=if 400<x.d.length then 6 else if x.e< -2000\/2000<x.e then 2 else 0
structure Wf (x:Dn):Prop where
 zero:x.d=[]->x.neg=false/\x.e=0
 head:x.d.head?≠some 0
 last:x.d.getLast?≠some 0
 lt:∀v∈x.d,v<10
theorem dw_head (d:List Nat):(d.dropWhile isZ).head?≠some 0:=by
 induction d with
 |nil=>simp
 |cons a d ih=>
  rw[List.dropWhile_cons];split
  ·exact ih
  ·rename_i h;intro e;simp at e;subst e;exact h rfl
theorem tw_mem {α:Type} {p:α->Bool}:∀{l:List α} {x:α},x∈l.takeWhile p->p x=true
 | [],x,h=>by simp at h
 |a::l,x,h=>by
  rw[List.takeWhile_cons]at h;split at h
  ·rename_i ha;rcases List.mem_cons.1 h with h|h
   ·rw[h];exact ha
   ·exact tw_mem h
  ·simp at h
theorem dw_sub (d:List Nat):∀v∈d.dropWhile isZ,v∈d:=fun _ hv=>(List.dropWhile_sublist isZ).subset hv
theorem rz_sub (d:List Nat):∀v∈rz d,v∈d:=fun v hv=>by
 unfold rz at hv;rw[List.mem_reverse]at hv;exact List.mem_reverse.1 (dw_sub _ _ hv)
theorem rz_last (d:List Nat):(rz d).getLast?≠some 0:=by
 unfold rz;rw[List.getLast?_reverse];exact dw_head _
theorem rz_len (d:List Nat):(rz d).length<=d.length:=by
 unfold rz;rw[List.length_reverse];exact Nat.le_trans (List.dropWhile_sublist isZ).length_le (by simp)
theorem rz_app (d:List Nat):d=rz d++List.replicate (d.length-(rz d).length) 0:=by
 have h:=List.takeWhile_append_dropWhile (p:=isZ) (l:=d.reverse);have h2:d.reverse.takeWhile isZ=List.replicate (d.reverse.takeWhile isZ).length 0:=by
  rw[List.eq_replicate_iff];refine⟨rfl,fun b hb=>?_⟩;have:=tw_mem hb;simpa[isZ]using this
 have h3:d=rz d++(d.reverse.takeWhile isZ).reverse:=by
  unfold rz;rw[<-List.reverse_append,h,List.reverse_reverse]
 have h4:(d.reverse.takeWhile isZ).reverse=List.replicate (d.reverse.takeWhile isZ).length 0:=by
  conv=>lhs;rw[h2,List.reverse_replicate]
 rw[h4]at h3;have h5:=congrArg List.length h3;rw[List.length_append,List.length_replicate]at h5;rw[show d.length-(rz d).length=(d.reverse.takeWhile isZ).length from by omega];exact h3
theorem rz_ne (d:List Nat) (h0:d.head?≠some 0) (hn:d≠[]):rz d≠[]/\(rz d).head?=d.head?:=by
 have h:=rz_app d;cases hr:rz d with
 |nil=>
  exfalso;rw[hr,List.nil_append]at h;cases d with
  |nil=>exact hn rfl
  |cons a d=>
   rw[List.length_nil,List.length_cons,Nat.sub_zero,List.replicate_succ]at h;injection h with h1
   exact h0 (by rw[h1];rfl)
 |cons a l=>
  refine⟨by simp,?_⟩;rw[hr]at h;rw[h];rfl
theorem norm_wf (neg:Bool) (d:List Nat) (e:Int) (h:∀v∈d,v<10):Wf (norm neg d e):=by
 unfold norm;split
 ·exact⟨fun _=>⟨rfl,rfl⟩,by simp[zeroD],by simp[zeroD],fun v hv=>by simp[zeroD]at hv⟩
 ·rename_i hn;have h1:=rz_ne _ (dw_head d) hn;exact⟨fun e=>absurd e h1.1,by rw[show Dn.d ⟨neg,rz (d.dropWhile isZ),_⟩=rz (d.dropWhile isZ)from rfl,h1.2];exact dw_head d,rz_last _,fun v hv=>h v (dw_sub _ _ (rz_sub _ _ hv))⟩
theorem norm_id (x:Dn) (h:Wf x) (hn:x.d≠[]):norm x.neg x.d x.e=x:=by
 obtain⟨neg,d,e⟩:=x;have hd:d.dropWhile isZ=d:=by
  cases d with
  |nil=>rfl
  |cons a d=>
   rw[List.dropWhile_cons,if_neg];intro e;have:=h.head;simp[isZ]at e this;exact this e
 have hr:rz d=d:=by
  unfold rz;have:d.reverse.dropWhile isZ=d.reverse:=by
   have hl:=h.last;rw[show Dn.d ⟨neg,d,e⟩=d from rfl,<-List.head?_reverse]at hl;cases hrv:d.reverse with
   |nil=>rfl
   |cons a l=>
    rw[hrv]at hl;rw[List.dropWhile_cons,if_neg];intro e;simp[isZ]at e hl;exact hl e
  rw[this,List.reverse_reverse]
 show norm neg d e=_;unfold norm;rw[hd,if_neg hn,hr,Nat.sub_self];simp
theorem norm_zero (neg:Bool) (e:Int):norm neg [0] e=zeroD:=rfl
theorem ch_dig (v:Nat) (h:v<10):dig (ch v)=true:=dig_of v h
theorem dv_ch (v:Nat) (h:v<10):dv (ch v)=v:=dv_of v h
theorem vals_ch (d:List Nat) (h:∀v∈d,v<10):vals (d.map ch)=d:=by
 unfold vals;rw[List.map_map]
 conv=>rhs;rw[<-List.map_id d]
 exact List.map_congr_left (fun v hv=>dv_ch v (h v hv))
theorem all_ch (d:List Nat) (h:∀v∈d,v<10):(d.map ch).all dig=true:=by
 rw[List.all_eq_true];intro c hc;obtain⟨v,hv,rfl⟩:=List.mem_map.1 hc;exact ch_dig v (h v hv)
theorem vals_lt (s:List UInt8) (h:s.all dig=true):∀v∈vals s,v<10:=by
 intro v hv;obtain⟨c,hc,rfl⟩:=List.mem_map.1 hv;have:=(dig_iff c).1 (List.all_eq_true.1 h c hc);unfold dv;omega
theorem not_dig_ne {c:UInt8} (h:dig c=true) (k:Nat) (hk:k<48\/57<k) (h2:k<256):c≠UInt8.ofNat k:=by
 intro e;have:=(dig_iff c).1 h;rw[e,UInt8.toNat_ofNat']at this;omega
theorem head_ch {d:List Nat} (hn:d≠[]) (h:∀v∈d,v<10) (hz:d.head?≠some 0):(d.map ch).head?≠some 48/\(d.map ch).head?≠some 45/\(d.map ch)≠[]:=by
 cases d with
 |nil=>exact absurd rfl hn
 |cons a d=>
  have ha:=h a (.head _);have h0:a≠0:=fun e=>hz (by rw[e];rfl)
  refine⟨?_,?_,by simp⟩
  ·intro e;simp only[List.map_cons,List.head?_cons,Option.some.injEq]at e;have:=congrArg dv e;rw[dv_ch a ha]at this;exact h0 this
  ·intro e;simp only[List.map_cons,List.head?_cons,Option.some.injEq]at e;exact not_dig_ne (ch_dig a ha) 45 (.inl (by omega)) (by omega) e
theorem coef_pos {x:Dn} (hn:x.d≠[]):coef x=(if x.neg=true then[45]else[])++x.d.map ch:=by unfold coef;rw[if_neg hn]
theorem coef_intS {x:Dn} (h:Wf x) (hn:x.d≠[]):intS (coef x)=x.d.map ch:=by
 obtain⟨h1,h2,h3⟩:=head_ch hn h.lt h.head;rw[coef_pos hn];unfold intS;cases x.neg with
 |true=>
  rw[if_pos rfl,if_pos]
  ·rfl
  ·refine⟨?_,rfl⟩;have:=List.length_pos_iff.2 h3;simp only[List.cons_append,List.nil_append,List.length_cons];omega
 |false=>
  rw[if_neg (c:=false=true) (by simp),List.nil_append,if_neg (fun e=>h2 e.2)]
theorem coef_intB {x:Dn} (h:Wf x) (hl:x.d.length<=400):intB (coef x)=true:=by
 by_cases hn:x.d=[]
 ·unfold coef;rw[if_pos hn];decide
 ·obtain⟨h1,h2,h3⟩:=head_ch hn h.lt h.head;unfold intB;rw[coef_intS h hn,if_neg,all_ch _ h.lt];rintro(h4|h4|h4)
  ·rw[List.length_map]at h4;exact hn (List.eq_nil_of_length_eq_zero h4)
  ·rw[List.length_map]at h4;omega
  ·exact h1 h4.1
theorem coef_e (x:Dn) (h:Wf x):∀c∈coef x,c≠101/\(dig c=true\/c=45):=by
 have hk:∀c,dig c=true->c≠101/\(dig c=true\/c=45):=fun c hc=>⟨not_dig_ne hc 101 (.inr (by omega)) (by omega),.inl hc⟩
 intro c hc;unfold coef at hc;split at hc
 ·simp at hc;subst hc;exact hk _ (by decide)
 ·rw[List.mem_append]at hc;rcases hc with hc|hc
  ·split at hc
   ·simp at hc;subst hc;exact⟨by decide,.inr rfl⟩
   ·simp at hc
  ·exact hk _ (List.all_eq_true.1 (all_ch _ h.lt) c hc)
theorem tw_app {p:UInt8->Bool} (a:List UInt8) (c:UInt8) (r:List UInt8) (h:∀x∈a,p x=true) (hc:p c=false):(a++c::r).takeWhile p=a/\(a++c::r).dropWhile p=c::r:=by
 induction a with
 |nil=>simp[hc]
 |cons x a ih=>
  have:=ih (fun y hy=>h y (.tail _ hy));simp[h x (.head _),this]
def readP (s:List UInt8):Option Dn:=
 match s.dropWhile (fun c=>c != 101)with
 | []=>none
 |_::r=>
  if intB (s.takeWhile (fun c=>c != 101))=false\/5<r.length then none
  else match Lib.atoi r with
   |none=>none
   |some e=>
    if lim (norm ((s.takeWhile (fun c=>c != 101)).head? ==some 45) (vals (intS (s.takeWhile (fun c=>c != 101)))) e)=0/\text (norm ((s.takeWhile (fun c=>c != 101)).head? ==some 45) (vals (intS (s.takeWhile (fun c=>c != 101)))) e)=s
    then some (norm ((s.takeWhile (fun c=>c != 101)).head? ==some 45) (vals (intS (s.takeWhile (fun c=>c != 101)))) e)else none
theorem lim_zero {x:Dn} (h:lim x=0):x.d.length<=400/\-2000<=x.e/\x.e<=2000:=by
 unfold lim at h;split at h
 ·cases h
 ·split at h
  ·cases h
  ·omega
theorem coef_norm {x:Dn} (h:Wf x):norm ((coef x).head? ==some 45) (vals (intS (coef x))) x.e=x:=by
 by_cases hn:x.d=[]
 ·obtain⟨h1,h2⟩:=h.zero hn;obtain⟨neg,d,e⟩:=x;simp only at hn h1 h2;subst hn;subst h1;subst h2;unfold coef;rw[if_pos rfl];exact norm_zero _ _
 ·obtain⟨h1,h2,h3⟩:=head_ch hn h.lt h.head;rw[coef_intS h hn,vals_ch _ h.lt];have:((coef x).head? ==some 45)=x.neg:=by
   rw[coef_pos hn];cases x.neg with
   |true=>rfl
   |false=>rw[if_neg (by simp),List.nil_append];simpa using h2
  rw[this];exact norm_id x h hn
theorem readP_text {x:Dn} (h:Wf x) (hl:lim x=0):readP (text x)=some x:=by
 obtain⟨l1,l2,l3⟩:=lim_zero hl;obtain⟨t1,t2⟩:=tw_app (p:=fun c=>c != 101) (coef x) 101 (Lib.itoa x.e) (fun c hc=>by simpa using(coef_e x h c hc).1) (by decide);have hlen:=itoa_len_le x.e 3 (by omega);unfold readP;rw[show(text x).dropWhile (fun c=>c != 101)=101::Lib.itoa x.e from t2];simp only;rw[show(text x).takeWhile (fun c=>c != 101)=coef x from t1,coef_intB h l1,if_neg (by rintro(h1|h1);cases h1;omega),atoi_itoa];simp only;rw[coef_norm h,if_pos ⟨hl,rfl⟩]
theorem intB_all {a:List UInt8} (h:intB a=true):(intS a).all dig=true:=by
 unfold intB at h;split at h
 ·cases h
 ·exact h
theorem readP_some {s:List UInt8} {x:Dn} (h:readP s=some x):Wf x/\lim x=0/\text x=s:=by
 unfold readP at h;split at h
 ·cases h
 ·split at h
  ·cases h
  ·rename_i hb;split at h
   ·cases h
   ·split at h
    ·rename_i hc;injection h with h
     subst h;refine⟨norm_wf _ _ _ (vals_lt _ (intB_all ?_)),hc⟩;cases hi:intB (s.takeWhile (fun c=>c != 101))with
     |true=>rfl
     |false=>exact absurd (.inl hi) hb
    ·cases h
def satv (sat:Nat) (l:List UInt8):Nat:=l.foldl (fun n c=>min (10*n+dv c) sat) 0
theorem satv_eq (sat:Nat) (l:List UInt8):satv sat l=min (val l) sat:=by
 refine snoc_ind (P:=fun l=>satv sat l=min (val l) sat) (by simp[satv,val]) ?_ l;intro l c ih;unfold satv at ih ⊢;rw[List.foldl_append,ih,val_snoc];simp only[List.foldl_cons,List.foldl_nil];omega
def expT (s4:List UInt8):List UInt8:=if s4.head?=some 45\/s4.head?=some 43 then s4.tail else s4
def expV (sat:Nat) (s4:List UInt8):Int:=if s4.head?=some 45 then -(satv sat (expT s4):Int)else(satv sat (expT s4):Int)
def expS (sat:Nat) (neg:Bool) (d:List Nat) (e:Int) (s3:List UInt8):Option Dn:=
 if s3=[]then some (norm neg d e)
 else if s3.head?=some 101\/s3.head?=some 69 then
  if expT s3.tail=[]\/(expT s3.tail).all dig=false then none else some (norm neg d (e+expV sat s3.tail))
 else none
def numT (sat:Nat) (neg:Bool) (s1:List UInt8):Option Dn:=
 if s1.takeWhile dig=[]\/((s1.takeWhile dig).head?=some 48/\1<(s1.takeWhile dig).length)then none
 else if(s1.dropWhile dig).head?=some 46 then
  if(s1.dropWhile dig).tail.takeWhile dig=[]then none
  else expS sat neg (vals (s1.takeWhile dig++(s1.dropWhile dig).tail.takeWhile dig)) (-(((s1.dropWhile dig).tail.takeWhile dig).length:Int)) ((s1.dropWhile dig).tail.dropWhile dig)
 else expS sat neg (vals (s1.takeWhile dig)) 0 (s1.dropWhile dig)
def numS (sat:Nat) (s:List UInt8):Option Dn:=if s.head?=some 45 then numT sat true s.tail else numT sat false s
def readR (s:List UInt8):Option Dn:=
 match numS 1000000 s with
 |none=>none
 |some x=>if lim x=0/\text x=s then some x else none
theorem expS_wf {sat:Nat} {neg:Bool} {d:List Nat} {e:Int} {s:List UInt8} {x:Dn} (hd:∀v∈d,v<10) (h:expS sat neg d e s=some x):Wf x:=by
 unfold expS at h;split at h
 ·injection h with h;subst h;exact norm_wf _ _ _ hd
 ·split at h
  ·split at h
   ·cases h
   ·injection h with h;subst h;exact norm_wf _ _ _ hd
  ·cases h
theorem tw_all (s:List UInt8):(s.takeWhile dig).all dig=true:=by
 rw[List.all_eq_true];exact fun c hc=>tw_mem hc
theorem numT_wf {sat:Nat} {neg:Bool} {s:List UInt8} {x:Dn} (h:numT sat neg s=some x):Wf x:=by
 unfold numT at h;split at h
 ·cases h
 ·split at h
  ·split at h
   ·cases h
   ·refine expS_wf (vals_lt _ ?_) h;rw[List.all_append,tw_all,tw_all];rfl
  ·exact expS_wf (vals_lt _ (tw_all _)) h
theorem numS_wf {sat:Nat} {s:List UInt8} {x:Dn} (h:numS sat s=some x):Wf x:=by
 unfold numS at h;split at h
 ·exact numT_wf h
 ·exact numT_wf h
theorem readR_some {s:List UInt8} {x:Dn} (h:readR s=some x):Wf x/\lim x=0/\text x=s:=by
 unfold readR at h;split at h
 ·cases h
 ·rename_i y hy;split at h
  ·rename_i hc;injection h with h
   subst h;exact⟨numS_wf hy,hc⟩
  ·cases h
theorem itoa_tail (e:Int) (sat:Nat) (hs:e.natAbs<=sat) (neg:Bool) (d:List Nat):expS sat neg d 0 (101::Lib.itoa e)=some (norm neg d e):=by
 unfold expS;rw[if_neg (by simp),if_pos (.inl rfl)];simp only[List.tail_cons];unfold Lib.itoa expV expT;by_cases h:e<0
 ·rw[if_pos h];simp only[List.head?_cons,List.tail_cons,true_or,if_true];rw[if_neg,satv_eq,decDigits_val]
  ·congr 2;omega
  ·rintro(h1|h1)
   ·exact decDigits_ne _ h1
   ·rw[decDigits_all]at h1;cases h1
 ·rw[if_neg h];have hne:=decDigits_ne e.toNat;have hall:=decDigits_all e.toNat;have hval:=decDigits_val e.toNat;have hh:(Lib.decDigits e.toNat).head?≠some 45/\(Lib.decDigits e.toNat).head?≠some 43:=by
   cases hd:Lib.decDigits e.toNat with
   |nil=>exact absurd hd hne
   |cons c l=>
    rw[hd,List.all_cons,Bool.and_eq_true]at hall;exact⟨fun e=>not_dig_ne hall.1 45 (.inl (by omega)) (by omega) (by simpa using e),fun e=>not_dig_ne hall.1 43 (.inl (by omega)) (by omega) (by simpa using e)⟩
  simp only[hh.1,hh.2,or_self,if_false];rw[if_neg,satv_eq,hval]
  ·congr 2;omega
  ·rintro(h1|h1)
   ·exact hne h1
   ·rw[hall]at h1;cases h1
theorem numS_text {x:Dn} (h:Wf x) (hl:lim x=0) (sat:Nat) (hs:2000<=sat):numS sat (text x)=some x:=by
 obtain⟨l1,l2,l3⟩:=lim_zero hl;have key:∀(neg:Bool) (i:List UInt8),i≠[]->i.all dig=true->(i.head?≠some 48\/i.length=1)->norm neg (vals i) x.e=x->numT sat neg (i++101::Lib.itoa x.e)=some x:=by
  intro neg i hi hd hh hx;obtain⟨t1,t2⟩:=tw_app (p:=dig) i 101 (Lib.itoa x.e) (List.all_eq_true.1 hd) (by decide);unfold numT;rw[t1,t2,if_neg,if_neg (by simp),itoa_tail _ _ (by omega),hx];rintro(h1|h1)
  ·exact hi h1
  ·rcases hh with h2|h2
   ·exact h2 h1.1
   ·omega
 have hx:=coef_norm h;by_cases hn:x.d=[]
 ·have hc:coef x=[48]:=by unfold coef;rw[if_pos hn]
  unfold numS text;rw[hc]at hx ⊢;rw[if_neg (by simp)];exact key false [48] (by simp) (by decide) (.inr rfl) hx
 ·obtain⟨h1,h2,h3⟩:=head_ch hn h.lt h.head;have hx2:=norm_id x h hn;rw[<-vals_ch x.d h.lt]at hx2;unfold numS text;rw[coef_pos hn];cases hneg:x.neg with
  |true=>
   rw[if_pos rfl,List.cons_append,List.nil_append,if_pos (by rfl)];rw[hneg]at hx2;exact key true _ h3 (all_ch _ h.lt) (.inl h1) (by rw[vals_ch _ h.lt]at hx2 ⊢;exact hx2)
  |false=>
   rw[hneg]at hx2;rw[if_neg (c:=false=true) (by simp),List.nil_append,head_app _ _ h3,if_neg h2];exact key false _ h3 (all_ch _ h.lt) (.inl h1) (by rw[vals_ch _ h.lt]at hx2 ⊢;exact hx2)
theorem readR_text {x:Dn} (h:Wf x) (hl:lim x=0):readR (text x)=some x:=by
 unfold readR;rw[numS_text h hl _ (by omega)];show(if lim x=0/\text x=text x then some x else none)=some x;rw[if_pos ⟨hl,rfl⟩]
theorem read_eq (s:List UInt8):readP s=readR s:=by
 cases hp:readP s with
 |some x=>
  obtain⟨h1,h2,h3⟩:=readP_some hp;rw[<-h3,readR_text h1 h2]
 |none=>
  cases hr:readR s with
  |none=>rfl
  |some x=>
   obtain⟨h1,h2,h3⟩:=readR_some hr;rw[<-h3,readP_text h1 h2]at hp;cases hp
def fitsB (m:Nat) (e:Int):Bool:=m%2==1 && decide (Lib.bitLen m<=53) && decide (-1074<=e) && decide (e<=1023) && decide (e+Lib.bitLen m<=1024)
def fT (s:List UInt8):List UInt8:=if s.head?=some 45 then s.tail else s
def fA (t:List UInt8):List UInt8:=t.takeWhile (fun c=>c != 112)
def fltN (t:List UInt8):Bool:=
 match t.dropWhile (fun c=>c != 112)with
 | []=>false
 |_::b=>match Lib.parseUintB 64 (fA t)with
  | .ok m=>match Lib.atoiAll b with
   | .ok e=>fitsB m e && decide (Lib.decDigits m++112::Lib.itoa e=t)
   |_=>false
  |_=>false
def fltP (s:List UInt8):Bool:=
 if s=[110,97,110]then true else if fT s=[105,110,102]then true else if fT s=[48,112,48]then true else fltN (fT s)
def numb (s:List UInt8):Option Int:=if intB s=true/\s.length<=18 then some (if s.head?=some 45 then -(val (intS s):Int)else(val (intS s):Int))else none
def mokB (m e:Int):Bool:=!(decide (m<0) || (m==0 && e != 0) || (m != 0 && (m%2==0 || decide (53<Lib.bitLen m.toNat) || decide (e< -1074) || decide (1023<e) || decide (1024<e+Lib.bitLen m.toNat))))
def fltR (s:List UInt8):Bool:=
 if fT s=[105,110,102]then true else if s=[110,97,110]then true
 else match(fT s).dropWhile (fun c=>c != 112)with
  | []=>false
  |_::b=>match numb (fA (fT s))with
   |some m=>match numb b with
    |some e=>mokB m e
    |none=>false
   |none=>false
theorem bitLen_lt {m:Nat} (h:m<2 ^ 64):m<2 ^ Lib.bitLen m:=by
 rcases Nat.eq_zero_or_pos m with h0|h0
 ·subst h0;exact Nat.two_pow_pos _
 ·exact(Lib.bitLenAux_bounds 64 m h (by omega)).2.2
theorem lt_of_bitLen {m:Nat} (h:m<2 ^ 64) (hb:Lib.bitLen m<=53):m<2 ^ 53:=
 Nat.lt_of_lt_of_le (bitLen_lt h) (Nat.pow_le_pow_right (by omega) hb)
theorem numb_itoa {s:List UInt8} {n:Int} (h:numb s=some n):s=Lib.itoa n/\n.natAbs<10 ^ 18:=by
 unfold numb at h;split at h
 ·rename_i hc;obtain⟨hb,hl⟩:=hc;have hall:=intB_all hb;have hb2:=hb;unfold intB at hb2;split at hb2
  ·cases hb2
  ·rename_i hnn;have hne:intS s≠[]:=fun e=>hnn (.inl (by rw[e];rfl))
   have hlen:(intS s).length<=s.length:=by unfold intS;split<;>simp
   have hv:=val_lt _ hall;have hv2:val (intS s)<10 ^ 18:=Nat.lt_of_lt_of_le hv (Nat.pow_le_pow_right (by omega) (by omega));injection h with h
   by_cases h45:s.head?=some 45
   ·rw[if_pos h45]at h;have hl1:s.length>1:=by
     rcases Nat.lt_or_ge 1 s.length with h1|h1
     ·exact h1
     ·exfalso;have hs:s=[45]:=by
       cases s with
       |nil=>cases h45
       |cons a l=>cases l with
        |nil=>simp at h45;rw[h45]
        |cons b l=>simp at h1
      rw[hs]at hall;exact absurd hall (by decide)
    have hS:intS s=s.tail:=by unfold intS;rw[if_pos ⟨hl1,h45⟩]
    have h48:(intS s).head?≠some 48:=fun e=>hnn (.inr (.inr ⟨e,hl1⟩))
    have hcd:=canon_dec _ hne hall (.inl h48);have hpos:0<val (intS s):=by
     rcases Nat.eq_zero_or_pos (val (intS s))with h0|h0
     ·rw[h0,Lib.decDigits_one (by omega)]at hcd;exact absurd (by rw[<-hcd];rfl) h48
     ·exact h0
    refine⟨?_,by omega⟩;unfold Lib.itoa;rw[if_pos (by omega),show n.natAbs=val (intS s)from by omega,hcd,hS];cases s with
    |nil=>cases h45
    |cons a l=>simp at h45;rw[h45];rfl
   ·rw[if_neg h45]at h;have hS:intS s=s:=by unfold intS;rw[if_neg (fun e=>h45 e.2)]
    refine⟨?_,by omega⟩;unfold Lib.itoa;rw[if_neg (by omega),show n.toNat=val (intS s)from by omega,canon_dec _ hne hall,hS];rcases Nat.lt_or_ge 1 s.length with h1|h1
    ·exact .inl (fun e=>hnn (.inr (.inr ⟨e,h1⟩)))
    ·right;rw[hS]at hne ⊢;have:=List.length_pos_iff.2 hne;omega
 ·cases h
theorem itoa_intB (n:Int) (k:Nat) (hk:k<=16) (h:n.natAbs<10 ^ (k+1)):intS (Lib.itoa n)=Lib.decDigits n.natAbs/\intB (Lib.itoa n)=true/\(Lib.itoa n).length<=18/\(n<0↔(Lib.itoa n).head?=some 45):=by
 have hlen:=itoa_len_le n k h;have hne:=decDigits_ne n.natAbs;have hall:=decDigits_all n.natAbs;have hp:=List.length_pos_iff.2 hne;have hd45:(Lib.decDigits n.natAbs).head?≠some 45:=by
  cases hd:Lib.decDigits n.natAbs with
  |nil=>simp
  |cons c l=>
   rw[hd,List.all_cons,Bool.and_eq_true]at hall;exact fun e=>not_dig_ne hall.1 45 (.inl (by omega)) (by omega) (by simpa using e)
 by_cases hn:n<0
 ·have hi:Lib.itoa n=45::Lib.decDigits n.natAbs:=by unfold Lib.itoa;rw[if_pos hn]
  have hS:intS (Lib.itoa n)=Lib.decDigits n.natAbs:=by
   rw[hi];unfold intS;rw[if_pos ⟨by simp;omega,rfl⟩];rfl
  refine⟨hS,?_,by omega,⟨fun _=>by rw[hi];rfl,fun _=>hn⟩⟩;unfold intB;rw[hS,if_neg,hall];rintro(h1|h1|h1)
  ·omega
  ·rw[hi,List.length_cons]at hlen;omega
  ·exact decDigits_head _ (by omega) h1.1
 ·have hi:Lib.itoa n=Lib.decDigits n.natAbs:=by unfold Lib.itoa;rw[if_neg hn,show n.toNat=n.natAbs from by omega]
  have hS:intS (Lib.itoa n)=Lib.decDigits n.natAbs:=by rw[hi];unfold intS;rw[if_neg (fun e=>hd45 e.2)]
  refine⟨hS,?_,by omega,⟨fun h=>absurd h hn,fun h=>by rw[hi]at h;exact absurd h hd45⟩⟩;unfold intB;rw[hS,if_neg,hall];rintro(h1|h1|h1)
  ·omega
  ·rw[hi]at hlen;omega
  ·by_cases h0:n.natAbs=0
   ·rw[hi,h0,Lib.decDigits_one (by omega)]at h1;simp at h1
   ·exact decDigits_head _ h0 h1.1
theorem numb_of (n:Int) (h:n.natAbs<10 ^ 17):numb (Lib.itoa n)=some n:=by
 obtain⟨h1,h2,h3,h4⟩:=itoa_intB n 16 (by omega) h;unfold numb;rw[if_pos ⟨h2,h3⟩,h1,decDigits_val];by_cases hn:n<0
 ·rw[if_pos (h4.1 hn)];congr 1;omega
 ·rw[if_neg (fun e=>hn (h4.2 e))];congr 1;omega
theorem parseM_all (M:Nat) (hM:M=18446744073709551615) (l:List UInt8) (acc:Nat) (h:l.all dig=true) (hb:acc*10 ^ l.length+val l<18446744073709551616):Lib.parseUintM M acc l=.ok (acc*10 ^ l.length+val l):=by
 induction l generalizing acc with
 |nil=>simp[Lib.parseUintM,val]
 |cons c l ih=>
  rw[List.all_cons,Bool.and_eq_true,dig_iff]at h;rw[val_cons,List.length_cons,Nat.pow_succ]at hb ⊢;have e1:acc*(10 ^ l.length*10)+(dv c*10 ^ l.length+val l)=(acc*10+dv c)*10 ^ l.length+val l:=by
   rw[Nat.add_mul,<-Nat.add_assoc,Nat.mul_assoc,Nat.mul_comm 10]
  rw[e1]at hb ⊢;have hp:1<=10 ^ l.length:=Nat.one_le_pow _ _ (by decide);have h2:acc*10+dv c<=(acc*10+dv c)*10 ^ l.length:=Nat.le_mul_of_pos_right _ hp;unfold Lib.parseUintM;rw[if_pos h.1,if_neg (by omega),show c.toNat-48=dv c from rfl,if_neg (by omega),ih _ h.2 hb]
theorem parse_dec (m:Nat) (h:m<2 ^ 64):Lib.parseUintB 64 (Lib.decDigits m)=.ok m:=by
 unfold Lib.parseUintB;rw[if_neg (decDigits_ne m),parseM_all _ (by decide) _ _ (decDigits_all m) (by rw[decDigits_val];omega),decDigits_val];simp
theorem atoiAll_itoa (n:Int) (h:n.natAbs<10 ^ 17):Lib.atoiAll (Lib.itoa n)=.ok n:=by
 rw[Lib.atoiAll_short _ (itoa_intB n 16 (by omega) h).2.2.1,atoi_itoa];rfl
theorem dec_no_p (m:Nat):∀c∈Lib.decDigits m,(c != 112)=true:=by
 intro c hc;have:=List.all_eq_true.1 (decDigits_all m) c hc;simpa using not_dig_ne this 112 (.inr (by omega)) (by omega)
theorem itoa_nat (m:Nat):Lib.itoa (m:Int)=Lib.decDigits m:=by unfold Lib.itoa;rw[if_neg (by omega)];rfl
theorem parseM_lt (l:List UInt8) (acc u:Nat) (ha:acc<2 ^ 64) (h:Lib.parseUintM (2 ^ 64-1) acc l=.ok u):u<2 ^ 64:=by
 induction l generalizing acc with
 |nil=>simp only[Lib.parseUintM]at h;injection h with h;omega
 |cons c l ih=>
  unfold Lib.parseUintM at h;split at h
  ·split at h
   ·cases h
   ·split at h
    ·cases h
    ·exact ih _ (by omega) h
  ·cases h
theorem parse_lt {l:List UInt8} {u:Nat} (h:Lib.parseUintB 64 l=.ok u):u<2 ^ 64:=by
 unfold Lib.parseUintB at h;split at h
 ·cases h
 ·exact parseM_lt _ _ _ (by omega) h
theorem fltN_iff (t:List UInt8):fltN t=true↔∃(m:Nat) (e:Int),t=Lib.decDigits m++112::Lib.itoa e/\m<2 ^ 64/\fitsB m e=true:=by
 constructor
 ·intro h;unfold fltN at h;split at h
  ·cases h
  ·split at h
   ·rename_i m hm;split at h
    ·rename_i e he;rw[Bool.and_eq_true]at h;exact⟨m,e,(of_decide_eq_true h.2).symm,parse_lt hm,h.1⟩
    ·cases h
   ·cases h
 ·rintro⟨m,e,rfl,hm,hf⟩;obtain⟨t1,t2⟩:=tw_app (p:=fun c=>c != 112) (Lib.decDigits m) 112 (Lib.itoa e) (dec_no_p m) (by decide);have he:e.natAbs<10 ^ 17:=by
   unfold fitsB at hf;simp only[Bool.and_eq_true,decide_eq_true_iff]at hf;omega
  unfold fltN fA;rw[t1,t2];simp only;rw[parse_dec m hm];simp only;rw[atoiAll_itoa e he];simp only;rw[hf,Bool.true_and];simp
theorem mok_pos {m e:Int} (h:mokB m e=true) (h0:m≠0):0<m/\fitsB m.toNat e=true:=by
 unfold mokB at h;unfold fitsB;simp only[Bool.not_eq_true',Bool.or_eq_false_iff,Bool.and_eq_false_iff,decide_eq_false_iff_not,Bool.and_eq_true,decide_eq_true_iff,bne_eq_false_iff_eq,beq_eq_false_iff_ne,beq_iff_eq]at h ⊢;obtain⟨⟨h1,h2⟩,h3⟩:=h;rcases h3 with h3|h3
 ·exact absurd h3 h0
 ·obtain⟨⟨⟨⟨a,b⟩,c⟩,d⟩,f⟩:=h3;refine⟨by omega,⟨⟨⟨⟨by omega,by omega⟩,by omega⟩,by omega⟩,by omega⟩⟩
theorem mok_of {m:Nat} {e:Int} (hf:fitsB m e=true):mokB (m:Int) e=true:=by
 unfold fitsB at hf;unfold mokB;simp only[Bool.not_eq_true',Bool.or_eq_false_iff,Bool.and_eq_false_iff,decide_eq_false_iff_not,Bool.and_eq_true,decide_eq_true_iff,bne_eq_false_iff_eq,beq_eq_false_iff_ne,beq_iff_eq,Int.toNat_natCast]at hf ⊢;obtain⟨⟨⟨⟨a,b⟩,c⟩,d⟩,f⟩:=hf;refine⟨⟨by omega,.inl (by omega)⟩,.inr ⟨⟨⟨⟨by omega,by omega⟩,by omega⟩,by omega⟩,by omega⟩⟩
theorem flt_eq (s:List UInt8):fltP s=fltR s:=by
 unfold fltP fltR;by_cases h1:s=[110,97,110]
 ·subst h1;rfl
 ·rw[if_neg h1,if_neg h1];by_cases h2:fT s=[105,110,102]
  ·rw[if_pos h2,if_pos h2]
  ·rw[if_neg h2,if_neg h2];generalize fT s=t;rw[Bool.eq_iff_iff];have h64:(10:Nat) ^ 17<2 ^ 64:=by decide
   have h53:(2:Nat) ^ 53<10 ^ 17:=by decide
   constructor
   ·intro h;split at h
    ·rename_i ht;subst ht;rfl
    ·obtain⟨m,e,rfl,hm,hf⟩:=(fltN_iff t).1 h;obtain⟨t1,t2⟩:=tw_app (p:=fun c=>c != 112) (Lib.decDigits m) 112 (Lib.itoa e) (dec_no_p m) (by decide);have hff:=hf;unfold fitsB at hff;simp only[Bool.and_eq_true,decide_eq_true_iff]at hff;obtain⟨⟨⟨⟨a,b⟩,c⟩,d⟩,f⟩:=hff;have:=lt_of_bitLen hm b;unfold fA;rw[t1,t2];simp only;rw[<-itoa_nat,numb_of (m:Int) (by omega)];simp only;rw[numb_of e (by omega)];exact mok_of hf
   ·intro h;split at h
    ·cases h
    ·rename_i c b hd;split at h
     ·rename_i m hm;split at h
      ·rename_i e he;obtain⟨ha,hma⟩:=numb_itoa hm;obtain⟨hb,heb⟩:=numb_itoa he;have hc:c=112:=by
        have:=List.head?_dropWhile_not (fun c:UInt8=>c != 112) t;rw[hd]at this;simpa using this
       have ht:t=Lib.itoa m++112::Lib.itoa e:=by
        rw[<-ha,<-hb,<-hc,<-hd];exact(List.takeWhile_append_dropWhile).symm
       by_cases h0:m=0
       ·subst h0;have he0:e=0:=by
         unfold mokB at h;simp at h;exact h
        subst he0;have h00:Lib.itoa 0=[48]:=by unfold Lib.itoa;rw[if_neg (by omega)];exact Lib.decDigits_one (i:=0) (by omega)
        rw[if_pos (by rw[ht,h00];rfl)]
       ·obtain⟨p1,p2⟩:=mok_pos h h0;split
        ·rfl
        ·rw[fltN_iff];refine⟨m.toNat,e,?_,by omega,p2⟩;rw[ht,<-itoa_nat,show((m.toNat:Nat):Int)=m from by omega]
      ·cases h
     ·cases h
end Gr
end Go.Proofs.YtoigpackhninoaaGreatDoor
namespace Go.Proofs.YtoigpackhninoaaGreatDoor
namespace Cal
def leapB (y:Int):Bool:=(y.tmod 4==0) && (!(y.tmod 100==0) || (y.tmod 400==0))
def lp (y:Int):Int:=if leapB y=true then 1 else 0
def dim (y m:Int):Int:=if m=2 then 28+lp y else if m=4\/m=6\/m=9\/m=11 then 30 else 31
def tbl (m:Int):Int:=if m<=3 then 59 else if m<=4 then 90 else if m<=5 then 120 else if m<=6 then 151 else if m<=7 then 181 else if m<=8 then 212 else if m<=9 then 243 else if m<=10 then 273 else if m<=11 then 304 else if m<=12 then 334 else 365
def cum (y m:Int):Int:=if m<=1 then 0 else if m<=2 then 31 else tbl m+lp y
def fst (y:Int):Int:=365*y+(y+3) /4-(y+99) /100+(y+399) /400
def num (y m d:Int):Int:=fst y+cum y m+d-1-719528
def vld (y m d:Int):Bool:=decide (0<=y) && decide (y<=9999) && decide (1<=m) && decide (m<=12) && decide (1<=d) && decide (d<=dim y m)
theorem lp_01 (y:Int):0<=lp y/\lp y<=1:=by unfold lp;split<;>omega
theorem leapB_iff (y:Int) (h:0<=y):leapB y=true↔(y%4=0/\(y%100≠0\/y%400=0)):=by
 unfold leapB;rw[Int.tmod_eq_emod_of_nonneg h,Int.tmod_eq_emod_of_nonneg h,Int.tmod_eq_emod_of_nonneg h];simp
theorem fst_succ (y:Int) (h:0<=y):fst (y+1)=fst y+365+lp y:=by
 unfold lp;have hl:=leapB_iff y h;unfold fst;by_cases c:leapB y=true
 ·rw[if_pos c];have:=hl.1 c;omega
 ·rw[if_neg c];have:¬(y%4=0/\(y%100≠0\/y%400=0)):=fun hh=>c (hl.2 hh)
  omega
theorem fst_mono (a b:Int) (_h0:0<=a) (h:a<=b):fst a+365*(b-a)<=fst b:=by unfold fst;omega
theorem fst_bd (a:Int) (h0:0<=a) (h:a<=10000):0<=fst a/\fst a<=3652425:=by unfold fst;omega
theorem fst_guess (n:Int) (h0:0<=n):fst (n /366)<=n:=by unfold fst;omega
theorem fst_10000:fst 10000=3652425:=by decide
theorem dim_bd (y m:Int):28<=dim y m/\dim y m<=31:=by
 have:=lp_01 y;unfold dim;split
 ·omega
 ·split<;>omega
theorem cum_one (y:Int):cum y 1=0:=rfl
theorem cum_succ (y m:Int) (h1:1<=m) (h2:m<=12):cum y (m+1)=cum y m+dim y m:=by
 have hc:m=1\/m=2\/m=3\/m=4\/m=5\/m=6\/m=7\/m=8\/m=9\/m=10\/m=11\/m=12:=by omega
 rcases hc with rfl|rfl|rfl|rfl|rfl|rfl|rfl|rfl|rfl|rfl|rfl|rfl<;>simp[cum,dim,tbl]<;>omega
theorem tbl_bd (m:Int):59<=tbl m/\tbl m<=365:=by
 unfold tbl
 iterate 10 (split;decide)
 decide
theorem cum_bd (y m:Int):0<=cum y m/\cum y m<=366:=by
 have:=lp_01 y;have:=tbl_bd m;unfold cum;split
 ·omega
 ·split<;>omega
theorem cum_13 (y:Int):cum y 13=365+lp y:=rfl
theorem cum_mono (y a b:Int) (h1:1<=a) (h:a<=b) (h2:b<=13):cum y a<=cum y b:=by
 have hh:∀k:Nat,∀a:Int,1<=a->a+k<=13->cum y a<=cum y (a+k):=by
  intro k
  induction k with
  |zero=>intro a _ _;simp
  |succ k ih=>
   intro a h1 h2;have h3:=ih a h1 (by omega);have h4:=cum_succ y (a+k) (by omega) (by omega);have:=dim_bd y (a+k);rw[show a+((k+1:Nat):Int)=a+k+1 from by omega];omega
 have:=hh (b-a).toNat a h1 (by omega);rwa[show a+((b-a).toNat:Int)=b from by omega]at this
theorem vld_mk {y m d:Int} (h:0<=y/\y<=9999/\1<=m/\m<=12/\1<=d/\d<=dim y m):vld y m d=true:=by
 simp[vld];omega
theorem vld_of {y m d:Int} (h:vld y m d=true):0<=y/\y<=9999/\1<=m/\m<=12/\1<=d/\d<=dim y m:=by
 simp[vld]at h;omega
theorem in_year {y m d:Int} (h1:1<=m) (h2:m<=12) (h3:1<=d) (h4:d<=dim y m):0<=cum y m+d-1/\cum y m+d-1<365+lp y:=by
 have:=cum_bd y m;have:=cum_succ y m h1 h2;have h5:=cum_mono y (m+1) 13 (by omega) (by omega) (by omega);rw[cum_13]at h5;omega
theorem num_lt {y m d y' m' d':Int} (h:vld y m d=true) (h':vld y' m' d'=true) (hl:y<y'\/y=y'/\(m<m'\/m=m'/\d<d')):num y m d<num y' m' d':=by
 have a:=vld_of h;have b:=vld_of h';have ia:=in_year (y:=y) (m:=m) (d:=d) (by omega) (by omega) (by omega) (by omega);have ib:=in_year (y:=y') (m:=m') (d:=d') (by omega) (by omega) (by omega) (by omega);unfold num;rcases hl with hl|⟨rfl,hl|⟨rfl,hl⟩⟩
 ·have h1:=fst_succ y (by omega);have h2:=fst_mono (y+1) y' (by omega) (by omega);omega
 ·have h1:=cum_succ y m (by omega) (by omega);have h2:=cum_mono y (m+1) m' (by omega) (by omega) (by omega);omega
 ·omega
theorem num_inj {y m d y' m' d':Int} (h:vld y m d=true) (h':vld y' m' d'=true) (hn:num y m d=num y' m' d'):y=y'/\m=m'/\d=d':=by
 by_cases c1:y<y'\/y=y'/\(m<m'\/m=m'/\d<d')
 ·have:=num_lt h h' c1;omega
 ·by_cases c2:y'<y\/y'=y/\(m'<m\/m'=m/\d'<d)
  ·have:=num_lt h' h c2;omega
  ·omega
theorem num_bd {y m d:Int} (h:vld y m d=true):-719528<=num y m d/\num y m d<=2932896:=by
 have a:=vld_of h;have ia:=in_year (y:=y) (m:=m) (d:=d) (by omega) (by omega) (by omega) (by omega);have h1:=fst_succ y (by omega);have h2:=fst_mono (y+1) 10000 (by omega) (by omega);have h3:=fst_bd y (by omega) (by omega);rw[fst_10000]at h2;unfold num;omega
end Cal
namespace Gr
def numAt (s:List UInt8) (a n:Nat):Option Nat:=if a+n<=s.length/\((s.drop a).take n).all dig=true then some (val ((s.drop a).take n))else none
def isAt (s:List UInt8) (a:Nat) (c:UInt8):Bool:=s[a]? ==some c
def dateAt (s:List UInt8):Option (Nat×Nat×Nat):=
 match numAt s 0 4,numAt s 5 2,numAt s 8 2 with
 |some y,some m,some d=>if(isAt s 4 45 && isAt s 7 45)=true then some (y,m,d)else none
 |_,_,_=>none
structure Ck where
 h:Nat
 m:Nat
 s:Nat
 nanos:Nat
 stop:Nat
def clockAt (s:List UInt8) (a:Nat):Option Ck:=
 match numAt s a 2,numAt s (a+3) 2,numAt s (a+6) 2 with
 |some h,some m,some c=>
  if(isAt s (a+2) 58 && isAt s (a+5) 58)=true then
   if isAt s (a+8) 46=true then
    if((s.drop (a+9)).takeWhile dig).length=0\/9<((s.drop (a+9)).takeWhile dig).length then none
    else some ⟨h,m,c,val ((s.drop (a+9)).takeWhile dig)*10 ^ (9-((s.drop (a+9)).takeWhile dig).length),a+9+((s.drop (a+9)).takeWhile dig).length⟩
   else some ⟨h,m,c,0,a+8⟩
  else none
 |_,_,_=>none
structure Zn where
 z:UInt8
 h:Nat
 m:Nat
 stop:Nat
def zoneAt (s:List UInt8) (a:Nat):Option Zn:=
 if isAt s a 90=true then some ⟨90,0,0,a+1⟩
 else match numAt s (a+1) 2,numAt s (a+4) 2 with
  |some h,some m=>if((isAt s a 43 || isAt s a 45) && isAt s (a+3) 58)=true then some ⟨s.getD a 0,h,m,a+6⟩else none
  |_,_=>none
structure Mo where
 date:Bool
 time:Bool
 y:Nat
 m:Nat
 d:Nat
 h:Nat
 mi:Nat
 c:Nat
 nanos:Nat
 z:UInt8
 zh:Nat
 zm:Nat
def rd (s:List UInt8):Option Mo:=
 match dateAt s with
 |none=>match clockAt s 0 with
  |some k=>if k.stop=s.length then some ⟨false,true,0,0,0,k.h,k.m,k.s,k.nanos,0,0,0⟩else none
  |none=>none
 |some (y,m,d)=>
  if s.length=10 then some ⟨true,false,y,m,d,0,0,0,0,0,0,0⟩
  else if(isAt s 10 84 || isAt s 10 32)=true then match clockAt s 11 with
   |none=>none
   |some k=>if k.stop=s.length then some ⟨true,true,y,m,d,k.h,k.m,k.s,k.nanos,0,0,0⟩
    else match zoneAt s k.stop with
     |some z=>if z.stop=s.length then some ⟨true,true,y,m,d,k.h,k.m,k.s,k.nanos,z.z,z.h,z.m⟩else none
     |none=>none
  else none
def okR (x:Mo):Bool:=(!x.date || Cal.vld x.y x.m x.d) && decide (x.h<=23) && decide (x.mi<=59) && decide (x.c<=59) && decide (x.zh<=23) && decide (x.zm<=59)
def offS (x:Mo):Int:=if x.z=45 then -((3600*x.zh+60*x.zm:Nat):Int)else((3600*x.zh+60*x.zm:Nat):Int)
def secs (x:Mo):Int:=Cal.num x.y x.m x.d*86400+(3600*x.h+60*x.mi+x.c:Nat)-offS x
def pd:Nat->Nat->List UInt8
 | 0,_=>[]
 |w+1,x=>pd w (x /10)++[ch (x%10)]
theorem pd_len (w x:Nat):(pd w x).length=w:=by
 induction w generalizing x with
 |zero=>rfl
 |succ w ih=>unfold pd;rw[List.length_append,ih];rfl
theorem pd_front (w x:Nat):pd (w+1) x=ch (x /10 ^ w%10)::pd w x:=by
 induction w generalizing x with
 |zero=>simp[pd]
 |succ w ih=>
  rw[pd,ih,List.cons_append];rw[show pd (w+1) x=pd w (x /10)++[ch (x%10)]from rfl,Nat.div_div_eq_div_mul,Nat.pow_succ,Nat.mul_comm 10]
theorem pd_zero (w:Nat):pd w 0=List.replicate w 48:=by
 induction w with
 |zero=>rfl
 |succ w ih=>rw[pd,Nat.zero_div,ih,List.replicate_succ'];rfl
theorem pd_dec (w x:Nat) (hw:1<=w) (hx:x<10 ^ w):List.replicate (w-(Lib.decDigits x).length) 48++Lib.decDigits x=pd w x:=by
 induction w generalizing x with
 |zero=>omega
 |succ w ih=>
  by_cases h:x<10
  ·rw[Lib.decDigits_one h,pd,show x /10=0 from by omega,pd_zero,show x%10=x from by omega];rfl
  ·rcases Nat.eq_zero_or_pos w with h0|h0
   ·subst h0;simp at hx;omega
   ·have h1:=ih (x /10) h0 (by rw[Nat.pow_succ]at hx;omega);rw[decDigits_snoc h,pd,<-h1,List.length_append,List.append_assoc]
    congr 2
    simp
def trimZ (l:List UInt8):List UInt8:=(l.reverse.dropWhile (fun c=>c==48)).reverse
def nanoS (n:Nat):List UInt8:=if n=0 then[]else 46::trimZ (pd 9 n)
def dateS (y m d:Nat):List UInt8:=pd 4 y++45::(pd 2 m++45::pd 2 d)
def clkS (h m s n:Nat):List UInt8:=pd 2 h++58::(pd 2 m++58::(pd 2 s++nanoS n))
def locS (x:Mo):List UInt8:=(if x.date=true then dateS x.y x.m x.d else[])++((if(x.date && x.time)=true then[84]else[])++(if x.time=true then clkS x.h x.mi x.c x.nanos else[]))
theorem trimZ_zero (w:Nat):trimZ (List.replicate w 48)=[]:=by
 unfold trimZ;rw[List.reverse_replicate]
 induction w with
 |zero=>rfl
 |succ w ih=>rw[List.replicate_succ,List.dropWhile_cons,if_pos (by decide)];exact ih
theorem trimZ_snoc (l:List UInt8) (c:UInt8):trimZ (l++[c])=if c=48 then trimZ l else l++[c]:=by
 unfold trimZ;rw[List.reverse_append,List.reverse_cons,List.reverse_nil,List.nil_append,List.singleton_append,List.dropWhile_cons];by_cases h:c=48
 ·rw[if_pos (by simpa using h),if_pos h]
 ·rw[if_neg (by simpa using h),if_neg h];simp
theorem trimZ_pos (w x:Nat) (hx:x<10 ^ w) (h:0<x):trimZ (pd w x)≠[]:=by
 induction w generalizing x with
 |zero=>simp at hx;omega
 |succ w ih=>
  rw[pd,trimZ_snoc];split
  ·rename_i hc;have h1:=congrArg dv hc;rw[dv_ch _ (by omega)]at h1;have h2:x%10=0:=h1;exact ih (x /10) (by rw[Nat.pow_succ]at hx;omega) (by omega)
  ·simp
noncomputable def dateOf (n:Int):Nat×Nat×Nat:=
 open Classical in if h:∃t:Nat×Nat×Nat,Cal.vld t.1 t.2.1 t.2.2=true/\Cal.num t.1 t.2.1 t.2.2=n then h.choose else(0,0,0)
theorem dateOf_eq {n:Int} {y m d:Nat} (hv:Cal.vld y m d=true) (hn:Cal.num y m d=n):dateOf n=(y,m,d):=by
 have h:∃t:Nat×Nat×Nat,Cal.vld t.1 t.2.1 t.2.2=true/\Cal.num t.1 t.2.1 t.2.2=n:=⟨(y,m,d),hv,hn⟩
 unfold dateOf;rw[dif_pos h];obtain⟨h1,h2⟩:=h.choose_spec;obtain⟨a,b,c⟩:=Cal.num_inj h1 hv (h2.trans hn.symm);apply Prod.ext
 ·exact Int.ofNat.inj a
 ·apply Prod.ext
  ·exact Int.ofNat.inj b
  ·exact Int.ofNat.inj c
noncomputable def momS (day:Int) (r nanos:Nat):List UInt8:=
 dateS (dateOf day).1 (dateOf day).2.1 (dateOf day).2.2++84::(clkS (r /3600) (r /60%60) (r%60) nanos++[90])
noncomputable def insP (s:List UInt8):List UInt8×Nat:=
 match rd s with
 |none=>([],3)
 |some x=>if x.z=0 then([],3)else if okR x=false then([],13)
  else if secs x< -62167219200\/253402300800<=secs x then([],13)else(momS (secs x /86400) (secs x%86400).toNat x.nanos,0)
def locP (s:List UInt8):List UInt8×Nat:=
 match rd s with
 |none=>([],3)
 |some x=>if x.z≠0 then([],3)else if okR x=false then([],13)else(locS x,0)
noncomputable def insB (s:List UInt8):Bool:=decide ((insP s).2=0/\(insP s).1=s)
def locB (s:List UInt8):Bool:=decide ((locP s).2=0/\(locP s).1=s)
end Gr
end Go.Proofs.YtoigpackhninoaaGreatDoor
