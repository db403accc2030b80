import Derived.Lib.ItoaNum
import Derived.Lib.AtoiTie
import Derived.Lib.ParseIntB
import Derived.Laws.FloatArith
import Derived.Lib.TrailingZeros
import Derived.Laws.Bits64b
namespace Go.Proofs.YtoigpackhninoaaGreatDoor
namespace Gr
def dig (c:UInt8):Bool:=48<=c && c<=57
theorem zbh (c:UInt8):dig c=true↔48<=c.toNat/\c.toNat<=57:=by
 unfold dig;rw[Bool.and_eq_true,decide_eq_true_iff,decide_eq_true_iff,UInt8.le_iff_toNat_le,UInt8.le_iff_toNat_le];exact Iff.rfl
def dv (c:UInt8):Nat:=c.toNat-48
def val (l:List UInt8):Nat:=l.foldl (fun n c=>10*n+dv c) 0
theorem zu2:val []=0:=rfl
theorem zbi (l:List UInt8) (c:UInt8):val (l++[c])=10*val l+dv c:=by unfold val;rw[List.foldl_append];rfl
theorem foldv (l:List UInt8) (a:Nat):l.foldl (fun n c=>10*n+dv c) a=a*10 ^ l.length+val l:=by
 induction l generalizing a with
 |nil=>simp[val]
 |cons c l ih=>
  unfold val;rw[List.foldl_cons,List.foldl_cons,ih,ih (10*0+dv c),List.length_cons,Nat.pow_succ];rw[Nat.add_mul,Nat.mul_zero,Nat.zero_add,Nat.add_assoc]
  congr 1
  rw[Nat.mul_comm 10 a,Nat.mul_assoc,Nat.mul_comm 10]
theorem zek (c:UInt8) (l:List UInt8):val (c::l)=dv c*10 ^ l.length+val l:=by
 unfold val;rw[List.foldl_cons,foldv,Nat.mul_zero,Nat.zero_add];rfl
theorem zew (l:List UInt8) (h:l.all dig=true):val l<10 ^ l.length:=by
 induction l with
 |nil=>simp[val]
 |cons c l ih=>
  rw[List.all_cons,Bool.and_eq_true,zbh]at h;have:=ih h.2;rw[zek,List.length_cons,Nat.pow_succ];have hd:dv c<=9:=by unfold dv;omega
  have:dv c*10 ^ l.length<=9*10 ^ l.length:=Nat.mul_le_mul_right _ hd;omega
theorem zat {u:Nat} (h:¬u<10):Lib.decDigits u=Lib.decDigits (u /10)++[UInt8.ofNat (48+u%10)]:=by
 rw[Lib.decDigits,dif_neg h]
theorem zn7 (k:Nat) (h:k<10):dig (UInt8.ofNat (48+k))=true:=by
 rw[zbh,UInt8.toNat_ofNat'];omega
theorem zu3 (k:Nat) (h:k<10):dv (UInt8.ofNat (48+k))=k:=by
 unfold dv;rw[UInt8.toNat_ofNat'];omega
theorem zak (u:Nat):(Lib.decDigits u).all dig=true:=by
 induction u using Nat.strongRecOn with
 |_ u ih=>
  by_cases h:u<10
  ·rw[Lib.decDigits_one h,List.all_cons,zn7 u h];rfl
  ·rw[zat h,List.all_append,ih _ (by omega),List.all_cons,zn7 (u%10) (by omega)];rfl
theorem zal (u:Nat):val (Lib.decDigits u)=u:=by
 induction u using Nat.strongRecOn with
 |_ u ih=>
  by_cases h:u<10
  ·rw[Lib.decDigits_one h,zek,zu3 u h];simp[val]
  ·rw[zat h,zbi,ih _ (by omega),zu3 _ (by omega)];omega
theorem zaw (u:Nat):Lib.decDigits u≠[]:=by
 intro h;have:=Lib.decDigits_length u;rw[h]at this;have:=Lib.nDigits_pos u;simp at *;omega
theorem zgq (l m:List UInt8) (h:l≠[]):(l++m).head?=l.head?:=by
 cases l with
 |nil=>exact absurd rfl h
 |cons a l=>rfl
theorem zku {P:List UInt8->Prop} (h0:P []) (h1:∀l c,P l->P (l++[c])):∀l,P l:=by
 have key:∀l:List UInt8,P l.reverse:=by
  intro l
  induction l with
  |nil=>exact h0
  |cons a l ih=>rw[List.reverse_cons];exact h1 _ _ ih
 intro l;have:=key l.reverse;rwa[List.reverse_reverse]at this
theorem zc2 (u:Nat) (h0:u≠0):(Lib.decDigits u).head?≠some 48:=by
 induction u using Nat.strongRecOn with
 |_ u ih=>
  by_cases h:u<10
  ·rw[Lib.decDigits_one h];intro e;simp only[List.head?_cons,Option.some.injEq]at e;have:=congrArg UInt8.toNat e;rw[UInt8.toNat_ofNat']at this;simp at this;omega
  ·rw[zat h,zgq _ _ (zaw _)];exact ih _ (by omega) (by omega)
theorem zhs (l:List UInt8) (hne:l≠[]) (hd:l.all dig=true) (hz:l.head?≠some 48\/l.length=1):Lib.decDigits (val l)=l:=by
 revert hne hd hz
 refine zku (P:=fun l=>l≠[]->l.all dig=true->(l.head?≠some 48\/l.length=1)->Lib.decDigits (val l)=l) (fun h=>absurd rfl h) ?_ l;intro l c ih hne hd hz
 ·rw[List.all_append,Bool.and_eq_true]at hd;have hc:dig c=true:=by simpa using hd.2
  have hcv:=(zbh c).1 hc;have hcc:UInt8.ofNat (48+dv c)=c:=by
   unfold dv;rw[show 48+(c.toNat-48)=c.toNat from by omega];simp
  have hd9:dv c<10:=by unfold dv;omega
  rw[zbi];by_cases hl:l=[]
  ·subst hl;rw[zu2,Nat.mul_zero,Nat.zero_add,Lib.decDigits_one hd9,hcc];rfl
  ·have hz1:l.head?≠some 48:=by
    rcases hz with h|h
    ·rwa[zgq _ _ hl]at h
    ·simp at h;exact absurd h hl
   have ih1:=ih hl hd.1 (.inl hz1);have hpos:1<=val l:=by
    rcases Nat.eq_zero_or_pos (val l)with h0|h0
    ·rw[h0,Lib.decDigits_one (by omega)]at ih1;exact absurd (by rw[<-ih1];rfl) hz1
    ·exact h0
   rw[zat (by omega),show(10*val l+dv c) /10=val l from by omega,show(10*val l+dv c)%10=dv c from by omega,ih1,hcc]
theorem zht (c:UInt8):Lib.digitVal c=if dig c=true then some (dv c)else none:=by
 unfold Lib.digitVal;by_cases h:dig c=true
 ·rw[if_pos h,if_pos ((zbh c).1 h)];rfl
 ·rw[if_neg h,if_neg (fun e=>h ((zbh c).2 e))]
theorem zjh (l:List UInt8) (a:Nat):Lib.decFrom a l=if l.all dig=true then some (a*10 ^ l.length+val l)else none:=by
 induction l generalizing a with
 |nil=>simp[Lib.decFrom,val]
 |cons c l ih=>
  unfold Lib.decFrom;rw[zht];by_cases h:dig c=true
  ·rw[if_pos h];simp only;rw[ih,List.all_cons,h,Bool.true_and];by_cases h2:l.all dig=true
   ·rw[if_pos h2,if_pos h2,zek,List.length_cons,Nat.pow_succ,Nat.add_mul,<-Nat.add_assoc,Nat.mul_assoc,Nat.mul_comm 10]
   ·rw[if_neg h2,if_neg h2]
  ·grind
theorem zf1 (l:List UInt8):Lib.decNat l=if l≠[]/\l.all dig=true then some (val l)else none:=by
 unfold Lib.decNat;cases l with
 |nil=>simp
 |cons c l=>
  rw[List.isEmpty_cons,if_neg (by simp),zjh,Nat.zero_mul,Nat.zero_add];by_cases h:(c::l).all dig=true
  ·grind
  ·grind
theorem zhu (n:Int):Lib.atoi (Lib.itoa n)=some n:=by
 unfold Lib.itoa;by_cases h:n<0
 ·rw[if_pos h];unfold Lib.atoi;simp only[beq_self_eq_true,if_true];rw[zf1,if_pos ⟨zaw _,zak _⟩,zal];simp;omega
 ·rw[if_neg h];have hne:=zaw n.toNat;have hall:=zak n.toNat;have hval:=zal n.toNat;cases hd:Lib.decDigits n.toNat with
  |nil=>exact absurd hd hne
  |cons c l=>
   rw[hd]at hall hval;have hc:dig c=true:=by rw[List.all_cons,Bool.and_eq_true]at hall;exact hall.1
   have hcv:=(zbh c).1 hc;unfold Lib.atoi;have h45:(c==45)=false:=by
    rw[beq_eq_false_iff_ne];intro e;subst e;revert hcv;decide
   have h43:(c==43)=false:=by
    rw[beq_eq_false_iff_ne];intro e;subst e;revert hcv;decide
   simp only[h45,h43,Bool.false_eq_true,if_false];rw[zf1,if_pos ⟨by simp,hall⟩,hval];simp;omega
theorem zbn (k u:Nat) (h:u<10 ^ (k+1)):Lib.nDigits u<=k+1:=by
 induction k generalizing u with
 |zero=>rw[Lib.nDigits_small (by simpa using h)];exact Nat.le_refl _
 |succ k ih=>
  by_cases h1:u<10
  ·rw[Lib.nDigits_small h1];omega
  ·rw[Lib.nDigits_big h1];have:=ih (u /10) (by rw[Nat.pow_succ]at h;omega);omega
theorem zc4 (n:Int) (k:Nat) (h:n.natAbs<10 ^ (k+1)):(Lib.itoa n).length<=k+2:=by
 unfold Lib.itoa;split
 ·rw[List.length_cons,Lib.decDigits_length];have:=zbn k _ h;omega
 ·rw[Lib.decDigits_length];have:=zbn k n.toNat (by omega);omega
def intS (n:List UInt8):List UInt8:=if n.length>1/\n.head?=some 45 then n.tail else n
def intB (n:List UInt8):Bool:=if(intS n).length=0\/(intS n).length>400\/((intS n).head?=some 48/\n.length>1)then false else(intS n).all dig
structure Dn where
 neg:Bool
 d:List Nat
 e:Int
def isZ (x:Nat):Bool:=x==0
def rz (d:List Nat):List Nat:=(d.reverse.dropWhile isZ).reverse
def zeroD:Dn:=⟨false,[],0⟩
def norm (neg:Bool) (d:List Nat) (e:Int):Dn:=
 if d.dropWhile isZ=[]then zeroD else⟨neg,rz (d.dropWhile isZ),e+(((d.dropWhile isZ).length-(rz (d.dropWhile isZ)).length:Nat):Int)⟩
def ch (v:Nat):UInt8:=UInt8.ofNat (48+v)
def vals (s:List UInt8):List Nat:=s.map dv
def coef (x:Dn):List UInt8:=if x.d=[]then[48]else(if x.neg=true then[45]else[])++x.d.map ch
def text (x:Dn):List UInt8:=coef x++101::Lib.itoa x.e
def lim (x:Dn):Nat:=if 400<x.d.length then 6 else if x.e< -2000\/2000<x.e then 2 else 0
structure Wf (x:Dn):Prop where
 zero:x.d=[]->x.neg=false/\x.e=0
 head:x.d.head?≠some 0
 last:x.d.getLast?≠some 0
 lt:∀v∈x.d,v<10
theorem dw_head (d:List Nat):(d.dropWhile isZ).head?≠some 0:=by
 induction d with
 |nil=>simp
 |cons a d ih=>
  rw[List.dropWhile_cons];split
  ·exact ih
  ·rename_i h;intro e;simp at e;subst e;exact h rfl
theorem zn8 {α:Type} {p:α->Bool}:∀{l:List α} {x:α},x∈l.takeWhile p->p x=true
 | [],x,h=>by simp at h
 |a::l,x,h=>by
  rw[List.takeWhile_cons]at h;split at h
  ·rename_i ha;rcases List.mem_cons.1 h with h|h
   ·rw[h];exact ha
   ·exact zn8 h
  ·simp at h
theorem zuc (d:List Nat):∀v∈d.dropWhile isZ,v∈d:=fun _ hv=>(List.dropWhile_sublist isZ).subset hv
theorem zw7 (d:List Nat):∀v∈rz d,v∈d:=fun v hv=>by
 unfold rz at hv;rw[List.mem_reverse]at hv;exact List.mem_reverse.1 (zuc _ _ hv)
theorem zu4 (d:List Nat):(rz d).getLast?≠some 0:=by
 unfold rz;rw[List.getLast?_reverse];exact dw_head _
theorem zw8 (d:List Nat):(rz d).length<=d.length:=by
 unfold rz;rw[List.length_reverse];exact Nat.le_trans (List.dropWhile_sublist isZ).length_le (by simp)
theorem zw9 (d:List Nat):d=rz d++List.replicate (d.length-(rz d).length) 0:=by
 have h:=List.takeWhile_append_dropWhile (p:=isZ) (l:=d.reverse);have h2:d.reverse.takeWhile isZ=List.replicate (d.reverse.takeWhile isZ).length 0:=by
  rw[List.eq_replicate_iff];refine⟨rfl,fun b hb=>?_⟩;have:=zn8 hb;simpa[isZ]using this
 have h3:d=rz d++(d.reverse.takeWhile isZ).reverse:=by
  unfold rz;rw[<-List.reverse_append,h,List.reverse_reverse]
 have h4:(d.reverse.takeWhile isZ).reverse=List.replicate (d.reverse.takeWhile isZ).length 0:=by
  grind
 rw[h4]at h3;have h5:=congrArg List.length h3;rw[List.length_append,List.length_replicate]at h5;rw[show d.length-(rz d).length=(d.reverse.takeWhile isZ).length from by omega];exact h3
theorem zyj (d:List Nat) (h0:d.head?≠some 0) (hn:d≠[]):rz d≠[]/\(rz d).head?=d.head?:=by
 have h:=zw9 d;cases hr:rz d with
 |nil=>
  grind
 |cons a l=>
  grind
theorem zgr (neg:Bool) (d:List Nat) (e:Int) (h:∀v∈d,v<10):Wf (norm neg d e):=by
 unfold norm;split
 ·exact⟨fun _=>⟨rfl,rfl⟩,by simp[zeroD],by simp[zeroD],fun v hv=>by simp[zeroD]at hv⟩
 ·rename_i hn;have h1:=zyj _ (dw_head d) hn;exact⟨fun e=>absurd e h1.1,by rw[show Dn.d ⟨neg,rz (d.dropWhile isZ),_⟩=rz (d.dropWhile isZ)from rfl,h1.2];exact dw_head d,zu4 _,fun v hv=>h v (zuc _ _ (zw7 _ _ hv))⟩
theorem zn9 (x:Dn) (h:Wf x) (hn:x.d≠[]):norm x.neg x.d x.e=x:=by
 obtain⟨neg,d,e⟩:=x;have hd:d.dropWhile isZ=d:=by
  cases d with
  |nil=>rfl
  |cons a d=>
   rw[List.dropWhile_cons,if_neg];intro e;have:=h.head;simp[isZ]at e this;exact this e
 have hr:rz d=d:=by
  unfold rz;have:d.reverse.dropWhile isZ=d.reverse:=by
   have hl:=h.last;rw[show Dn.d ⟨neg,d,e⟩=d from rfl,<-List.head?_reverse]at hl;cases hrv:d.reverse with
   |nil=>rfl
   |cons a l=>
    rw[hrv]at hl;rw[List.dropWhile_cons,if_neg];intro e;simp[isZ]at e hl;exact hl e
  rw[this,List.reverse_reverse]
 show norm neg d e=_;unfold norm;rw[hd,if_neg hn,hr,Nat.sub_self];simp
theorem zoa (neg:Bool) (e:Int):norm neg [0] e=zeroD:=rfl
theorem zud (v:Nat) (h:v<10):dig (ch v)=true:=zn7 v h
theorem zu5 (v:Nat) (h:v<10):dv (ch v)=v:=zu3 v h
theorem zgs (d:List Nat) (h:∀v∈d,v<10):vals (d.map ch)=d:=by
 unfold vals;rw[List.map_map]
 conv=>rhs;rw[<-List.map_id d]
 exact List.map_congr_left (fun v hv=>zu5 v (h v hv))
theorem zkv (d:List Nat) (h:∀v∈d,v<10):(d.map ch).all dig=true:=by
 rw[List.all_eq_true];intro c hc;obtain⟨v,hv,rfl⟩:=List.mem_map.1 hc;exact zud v (h v hv)
theorem zc5 (s:List UInt8) (h:s.all dig=true):∀v∈vals s,v<10:=by
 intro v hv;obtain⟨c,hc,rfl⟩:=List.mem_map.1 hv;have:=(zbh c).1 (List.all_eq_true.1 h c hc);unfold dv;omega
theorem zbo {c:UInt8} (h:dig c=true) (k:Nat) (hk:k<48\/57<k) (h2:k<256):c≠UInt8.ofNat k:=by
 intro e;have:=(zbh c).1 h;rw[e,UInt8.toNat_ofNat']at this;omega
theorem zgt {d:List Nat} (hn:d≠[]) (h:∀v∈d,v<10) (hz:d.head?≠some 0):(d.map ch).head?≠some 48/\(d.map ch).head?≠some 45/\(d.map ch)≠[]:=by
 cases d with
 |nil=>exact absurd rfl hn
 |cons a d=>
  have ha:=h a (.head _);have h0:a≠0:=fun e=>hz (by rw[e];rfl)
  refine⟨?_,?_,by simp⟩
  ·intro e;simp only[List.map_cons,List.head?_cons,Option.some.injEq]at e;have:=congrArg dv e;rw[zu5 a ha]at this;exact h0 this
  ·intro e;simp only[List.map_cons,List.head?_cons,Option.some.injEq]at e;exact zbo (zud a ha) 45 (.inl (by omega)) (by omega) e
theorem zgu {x:Dn} (hn:x.d≠[]):coef x=(if x.neg=true then[45]else[])++x.d.map ch:=by unfold coef;rw[if_neg hn]
theorem zhv {x:Dn} (h:Wf x) (hn:x.d≠[]):intS (coef x)=x.d.map ch:=by
 obtain⟨h1,h2,h3⟩:=zgt hn h.lt h.head;rw[zgu hn];unfold intS;cases x.neg with
 |true=>
  simp_all
 |false=>
  grind
theorem zob {x:Dn} (h:Wf x) (hl:x.d.length<=400):intB (coef x)=true:=by
 by_cases hn:x.d=[]
 ·unfold coef;rw[if_pos hn];decide
 ·obtain⟨h1,h2,h3⟩:=zgt hn h.lt h.head;unfold intB;rw[zhv h hn,if_neg,zkv _ h.lt];rintro(h4|h4|h4)
  ·grind
  ·grind
  ·exact h1 h4.1
theorem zxa (x:Dn) (h:Wf x):∀c∈coef x,c≠101/\(dig c=true\/c=45):=by
 have hk:∀c,dig c=true->c≠101/\(dig c=true\/c=45):=fun c hc=>⟨zbo hc 101 (.inr (by omega)) (by omega),.inl hc⟩
 intro c hc;unfold coef at hc;split at hc
 ·simp at hc;subst hc;exact hk _ (by decide)
 ·rw[List.mem_append]at hc;rcases hc with hc|hc
  ·grind
  ·exact hk _ (List.all_eq_true.1 (zkv _ h.lt) c hc)
theorem zf2 {p:UInt8->Bool} (a:List UInt8) (c:UInt8) (r:List UInt8) (h:∀x∈a,p x=true) (hc:p c=false):(a++c::r).takeWhile p=a/\(a++c::r).dropWhile p=c::r:=by
 simp_all
def readP (s:List UInt8):Option Dn:=
 match s.dropWhile (fun c=>c != 101)with
 | []=>none
 |_::r=>
  if intB (s.takeWhile (fun c=>c != 101))=false\/5<r.length then none
  else match Lib.atoi r with
   |none=>none
   |some e=>
    if lim (norm ((s.takeWhile (fun c=>c != 101)).head? ==some 45) (vals (intS (s.takeWhile (fun c=>c != 101)))) e)=0/\text (norm ((s.takeWhile (fun c=>c != 101)).head? ==some 45) (vals (intS (s.takeWhile (fun c=>c != 101)))) e)=s
    then some (norm ((s.takeWhile (fun c=>c != 101)).head? ==some 45) (vals (intS (s.takeWhile (fun c=>c != 101)))) e)else none
theorem zel {x:Dn} (h:lim x=0):x.d.length<=400/\-2000<=x.e/\x.e<=2000:=by
 unfold lim at h;split at h
 ·cases h
 ·split at h
  ·cases h
  ·omega
theorem zhw {x:Dn} (h:Wf x):norm ((coef x).head? ==some 45) (vals (intS (coef x))) x.e=x:=by
 by_cases hn:x.d=[]
 ·obtain⟨h1,h2⟩:=h.zero hn;obtain⟨neg,d,e⟩:=x;simp only at hn h1 h2;subst hn;subst h1;subst h2;unfold coef;rw[if_pos rfl];exact zoa _ _
 ·obtain⟨h1,h2,h3⟩:=zgt hn h.lt h.head;rw[zhv h hn,zgs _ h.lt];have:((coef x).head? ==some 45)=x.neg:=by
   rw[zgu hn];cases x.neg with
   |true=>rfl
   |false=>rw[if_neg (by simp),List.nil_append];simpa using h2
  rw[this];exact zn9 x h hn
theorem zl1 {x:Dn} (h:Wf x) (hl:lim x=0):readP (text x)=some x:=by
 obtain⟨l1,l2,l3⟩:=zel hl;obtain⟨t1,t2⟩:=zf2 (p:=fun c=>c != 101) (coef x) 101 (Lib.itoa x.e) (fun c hc=>by simpa using(zxa x h c hc).1) (by decide);have hlen:=zc4 x.e 3 (by omega);unfold readP;rw[show(text x).dropWhile (fun c=>c != 101)=101::Lib.itoa x.e from t2];simp only;rw[show(text x).takeWhile (fun c=>c != 101)=coef x from t1,zob h l1,if_neg (by rintro(h1|h1);cases h1;omega),zhu];simp only;rw[zhw h,if_pos ⟨hl,rfl⟩]
theorem zdg {a:List UInt8} (h:intB a=true):(intS a).all dig=true:=by
 unfold intB at h;split at h
 ·cases h
 ·exact h
theorem zl2 {s:List UInt8} {x:Dn} (h:readP s=some x):Wf x/\lim x=0/\text x=s:=by
 unfold readP at h;split at h
 ·cases h
 ·split at h
  ·cases h
  ·rename_i hb;split at h
   ·cases h
   ·split at h
    ·rename_i hc;injection h with h
     subst h;refine⟨zgr _ _ _ (zc5 _ (zdg ?_)),hc⟩;cases hi:intB (s.takeWhile (fun c=>c != 101))with
     |true=>rfl
     |false=>exact absurd (.inl hi) hb
    ·cases h
def satv (sat:Nat) (l:List UInt8):Nat:=l.foldl (fun n c=>min (10*n+dv c) sat) 0
theorem zoc (sat:Nat) (l:List UInt8):satv sat l=min (val l) sat:=by
 refine zku (P:=fun l=>satv sat l=min (val l) sat) (by simp[satv,val]) ?_ l;intro l c ih;unfold satv at ih ⊢;rw[List.foldl_append,ih,zbi];simp only[List.foldl_cons,List.foldl_nil];omega
def expT (s4:List UInt8):List UInt8:=if s4.head?=some 45\/s4.head?=some 43 then s4.tail else s4
def expV (sat:Nat) (s4:List UInt8):Int:=if s4.head?=some 45 then -(satv sat (expT s4):Int)else(satv sat (expT s4):Int)
def expS (sat:Nat) (neg:Bool) (d:List Nat) (e:Int) (s3:List UInt8):Option Dn:=
 if s3=[]then some (norm neg d e)
 else if s3.head?=some 101\/s3.head?=some 69 then
  if expT s3.tail=[]\/(expT s3.tail).all dig=false then none else some (norm neg d (e+expV sat s3.tail))
 else none
def numT (sat:Nat) (neg:Bool) (s1:List UInt8):Option Dn:=
 if s1.takeWhile dig=[]\/((s1.takeWhile dig).head?=some 48/\1<(s1.takeWhile dig).length)then none
 else if(s1.dropWhile dig).head?=some 46 then
  if(s1.dropWhile dig).tail.takeWhile dig=[]then none
  else expS sat neg (vals (s1.takeWhile dig++(s1.dropWhile dig).tail.takeWhile dig)) (-(((s1.dropWhile dig).tail.takeWhile dig).length:Int)) ((s1.dropWhile dig).tail.dropWhile dig)
 else expS sat neg (vals (s1.takeWhile dig)) 0 (s1.dropWhile dig)
def numS (sat:Nat) (s:List UInt8):Option Dn:=if s.head?=some 45 then numT sat true s.tail else numT sat false s
def readR (s:List UInt8):Option Dn:=
 match numS 1000000 s with
 |none=>none
 |some x=>if lim x=0/\text x=s then some x else none
theorem zod {sat:Nat} {neg:Bool} {d:List Nat} {e:Int} {s:List UInt8} {x:Dn} (hd:∀v∈d,v<10) (h:expS sat neg d e s=some x):Wf x:=by
 unfold expS at h;split at h
 ·injection h with h;subst h;exact zgr _ _ _ hd
 ·split at h
  ·split at h
   ·cases h
   ·injection h with h;subst h;exact zgr _ _ _ hd
  ·cases h
theorem zed (s:List UInt8):(s.takeWhile dig).all dig=true:=by
 simp_all
theorem zoe {sat:Nat} {neg:Bool} {s:List UInt8} {x:Dn} (h:numT sat neg s=some x):Wf x:=by
 unfold numT at h;split at h
 ·cases h
 ·split at h
  ·split at h
   ·cases h
   ·refine zod (zc5 _ ?_) h;rw[List.all_append,zed,zed];rfl
  ·exact zod (zc5 _ (zed _)) h
theorem zof {sat:Nat} {s:List UInt8} {x:Dn} (h:numS sat s=some x):Wf x:=by
 unfold numS at h;split at h
 ·exact zoe h
 ·exact zoe h
theorem zl3 {s:List UInt8} {x:Dn} (h:readR s=some x):Wf x/\lim x=0/\text x=s:=by
 unfold readR at h;split at h
 ·cases h
 ·rename_i y hy;split at h
  ·rename_i hc;injection h with h
   subst h;exact⟨zof hy,hc⟩
  ·cases h
theorem zog (e:Int) (sat:Nat) (hs:e.natAbs<=sat) (neg:Bool) (d:List Nat):expS sat neg d 0 (101::Lib.itoa e)=some (norm neg d e):=by
 unfold expS;rw[if_neg (by simp),if_pos (.inl rfl)];simp only[List.tail_cons];unfold Lib.itoa expV expT;by_cases h:e<0
 ·rw[if_pos h];simp only[List.head?_cons,List.tail_cons,true_or,if_true];rw[if_neg,zoc,zal]
  ·congr 2;omega
  ·rintro(h1|h1)
   ·exact zaw _ h1
   ·rw[zak]at h1;cases h1
 ·rw[if_neg h];have hne:=zaw e.toNat;have hall:=zak e.toNat;have hval:=zal e.toNat;have hh:(Lib.decDigits e.toNat).head?≠some 45/\(Lib.decDigits e.toNat).head?≠some 43:=by
   cases hd:Lib.decDigits e.toNat with
   |nil=>exact absurd hd hne
   |cons c l=>
    rw[hd,List.all_cons,Bool.and_eq_true]at hall;exact⟨fun e=>zbo hall.1 45 (.inl (by omega)) (by omega) (by simpa using e),fun e=>zbo hall.1 43 (.inl (by omega)) (by omega) (by simpa using e)⟩
  simp only[hh.1,hh.2,or_self,if_false];rw[if_neg,zoc,hval]
  ·congr 2;omega
  ·grind
theorem zoh {x:Dn} (h:Wf x) (hl:lim x=0) (sat:Nat) (hs:2000<=sat):numS sat (text x)=some x:=by
 obtain⟨l1,l2,l3⟩:=zel hl;have key:∀(neg:Bool) (i:List UInt8),i≠[]->i.all dig=true->(i.head?≠some 48\/i.length=1)->norm neg (vals i) x.e=x->numT sat neg (i++101::Lib.itoa x.e)=some x:=by
  intro neg i hi hd hh hx;obtain⟨t1,t2⟩:=zf2 (p:=dig) i 101 (Lib.itoa x.e) (List.all_eq_true.1 hd) (by decide);unfold numT;rw[t1,t2,if_neg,if_neg (by simp),zog _ _ (by omega),hx];rintro(h1|h1)
  ·exact hi h1
  ·grind
 have hx:=zhw h;by_cases hn:x.d=[]
 ·have hc:coef x=[48]:=by unfold coef;rw[if_pos hn]
  unfold numS text;rw[hc]at hx ⊢;rw[if_neg (by simp)];exact key false [48] (by simp) (by decide) (.inr rfl) hx
 ·obtain⟨h1,h2,h3⟩:=zgt hn h.lt h.head;have hx2:=zn9 x h hn;rw[<-zgs x.d h.lt]at hx2;unfold numS text;rw[zgu hn];cases hneg:x.neg with
  |true=>
   rw[if_pos rfl,List.cons_append,List.nil_append,if_pos (by rfl)];rw[hneg]at hx2;exact key true _ h3 (zkv _ h.lt) (.inl h1) (by rw[zgs _ h.lt]at hx2 ⊢;exact hx2)
  |false=>
   rw[hneg]at hx2;rw[if_neg (c:=false=true) (by simp),List.nil_append,zgq _ _ h3,if_neg h2];exact key false _ h3 (zkv _ h.lt) (.inl h1) (by rw[zgs _ h.lt]at hx2 ⊢;exact hx2)
theorem zl4 {x:Dn} (h:Wf x) (hl:lim x=0):readR (text x)=some x:=by
 unfold readR;rw[zoh h hl _ (by omega)];show(if lim x=0/\text x=text x then some x else none)=some x;rw[if_pos ⟨hl,rfl⟩]
theorem zu6 (s:List UInt8):readP s=readR s:=by
 cases hp:readP s with
 |some x=>
  obtain⟨h1,h2,h3⟩:=zl2 hp;rw[<-h3,zl4 h1 h2]
 |none=>
  cases hr:readR s with
  |none=>rfl
  |some x=>
   obtain⟨h1,h2,h3⟩:=zl3 hr;rw[<-h3,zl1 h1 h2]at hp;cases hp
def fitsB (m:Nat) (e:Int):Bool:=m%2==1 && decide (Lib.bitLen m<=53) && decide (-1074<=e) && decide (e<=1023) && decide (e+Lib.bitLen m<=1024)
def fT (s:List UInt8):List UInt8:=if s.head?=some 45 then s.tail else s
def fA (t:List UInt8):List UInt8:=t.takeWhile (fun c=>c != 112)
def fltN (t:List UInt8):Bool:=
 match t.dropWhile (fun c=>c != 112)with
 | []=>false
 |_::b=>match Lib.parseUintB 64 (fA t)with
  | .ok m=>match Lib.atoiAll b with
   | .ok e=>fitsB m e && decide (Lib.decDigits m++112::Lib.itoa e=t)
   |_=>false
  |_=>false
def fltP (s:List UInt8):Bool:=
 if s=[110,97,110]then true else if fT s=[105,110,102]then true else if fT s=[48,112,48]then true else fltN (fT s)
def numb (s:List UInt8):Option Int:=if intB s=true/\s.length<=18 then some (if s.head?=some 45 then -(val (intS s):Int)else(val (intS s):Int))else none
def mokB (m e:Int):Bool:=!(decide (m<0) || (m==0 && e != 0) || (m != 0 && (m%2==0 || decide (53<Lib.bitLen m.toNat) || decide (e< -1074) || decide (1023<e) || decide (1024<e+Lib.bitLen m.toNat))))
def fltR (s:List UInt8):Bool:=
 if fT s=[105,110,102]then true else if s=[110,97,110]then true
 else match(fT s).dropWhile (fun c=>c != 112)with
  | []=>false
  |_::b=>match numb (fA (fT s))with
   |some m=>match numb b with
    |some e=>mokB m e
    |none=>false
   |none=>false
theorem zoi {m:Nat} (h:m<2 ^ 64):m<2 ^ Lib.bitLen m:=by
 rcases Nat.eq_zero_or_pos m with h0|h0
 ·grind
 ·exact(Lib.bitLenAux_bounds 64 m h (by omega)).2.2
theorem zhx {m:Nat} (h:m<2 ^ 64) (hb:Lib.bitLen m<=53):m<2 ^ 53:=
 Nat.lt_of_lt_of_le (zoi h) (Nat.pow_le_pow_right (by omega) hb)
theorem zhy {s:List UInt8} {n:Int} (h:numb s=some n):s=Lib.itoa n/\n.natAbs<10 ^ 18:=by
 unfold numb at h;split at h
 ·rename_i hc;obtain⟨hb,hl⟩:=hc;have hall:=zdg hb;have hb2:=hb;unfold intB at hb2;split at hb2
  ·cases hb2
  ·rename_i hnn;have hne:intS s≠[]:=fun e=>hnn (.inl (by rw[e];rfl))
   have hlen:(intS s).length<=s.length:=by unfold intS;split<;>simp
   have hv:=zew _ hall;have hv2:val (intS s)<10 ^ 18:=Nat.lt_of_lt_of_le hv (Nat.pow_le_pow_right (by omega) (by omega));injection h with h
   by_cases h45:s.head?=some 45
   ·rw[if_pos h45]at h;have hl1:s.length>1:=by
     rcases Nat.lt_or_ge 1 s.length with h1|h1
     ·exact h1
     ·exfalso;have hs:s=[45]:=by
       cases s with
       |nil=>cases h45
       |cons a l=>cases l with
        |nil=>simp at h45;rw[h45]
        |cons b l=>simp at h1
      rw[hs]at hall;exact absurd hall (by decide)
    have hS:intS s=s.tail:=by unfold intS;rw[if_pos ⟨hl1,h45⟩]
    have h48:(intS s).head?≠some 48:=fun e=>hnn (.inr (.inr ⟨e,hl1⟩))
    have hcd:=zhs _ hne hall (.inl h48);have hpos:0<val (intS s):=by
     rcases Nat.eq_zero_or_pos (val (intS s))with h0|h0
     ·rw[h0,Lib.decDigits_one (by omega)]at hcd;exact absurd (by rw[<-hcd];rfl) h48
     ·exact h0
    refine⟨?_,by omega⟩;unfold Lib.itoa;rw[if_pos (by omega),show n.natAbs=val (intS s)from by omega,hcd,hS];cases s with
    |nil=>cases h45
    |cons a l=>simp at h45;rw[h45];rfl
   ·rw[if_neg h45]at h;have hS:intS s=s:=by unfold intS;rw[if_neg (fun e=>h45 e.2)]
    refine⟨?_,by omega⟩;unfold Lib.itoa;rw[if_neg (by omega),show n.toNat=val (intS s)from by omega,zhs _ hne hall,hS];rcases Nat.lt_or_ge 1 s.length with h1|h1
    ·grind
    ·omega
 ·cases h
theorem zhz (n:Int) (k:Nat) (hk:k<=16) (h:n.natAbs<10 ^ (k+1)):intS (Lib.itoa n)=Lib.decDigits n.natAbs/\intB (Lib.itoa n)=true/\(Lib.itoa n).length<=18/\(n<0↔(Lib.itoa n).head?=some 45):=by
 have hlen:=zc4 n k h;have hne:=zaw n.natAbs;have hall:=zak n.natAbs;have hp:=List.length_pos_iff.2 hne;have hd45:(Lib.decDigits n.natAbs).head?≠some 45:=by
  cases hd:Lib.decDigits n.natAbs with
  |nil=>simp
  |cons c l=>
   rw[hd,List.all_cons,Bool.and_eq_true]at hall;exact fun e=>zbo hall.1 45 (.inl (by omega)) (by omega) (by simpa using e)
 by_cases hn:n<0
 ·have hi:Lib.itoa n=45::Lib.decDigits n.natAbs:=by unfold Lib.itoa;rw[if_pos hn]
  have hS:intS (Lib.itoa n)=Lib.decDigits n.natAbs:=by
   rw[hi];unfold intS;rw[if_pos ⟨by simp;omega,rfl⟩];rfl
  refine⟨hS,?_,by omega,⟨fun _=>by rw[hi];rfl,fun _=>hn⟩⟩;unfold intB;rw[hS,if_neg,hall];rintro(h1|h1|h1)
  ·omega
  ·grind
  ·exact zc2 _ (by omega) h1.1
 ·have hi:Lib.itoa n=Lib.decDigits n.natAbs:=by unfold Lib.itoa;rw[if_neg hn,show n.toNat=n.natAbs from by omega]
  have hS:intS (Lib.itoa n)=Lib.decDigits n.natAbs:=by rw[hi];unfold intS;rw[if_neg (fun e=>hd45 e.2)]
  refine⟨hS,?_,by omega,⟨fun h=>absurd h hn,fun h=>by rw[hi]at h;exact absurd h hd45⟩⟩;unfold intB;rw[hS,if_neg,hall];rintro(h1|h1|h1)
  ·omega
  ·rw[hi]at hlen;omega
  ·by_cases h0:n.natAbs=0
   ·rw[hi,h0,Lib.decDigits_one (by omega)]at h1;simp at h1
   ·exact zc2 _ h0 h1.1
theorem zoj (n:Int) (h:n.natAbs<10 ^ 17):numb (Lib.itoa n)=some n:=by
 obtain⟨h1,h2,h3,h4⟩:=zhz n 16 (by omega) h;unfold numb;rw[if_pos ⟨h2,h3⟩,h1,zal];by_cases hn:n<0
 ·grind
 ·grind
theorem zl5 (M:Nat) (hM:M=18446744073709551615) (l:List UInt8) (acc:Nat) (h:l.all dig=true) (hb:acc*10 ^ l.length+val l<18446744073709551616):Lib.parseUintM M acc l=.ok (acc*10 ^ l.length+val l):=by
 induction l generalizing acc with
 |nil=>simp[Lib.parseUintM,val]
 |cons c l ih=>
  rw[List.all_cons,Bool.and_eq_true,zbh]at h;rw[zek,List.length_cons,Nat.pow_succ]at hb ⊢;have e1:acc*(10 ^ l.length*10)+(dv c*10 ^ l.length+val l)=(acc*10+dv c)*10 ^ l.length+val l:=by
   grind
  rw[e1]at hb ⊢;have hp:1<=10 ^ l.length:=Nat.one_le_pow _ _ (by decide);have h2:acc*10+dv c<=(acc*10+dv c)*10 ^ l.length:=Nat.le_mul_of_pos_right _ hp;unfold Lib.parseUintM;rw[if_pos h.1,if_neg (by omega),show c.toNat-48=dv c from rfl,if_neg (by omega),ih _ h.2 hb]
theorem zok (m:Nat) (h:m<2 ^ 64):Lib.parseUintB 64 (Lib.decDigits m)=.ok m:=by
 unfold Lib.parseUintB;rw[if_neg (zaw m),zl5 _ (by decide) _ _ (zak m) (by rw[zal];omega),zal];simp
theorem zh0 (n:Int) (h:n.natAbs<10 ^ 17):Lib.atoiAll (Lib.itoa n)=.ok n:=by
 rw[Lib.atoiAll_short _ (zhz n 16 (by omega) h).2.2.1,zhu];rfl
theorem zkw (m:Nat):∀c∈Lib.decDigits m,(c != 112)=true:=by
 intro c hc;have:=List.all_eq_true.1 (zak m) c hc;simpa using zbo this 112 (.inr (by omega)) (by omega)
theorem zgv (m:Nat):Lib.itoa (m:Int)=Lib.decDigits m:=by unfold Lib.itoa;rw[if_neg (by omega)];rfl
theorem zol (l:List UInt8) (acc u:Nat) (ha:acc<2 ^ 64) (h:Lib.parseUintM (2 ^ 64-1) acc l=.ok u):u<2 ^ 64:=by
 induction l generalizing acc with
 |nil=>simp only[Lib.parseUintM]at h;injection h with h;omega
 |cons c l ih=>
  unfold Lib.parseUintM at h;split at h
  ·grind
  ·cases h
theorem zsa {l:List UInt8} {u:Nat} (h:Lib.parseUintB 64 l=.ok u):u<2 ^ 64:=by
 unfold Lib.parseUintB at h;split at h
 ·cases h
 ·exact zol _ _ _ (by omega) h
theorem zkx (t:List UInt8):fltN t=true↔∃(m:Nat) (e:Int),t=Lib.decDigits m++112::Lib.itoa e/\m<2 ^ 64/\fitsB m e=true:=by
 constructor
 ·intro h;unfold fltN at h;split at h
  ·cases h
  ·split at h
   ·rename_i m hm;split at h
    ·rename_i e he;rw[Bool.and_eq_true]at h;exact⟨m,e,(of_decide_eq_true h.2).symm,zsa hm,h.1⟩
    ·cases h
   ·cases h
 ·rintro⟨m,e,rfl,hm,hf⟩;obtain⟨t1,t2⟩:=zf2 (p:=fun c=>c != 112) (Lib.decDigits m) 112 (Lib.itoa e) (zkw m) (by decide);have he:e.natAbs<10 ^ 17:=by
   unfold fitsB at hf;simp only[Bool.and_eq_true,decide_eq_true_iff]at hf;omega
  unfold fltN fA;rw[t1,t2];simp only;rw[zok m hm];simp only;rw[zh0 e he];simp only;rw[hf,Bool.true_and];simp
theorem zu7 {m e:Int} (h:mokB m e=true) (h0:m≠0):0<m/\fitsB m.toNat e=true:=by
 unfold mokB at h;unfold fitsB;simp only[Bool.not_eq_true',Bool.or_eq_false_iff,Bool.and_eq_false_iff,decide_eq_false_iff_not,Bool.and_eq_true,decide_eq_true_iff,bne_eq_false_iff_eq,beq_eq_false_iff_ne,beq_iff_eq]at h ⊢;obtain⟨⟨h1,h2⟩,h3⟩:=h;rcases h3 with h3|h3
 ·exact absurd h3 h0
 ·omega
theorem zxb {m:Nat} {e:Int} (hf:fitsB m e=true):mokB (m:Int) e=true:=by
 unfold fitsB at hf;unfold mokB;simp only[Bool.not_eq_true',Bool.or_eq_false_iff,Bool.and_eq_false_iff,decide_eq_false_iff_not,Bool.and_eq_true,decide_eq_true_iff,bne_eq_false_iff_eq,beq_eq_false_iff_ne,beq_iff_eq,Int.toNat_natCast]at hf ⊢;obtain⟨⟨⟨⟨a,b⟩,c⟩,d⟩,f⟩:=hf;refine⟨⟨by omega,.inl (by omega)⟩,.inr ⟨⟨⟨⟨by omega,by omega⟩,by omega⟩,by omega⟩,by omega⟩⟩
theorem zxc (s:List UInt8):fltP s=fltR s:=by
 unfold fltP fltR;by_cases h1:s=[110,97,110]
 ·subst h1;rfl
 ·rw[if_neg h1,if_neg h1];by_cases h2:fT s=[105,110,102]
  ·rw[if_pos h2,if_pos h2]
  ·rw[if_neg h2,if_neg h2];generalize fT s=t;rw[Bool.eq_iff_iff];have h64:(10:Nat) ^ 17<2 ^ 64:=by decide
   have h53:(2:Nat) ^ 53<10 ^ 17:=by decide
   constructor
   ·intro h;split at h
    ·rename_i ht;subst ht;rfl
    ·obtain⟨m,e,rfl,hm,hf⟩:=(zkx t).1 h;obtain⟨t1,t2⟩:=zf2 (p:=fun c=>c != 112) (Lib.decDigits m) 112 (Lib.itoa e) (zkw m) (by decide);have hff:=hf;unfold fitsB at hff;simp only[Bool.and_eq_true,decide_eq_true_iff]at hff;obtain⟨⟨⟨⟨a,b⟩,c⟩,d⟩,f⟩:=hff;have:=zhx hm b;unfold fA;rw[t1,t2];simp only;rw[<-zgv,zoj (m:Int) (by omega)];simp only;rw[zoj e (by omega)];exact zxb hf
   ·intro h;split at h
    ·cases h
    ·rename_i c b hd;split at h
     ·rename_i m hm;split at h
      ·rename_i e he;obtain⟨ha,hma⟩:=zhy hm;obtain⟨hb,heb⟩:=zhy he;have hc:c=112:=by
        have:=List.head?_dropWhile_not (fun c:UInt8=>c != 112) t;rw[hd]at this;simpa using this
       have ht:t=Lib.itoa m++112::Lib.itoa e:=by
        rw[<-ha,<-hb,<-hc,<-hd];exact(List.takeWhile_append_dropWhile).symm
       by_cases h0:m=0
       ·subst h0;have he0:e=0:=by
         unfold mokB at h;simp at h;exact h
        subst he0;have h00:Lib.itoa 0=[48]:=by unfold Lib.itoa;rw[if_neg (by omega)];exact Lib.decDigits_one (i:=0) (by omega)
        rw[if_pos (by rw[ht,h00];rfl)]
       ·obtain⟨p1,p2⟩:=zu7 h h0;split
        ·rfl
        ·rw[zkx];refine⟨m.toNat,e,?_,by omega,p2⟩;rw[ht,<-zgv,show((m.toNat:Nat):Int)=m from by omega]
      ·cases h
     ·cases h
end Gr
namespace Flt
open Ieee
theorem b52:Ieee.double.binade=4503599627370496:=by decide
theorem sgnW:Ieee.double.signWeight=9223372036854775808:=by decide
theorem infR:Ieee.double.infRung=9218868437227405312:=by decide
theorem leastP:Ieee.double.leastPlace=-1074:=by decide
theorem fracB:Ieee.double.fractionBits=52:=rfl
theorem cut0 (neg:Bool) (n:Nat):Toward.even.cut neg n 0=n:=by
 have h:(1:Nat) <<<min 0 (n.log2+2)=1:=by rw[Nat.zero_min];rfl
 unfold Toward.cut;rw[h];simp[Nat.mod_one]
theorem zpp (neg:Bool) (K d:Nat) (hK:0<K):Toward.even.cut neg (K*2 ^ d) d=K:=by
 have hp:0<2 ^ d:=Nat.two_pow_pos d;have hl:d<=(K*2 ^ d).log2:=(Nat.le_log2 (by have:=Nat.mul_pos hK hp;omega)).2 (Nat.le_mul_of_pos_left _ hK);have h:(1:Nat) <<<min d ((K*2 ^ d).log2+2)=2 ^ d:=by rw[Nat.min_eq_left (by omega),Nat.shiftLeft_eq,Nat.one_mul]
 unfold Toward.cut;rw[h];simp[Nat.mul_div_cancel _ hp,Nat.mul_mod_left]
theorem zvo (M:Nat) (p last:Int) (hM:M≠0) (hlast:max (p+(M.log2:Int)-52) (-1074)=last) (h:last<=p):Ieee.double.nearest false M p=min ((last+1074).toNat*4503599627370496+M*2 ^ (p-last).toNat) 9218868437227405312:=by
 unfold Format.nearest;rw[if_neg hM,leastP,b52,infR,fracB];simp only[Format.word,Bool.false_eq_true,if_false];rw[show((52:Nat):Int)=52 from rfl,hlast,show(last-p).toNat=0 from by omega,cut0,Nat.shiftLeft_eq,show last- -1074=last+1074 from by omega]
theorem zim (M K:Nat) (p last:Int) (hM:M≠0) (hlast:max (p+(M.log2:Int)-52) (-1074)=last) (h:p<=last) (hK:M=K*2 ^ (last-p).toNat):Ieee.double.nearest false M p=min ((last+1074).toNat*4503599627370496+K) 9218868437227405312:=by
 unfold Format.nearest;rw[if_neg hM,leastP,b52,infR,fracB];simp only[Format.word,Bool.false_eq_true,if_false];rw[show((52:Nat):Int)=52 from rfl,hlast,show(p-last).toNat=0 from by omega,show last- -1074=last+1074 from by omega,Nat.shiftLeft_eq,Nat.pow_zero,Nat.mul_one,hK,zpp];rcases Nat.eq_zero_or_pos K with h0|h0
 ·grind
 ·exact h0
theorem zjx (m L:Nat) (h1:2 ^ L<=m) (h2:m<2 ^ (L+1)):m.log2=L:=by
 have h0:m≠0:=by have:=Nat.two_pow_pos L;omega
 have a:=(Nat.le_log2 h0).2 h1;have b:=(Nat.log2_lt h0).2 h2;omega
def lastP (L:Nat) (e:Int):Int:=max (e+L-52) (-1074)
def sig (m L:Nat) (e:Int):Nat:=m*2 ^ (e-lastP L e).toNat
def fw (m L:Nat) (e:Int):Nat:=(lastP L e+1074).toNat*4503599627370496+sig m L e
structure Fits (m L:Nat) (e:Int):Prop where
 odd:m%2=1
 lo:2 ^ L<=m
 hi:m<2 ^ (L+1)
 len:L+1<=53
 e0:-1074<=e
 e1:e+L+1<=1024
section
variable {m L:Nat} {e:Int}
theorem Fits.last_le (h:Fits m L e):lastP L e<=e:=by have:=h.len;have:=h.e0;unfold lastP;omega
theorem zfe (a:Nat) (h:a<=53):2 ^ a<=9007199254740992:=Nat.pow_le_pow_right (n:=2) (by omega) h
theorem Fits.sig_bd (h:Fits m L e):0<sig m L e/\sig m L e<9007199254740992/\(4503599627370496<=sig m L e\/lastP L e=-1074)/\lastP L e<=971/\-1074<=lastP L e:=by
 have h1:=h.len;have h2:=h.e0;have h3:=h.e1;have h4:=h.lo;have h5:=h.hi;have h0:=h.last_le;have hd:L+(e-lastP L e).toNat<=52:=by unfold lastP;omega
 have hm:0<m:=by have:=Nat.two_pow_pos L;omega
 refine⟨Nat.mul_pos hm (Nat.two_pow_pos _),?_,?_,by unfold lastP;omega,by unfold lastP;omega⟩
 ·have:sig m L e<2 ^ (L+1)*2 ^ (e-lastP L e).toNat:=Nat.mul_lt_mul_of_pos_right h5 (Nat.two_pow_pos _);rw[<-Nat.pow_add]at this;exact Nat.lt_of_lt_of_le this (zfe _ (by omega))
 ·by_cases hc:e+L-52< -1074
  ·right;unfold lastP;omega
  ·left;have he:L+(e-lastP L e).toNat=52:=by unfold lastP;omega
   have:2 ^ L*2 ^ (e-lastP L e).toNat<=sig m L e:=Nat.mul_le_mul_right _ h4;rw[<-Nat.pow_add,he]at this;exact this
theorem Fits.fw_lt (h:Fits m L e):0<fw m L e/\fw m L e<9218868437227405312:=by
 obtain⟨a,b,c,d,f⟩:=h.sig_bd;unfold fw;omega
theorem Fits.read (h:Fits m L e):Ieee.double.read (fw m L e)=.number false (sig m L e) (lastP L e):=by
 obtain⟨a,b,c,d,f⟩:=h.sig_bd;obtain⟨g0,g1⟩:=h.fw_lt;obtain⟨k,hk⟩:∃k:Nat,lastP L e=-1074+k:=⟨(lastP L e+1074).toNat,by omega⟩
 have hf:fw m L e=k*4503599627370496+sig m L e:=by unfold fw;rw[hk,show(-1074+(k:Int)+1074).toNat=k from by omega]
 unfold Format.read;rw[sgnW,b52,infR,leastP];have e1:fw m L e /9223372036854775808=0:=Nat.div_eq_of_lt (by omega);have e2:fw m L e%9223372036854775808=fw m L e:=Nat.mod_eq_of_lt (by omega);rw[e1,e2];simp only[Nat.zero_mod];rw[hk,hf];rw[hf]at g0 g1;by_cases hn:k*4503599627370496+sig m L e<4503599627370496
 ·grind
 ·grind
theorem Fits.ofNat (h:Fits m L e):floatOfInt .f64 (m:Int)=(L+1022)*4503599627370496+m*2 ^ (52-L):=by
 have h1:=h.len;have h4:=h.lo;have h5:=h.hi;have hm:m≠0:=by have:=Nat.two_pow_pos L;omega
 have hl:=zjx m L h4 h5;unfold floatOfInt FloatKind.nearest FloatKind.encode FloatKind.format;simp only[Format.write];rw[show decide ((m:Int)<0)=false from by simp,Int.natAbs_natCast,zvo m 0 ((L:Int)-52) hm (by rw[hl];omega) (by omega)];have e1:((L:Int)-52+1074).toNat=L+1022:=by omega
 have e2:(0-((L:Int)-52)).toNat=52-L:=by omega
 rw[e1,e2];have:m*2 ^ (52-L)<9007199254740992:=by
  have:m*2 ^ (52-L)<2 ^ (L+1)*2 ^ (52-L):=Nat.mul_lt_mul_of_pos_right h5 (Nat.two_pow_pos _);rw[<-Nat.pow_add,show L+1+(52-L)=53 from by omega]at this;exact this
 omega
theorem Fits.full (h:Fits m L e):4503599627370496<=m*2 ^ (52-L)/\m*2 ^ (52-L)<9007199254740992:=by
 have h1:=h.len;have h4:=h.lo;have h5:=h.hi;constructor
 ·have:2 ^ L*2 ^ (52-L)<=m*2 ^ (52-L):=Nat.mul_le_mul_right _ h4;rw[<-Nat.pow_add,show L+(52-L)=52 from by omega]at this;exact this
 ·have:m*2 ^ (52-L)<2 ^ (L+1)*2 ^ (52-L):=Nat.mul_lt_mul_of_pos_right h5 (Nat.two_pow_pos _);rw[<-Nat.pow_add,show L+1+(52-L)=53 from by omega]at this;exact this
theorem zdm (k s:Nat) (hk:1<=k) (hk2:k<=2046) (hs:4503599627370496<=s) (hs2:s<9007199254740992):Ieee.double.read (k*4503599627370496+(s-4503599627370496))=.number false s ((k:Int)-1075):=by
 unfold Format.read;rw[sgnW,b52,infR,leastP];have e1:(k*4503599627370496+(s-4503599627370496)) /9223372036854775808=0:=Nat.div_eq_of_lt (by omega);have e2:(k*4503599627370496+(s-4503599627370496))%9223372036854775808=k*4503599627370496+(s-4503599627370496):=Nat.mod_eq_of_lt (by omega);have e3:(k*4503599627370496+(s-4503599627370496))%4503599627370496=s-4503599627370496:=by omega
 have e4:(k*4503599627370496+(s-4503599627370496)) /4503599627370496=k:=by omega
 simp only[e1,e2,e3,e4,Nat.zero_mod];rw[if_neg (by omega),if_pos (by omega),show 4503599627370496+(s-4503599627370496)=s from by omega,show -1074+((k-1:Nat):Int)=(k:Int)-1075 from by omega];rfl
theorem Fits.mul_one (h:Fits m L e) (hn:-1022<=e+L):Ieee.double.mul 4607182418800017408 ((e+L+1023).toNat*4503599627370496+(m*2 ^ (52-L)-4503599627370496))=some (fw m L e):=by
 obtain⟨f1,f2⟩:=h.full;have h1:=h.len;have h2:=h.e0;have h3:=h.e1;obtain⟨g0,g1⟩:=h.fw_lt;have r1:=zdm 1023 4503599627370496 (by omega) (by omega) (by omega) (by omega);rw[show 1023*4503599627370496+(4503599627370496-4503599627370496)=4607182418800017408 from rfl]at r1;have r2:=zdm (e+L+1023).toNat (m*2 ^ (52-L)) (by omega) (by omega) f1 f2;unfold Format.mul;rw[r1,r2];simp only[Datum.product,Option.map_some,Format.write,Bool.false_xor];generalize hS:m*2 ^ (52-L)=S at *;have hl:(4503599627370496*S).log2=104:=zjx _ _ (by omega) (by omega);have hlp:lastP L e=e+L-52:=by unfold lastP;omega
 have hsg:sig m L e=S:=by unfold sig;rw[hlp,show(e-(e+↑L-52)).toNat=52-L from by omega,hS]
 rw[zim (4503599627370496*S) S _ (e+L-52) (by omega) (by rw[hl];omega) (by omega) (by rw[show(e+(L:Int)-52-(((1023:Nat):Int)-1075+(((e+L+1023).toNat:Int)-1075))).toNat=52 from by omega,Nat.mul_comm])];unfold fw at g1 ⊢;rw[hlp,hsg]at g1 ⊢;refine congrArg some ?_;exact Nat.min_eq_left (by omega)
theorem Fits.mul_small (h:Fits m L e) (hn:e+L< -1022):Ieee.double.mul 4368491638549381120 ((e+L+1076).toNat*4503599627370496+(m*2 ^ (52-L)-4503599627370496))=some (fw m L e):=by
 obtain⟨f1,f2⟩:=h.full;have h1:=h.len;have h2:=h.e0;have h3:=h.e1;obtain⟨g0,g1⟩:=h.fw_lt;have r1:=zdm 970 4503599627370496 (by omega) (by omega) (by omega) (by omega);rw[show 970*4503599627370496+(4503599627370496-4503599627370496)=4368491638549381120 from rfl]at r1;have r2:=zdm (e+L+1076).toNat (m*2 ^ (52-L)) (by omega) (by omega) f1 f2;unfold Format.mul;rw[r1,r2];simp only[Datum.product,Option.map_some,Format.write,Bool.false_xor];have hlp:lastP L e=-1074:=by unfold lastP;omega
 obtain⟨q,hq⟩:∃q:Nat,e=-1074+q:=⟨(e+1074).toNat,by omega⟩
 have hsg:sig m L e=m*2 ^ q:=by unfold sig;rw[hlp,show(e- -1074).toNat=q from by omega]
 have hM:4503599627370496*(m*2 ^ (52-L))=m*2 ^ q*2 ^ (104-L-q):=by
  rw[show(4503599627370496:Nat)=2 ^ 52 from by decide,<-Nat.mul_assoc,Nat.mul_comm (2 ^ 52) m,Nat.mul_assoc,<-Nat.pow_add,Nat.mul_assoc,<-Nat.pow_add,show 52+(52-L)=q+(104-L-q)from by omega]
 have hl:(4503599627370496*(m*2 ^ (52-L))).log2=104:=zjx _ _ (by omega) (by omega);rw[zim _ (m*2 ^ q) (((970:Nat):Int)-1075+(((e+L+1076).toNat:Int)-1075)) (-1074) (by omega) (by rw[hl];omega) (by omega) (by rw[hM,show((-1074:Int)-(((970:Nat):Int)-1075+(((e+L+1076).toNat:Int)-1075))).toNat=104-L-q from by omega])];unfold fw at g1 ⊢;rw[hlp,hsg]at g1 ⊢;refine congrArg some ?_;exact Nat.min_eq_left (by omega)
theorem Fits.order_self (h:Fits m L e):Ieee.double.order (fw m L e) (fw m L e)=some .eq:=by
 unfold Format.order;rw[h.read];simp[Datum.order]
theorem Fits.order_zero (h:Fits m L e):Ieee.double.order (fw m L e) 0=some .gt:=by
 obtain⟨a,b,c,d,f⟩:=h.sig_bd;unfold Format.order;have r0:Ieee.double.read 0=.number false 0 (-1074):=by decide
 rw[h.read,r0];simp only[Datum.order,signed,Bool.false_eq_true,if_false,Nat.zero_shiftLeft];rw[show min (lastP L e) (-1074)=-1074 from by omega,Nat.shiftLeft_eq];have:0<sig m L e*2 ^ (lastP L e- -1074).toNat:=Nat.mul_pos a (Nat.two_pow_pos _);generalize sig m L e*2 ^ (lastP L e- -1074).toNat=N at this;simp only[compare,compareOfLessAndEq];rw[if_neg (by omega),if_neg (by omega)]
theorem Fits.order_max (h:Fits m L e):Ieee.double.order (fw m L e) 9218868437227405311=some .lt\/Ieee.double.order (fw m L e) 9218868437227405311=some .eq:=by
 obtain⟨a,b,c,d,f⟩:=h.sig_bd;unfold Format.order;have r0:Ieee.double.read 9218868437227405311=.number false 9007199254740991 971:=by decide
 rw[h.read,r0];simp only[Datum.order,signed,Bool.false_eq_true,if_false];rw[show min (lastP L e) 971=lastP L e from by omega,show(lastP L e-lastP L e).toNat=0 from by omega,Nat.shiftLeft_zero,Nat.shiftLeft_eq];have:sig m L e<=9007199254740991*2 ^ (971-lastP L e).toNat:=Nat.le_trans (by omega) (Nat.le_mul_of_pos_right 9007199254740991 (Nat.two_pow_pos _));generalize 9007199254740991*2 ^ (971-lastP L e).toNat=N at this;simp only[compare,compareOfLessAndEq];by_cases h:(sig m L e:Int)<(N:Int)
 ·rw[if_pos h];exact .inl rfl
 ·grind
theorem Fits.fields (h:Fits m L e):∃z:Nat,z<=52/\sig m L e=m*2 ^ z/\e=lastP L e+z/\
 ((fw m L e /4503599627370496=0/\fw m L e%4503599627370496=m*2 ^ z/\e=-1074+z)\/(∃k:Nat,fw m L e /4503599627370496=k+1/\k+1<=2046/\fw m L e%4503599627370496+4503599627370496=m*2 ^ z/\e=(k:Int)-1074+z)):=by
 obtain⟨a,b,c,d,f⟩:=h.sig_bd;have h1:=h.len;have h2:=h.e0;have h3:=h.e1;have h0:=h.last_le;refine⟨(e-lastP L e).toNat,by unfold lastP;omega,rfl,by omega,?_⟩;obtain⟨k,hk⟩:∃k:Nat,lastP L e=-1074+k:=⟨(lastP L e+1074).toNat,by omega⟩
 have hf:fw m L e=k*4503599627370496+sig m L e:=by unfold fw;rw[hk,show(-1074+(k:Int)+1074).toNat=k from by omega]
 have hs:m*2 ^ (e-lastP L e).toNat=sig m L e:=rfl;rw[hs,hf];by_cases hn:sig m L e<4503599627370496
 ·omega
 ·grind
theorem zxu (m z:Nat) (hm:m%2=1) (hz:m*2 ^ z<18446744073709551616):Lib.ctz 64 (m*2 ^ z)=z:=by
 have hp:0<m*2 ^ z:=Nat.mul_pos (by omega) (Nat.two_pow_pos _);obtain⟨q,hq,_⟩:=Lib.ctzFrom_spec 64 (m*2 ^ z) hp hz;unfold Lib.ctz;rw[if_neg (by omega)];generalize Lib.ctzFrom 64 (m*2 ^ z)=c at hq;rcases Nat.lt_trichotomy c z with h|h|h
 ·obtain⟨d,rfl⟩:∃d,z=c+(d+1):=⟨z-c-1,by omega⟩
  rw[Nat.pow_add,Nat.mul_left_comm]at hq;have:=Nat.eq_of_mul_eq_mul_left (Nat.two_pow_pos c) hq;rw[Nat.pow_succ,<-Nat.mul_assoc]at this;omega
 ·exact h
 ·obtain⟨d,rfl⟩:∃d,c=z+(d+1):=⟨c-z-1,by omega⟩
  rw[Nat.pow_add,Nat.mul_assoc,Nat.mul_comm m]at hq;have:=Nat.eq_of_mul_eq_mul_left (Nat.two_pow_pos z) hq;rw[Nat.pow_succ,Nat.mul_assoc,Nat.mul_left_comm]at this;omega
end
end Flt
theorem zbs (a b:Nat) (ha:a<18446744073709551616) (hb:b<18446744073709551616):
 bits .andNot .u64 (a:Int) (b:Int)=((a &&& (18446744073709551615-b):Nat):Int):=by
 have hx:a &&& (18446744073709551615-b)<2 ^ 64:=Nat.and_lt_two_pow _ (by omega);have h1:(BitVec.ofInt 64 (a:Int)).toNat=a:=by
  grind
 have h2:(BitVec.ofInt 64 (b:Int)).toNat=b:=by
  grind
 show IntKind.u64.wrap ((BitVec.ofInt 64 (a:Int) &&& ~~~ BitVec.ofInt 64 (b:Int)).toNat:Int)=_;rw[BitVec.toNat_and,BitVec.toNat_not,h1,h2,IntKind.wrap_u64];rw[show 2 ^ 64-1-b=18446744073709551615-b from by omega];omega
theorem zep (a n:Nat):a &&& (2 ^ n-1)=a%2 ^ n:=Nat.and_two_pow_sub_one_eq_mod a n
theorem zvp (a n:Nat) (h:a<2 ^ n):a &&& 2 ^ n=0:=by
 apply Nat.eq_of_testBit_eq;intro i;rw[Nat.testBit_and,Nat.testBit_two_pow,Nat.zero_testBit];by_cases hi:n=i
 ·subst hi;rw[Nat.testBit_lt_two_pow h];rfl
 ·simp[hi]
theorem zxv (f k n:Nat) (h:f<2 ^ n):f ||| (k*2 ^ n)=f+k*2 ^ n:=by
 rw[Nat.or_comm,Nat.mul_comm,<-Nat.two_pow_add_eq_or_of_lt h,Nat.add_comm]
theorem zjy (a:Nat) (h:a<9223372036854775808):bits .andNot .u64 (a:Int) 9223372036854775808=(a:Int):=by
 have:=zbs a 9223372036854775808 (by omega) (by omega);rw[show(18446744073709551615-9223372036854775808:Nat)=2 ^ 63-1 from by decide,zep,Nat.mod_eq_of_lt (by omega)]at this;exact this
theorem zss (a:Nat) (h:a<18446744073709551616):bits .and .u64 (a:Int) 4503599627370495=((a%4503599627370496:Nat):Int):=by
 have:=bits_and_u64_nat a 4503599627370495 h (by omega);rw[show(4503599627370495:Nat)=2 ^ 52-1 from by decide,zep]at this;exact this
theorem zms (a:Nat) (h:a<9223372036854775808):bits .andNot .u64 (a:Int) 9218868437227405312=((a%4503599627370496:Nat):Int):=by
 have:=zbs a 9218868437227405312 (by omega) (by omega);rw[show(18446744073709551615-9218868437227405312:Nat)=(2 ^ 52-1) ||| 2 ^ 63 from by decide,Nat.and_or_distrib_left,zep,zvp a 63 (by omega),Nat.or_zero]at this;exact this
theorem zpq (f k:Nat) (h:f<4503599627370496) (hk:k<4096):bits .or .u64 (f:Int) ((k*4503599627370496:Nat):Int)=((k*4503599627370496+f:Nat):Int):=by
 have:=bits_or_u64_nat f (k*4503599627370496) (by omega) (by omega);rw[show f |||k*4503599627370496=f+k*4503599627370496 from zxv f k 52 h,Nat.add_comm]at this;exact this
theorem or_one (f:Nat) (h:f<4503599627370496):bits .or .u64 (f:Int) 4503599627370496=((f+4503599627370496:Nat):Int):=by
 have:=zpq f 1 h (by omega);rw[Nat.one_mul,Nat.add_comm]at this;exact this
theorem zvq (k:Nat) (h:k<2048):bits .and .i64 (k:Int) 2047=(k:Int):=by
 have h1:(BitVec.ofInt 64 (k:Int)).toNat=k:=by
  grind
 have h2:(BitVec.ofInt 64 (2047:Int)).toNat=2047:=by decide
 show IntKind.i64.wrap ((BitVec.ofInt 64 (k:Int) &&& BitVec.ofInt 64 2047).toNat:Int)=_;rw[BitVec.toNat_and,h1,h2,show(2047:Nat)=2 ^ 11-1 from by decide,zep,Nat.mod_eq_of_lt (by omega)];simp[IntKind.wrap,IntKind.signed,IntKind.bits];omega
namespace Cal
def leapB (y:Int):Bool:=(y.tmod 4==0) && (!(y.tmod 100==0) || (y.tmod 400==0))
def lp (y:Int):Int:=if leapB y=true then 1 else 0
def dim (y m:Int):Int:=if m=2 then 28+lp y else if m=4\/m=6\/m=9\/m=11 then 30 else 31
def tbl (m:Int):Int:=if m<=3 then 59 else if m<=4 then 90 else if m<=5 then 120 else if m<=6 then 151 else if m<=7 then 181 else if m<=8 then 212 else if m<=9 then 243 else if m<=10 then 273 else if m<=11 then 304 else if m<=12 then 334 else 365
def cum (y m:Int):Int:=if m<=1 then 0 else if m<=2 then 31 else tbl m+lp y
def fst (y:Int):Int:=365*y+(y+3) /4-(y+99) /100+(y+399) /400
def num (y m d:Int):Int:=fst y+cum y m+d-1-719528
def vld (y m d:Int):Bool:=decide (0<=y) && decide (y<=9999) && decide (1<=m) && decide (m<=12) && decide (1<=d) && decide (d<=dim y m)
theorem zxh (y:Int):0<=lp y/\lp y<=1:=by unfold lp;split<;>omega
theorem zo8 (y:Int) (h:0<=y):leapB y=true↔(y%4=0/\(y%100≠0\/y%400=0)):=by
 unfold leapB;rw[Int.tmod_eq_emod_of_nonneg h,Int.tmod_eq_emod_of_nonneg h,Int.tmod_eq_emod_of_nonneg h];simp
theorem zk3 (y:Int) (h:0<=y):fst (y+1)=fst y+365+lp y:=by
 unfold lp;have hl:=zo8 y h;unfold fst;by_cases c:leapB y=true
 ·grind
 ·grind
theorem zk4 (a b:Int) (_h0:0<=a) (h:a<=b):fst a+365*(b-a)<=fst b:=by unfold fst;omega
theorem zxi (a:Int) (h0:0<=a) (h:a<=10000):0<=fst a/\fst a<=3652425:=by unfold fst;omega
theorem zxj (n:Int) (h0:0<=n):fst (n /366)<=n:=by unfold fst;omega
theorem zo9:fst 10000=3652425:=by decide
theorem zxk (y m:Int):28<=dim y m/\dim y m<=31:=by
 have:=zxh y;unfold dim;split
 ·omega
 ·split<;>omega
theorem zyl (y:Int):cum y 1=0:=rfl
theorem zg7 (y m:Int) (h1:1<=m) (h2:m<=12):cum y (m+1)=cum y m+dim y m:=by
 have hc:m=1\/m=2\/m=3\/m=4\/m=5\/m=6\/m=7\/m=8\/m=9\/m=10\/m=11\/m=12:=by omega
 rcases hc with rfl|rfl|rfl|rfl|rfl|rfl|rfl|rfl|rfl|rfl|rfl|rfl<;>simp[cum,dim,tbl]<;>omega
theorem zxl (m:Int):59<=tbl m/\tbl m<=365:=by
 unfold tbl
 iterate 10 (split;decide)
 decide
theorem zxm (y m:Int):0<=cum y m/\cum y m<=366:=by
 have:=zxh y;have:=zxl m;unfold cum;split
 ·omega
 ·split<;>omega
theorem zxn (y:Int):cum y 13=365+lp y:=rfl
theorem zk5 (y a b:Int) (h1:1<=a) (h:a<=b) (h2:b<=13):cum y a<=cum y b:=by
 have hh:∀k:Nat,∀a:Int,1<=a->a+k<=13->cum y a<=cum y (a+k):=by
  intro k
  induction k with
  |zero=>intro a _ _;simp
  |succ k ih=>
   intro a h1 h2;have h3:=ih a h1 (by omega);have h4:=zg7 y (a+k) (by omega) (by omega);have:=zxk y (a+k);rw[show a+((k+1:Nat):Int)=a+k+1 from by omega];omega
 have:=hh (b-a).toNat a h1 (by omega);rwa[show a+((b-a).toNat:Int)=b from by omega]at this
theorem zyw {y m d:Int} (h:0<=y/\y<=9999/\1<=m/\m<=12/\1<=d/\d<=dim y m):vld y m d=true:=by
 simp[vld];omega
theorem zpa {y m d:Int} (h:vld y m d=true):0<=y/\y<=9999/\1<=m/\m<=12/\1<=d/\d<=dim y m:=by
 simp[vld]at h;omega
theorem zjr {y m d:Int} (h1:1<=m) (h2:m<=12) (h3:1<=d) (h4:d<=dim y m):0<=cum y m+d-1/\cum y m+d-1<365+lp y:=by
 have:=zxm y m;have:=zg7 y m h1 h2;have h5:=zk5 y (m+1) 13 (by omega) (by omega) (by omega);rw[zxn]at h5;omega
theorem zuf {y m d y' m' d':Int} (h:vld y m d=true) (h':vld y' m' d'=true) (hl:y<y'\/y=y'/\(m<m'\/m=m'/\d<d')):num y m d<num y' m' d':=by
 have a:=zpa h;have b:=zpa h';have ia:=zjr (y:=y) (m:=m) (d:=d) (by omega) (by omega) (by omega) (by omega);have ib:=zjr (y:=y') (m:=m') (d:=d') (by omega) (by omega) (by omega) (by omega);unfold num;rcases hl with hl|⟨rfl,hl|⟨rfl,hl⟩⟩
 ·have h1:=zk3 y (by omega);have h2:=zk4 (y+1) y' (by omega) (by omega);omega
 ·have h1:=zg7 y m (by omega) (by omega);have h2:=zk5 y (m+1) m' (by omega) (by omega) (by omega);omega
 ·omega
theorem zym {y m d y' m' d':Int} (h:vld y m d=true) (h':vld y' m' d'=true) (hn:num y m d=num y' m' d'):y=y'/\m=m'/\d=d':=by
 by_cases c1:y<y'\/y=y'/\(m<m'\/m=m'/\d<d')
 ·have:=zuf h h' c1;omega
 ·by_cases c2:y'<y\/y'=y/\(m'<m\/m'=m/\d'<d)
  ·have:=zuf h' h c2;omega
  ·omega
theorem zyx {y m d:Int} (h:vld y m d=true):-719528<=num y m d/\num y m d<=2932896:=by
 have a:=zpa h;have ia:=zjr (y:=y) (m:=m) (d:=d) (by omega) (by omega) (by omega) (by omega);have h1:=zk3 y (by omega);have h2:=zk4 (y+1) 10000 (by omega) (by omega);have h3:=zxi y (by omega) (by omega);rw[zo9]at h2;unfold num;omega
end Cal
namespace Gr
def numAt (s:List UInt8) (a n:Nat):Option Nat:=if a+n<=s.length/\((s.drop a).take n).all dig=true then some (val ((s.drop a).take n))else none
def isAt (s:List UInt8) (a:Nat) (c:UInt8):Bool:=s[a]? ==some c
def dateAt (s:List UInt8):Option (Nat×Nat×Nat):=
 match numAt s 0 4,numAt s 5 2,numAt s 8 2 with
 |some y,some m,some d=>if(isAt s 4 45 && isAt s 7 45)=true then some (y,m,d)else none
 |_,_,_=>none
structure Ck where
 h:Nat
 m:Nat
 s:Nat
 nanos:Nat
 stop:Nat
def clockAt (s:List UInt8) (a:Nat):Option Ck:=
 match numAt s a 2,numAt s (a+3) 2,numAt s (a+6) 2 with
 |some h,some m,some c=>
  if(isAt s (a+2) 58 && isAt s (a+5) 58)=true then
   if isAt s (a+8) 46=true then
    if((s.drop (a+9)).takeWhile dig).length=0\/9<((s.drop (a+9)).takeWhile dig).length then none
    else some ⟨h,m,c,val ((s.drop (a+9)).takeWhile dig)*10 ^ (9-((s.drop (a+9)).takeWhile dig).length),a+9+((s.drop (a+9)).takeWhile dig).length⟩
   else some ⟨h,m,c,0,a+8⟩
  else none
 |_,_,_=>none
structure Zn where
 z:UInt8
 h:Nat
 m:Nat
 stop:Nat
def zoneAt (s:List UInt8) (a:Nat):Option Zn:=
 if isAt s a 90=true then some ⟨90,0,0,a+1⟩
 else match numAt s (a+1) 2,numAt s (a+4) 2 with
  |some h,some m=>if((isAt s a 43 || isAt s a 45) && isAt s (a+3) 58)=true then some ⟨s.getD a 0,h,m,a+6⟩else none
  |_,_=>none
structure Mo where
 date:Bool
 time:Bool
 y:Nat
 m:Nat
 d:Nat
 h:Nat
 mi:Nat
 c:Nat
 nanos:Nat
 z:UInt8
 zh:Nat
 zm:Nat
def rd (s:List UInt8):Option Mo:=
 match dateAt s with
 |none=>match clockAt s 0 with
  |some k=>if k.stop=s.length then some ⟨false,true,0,0,0,k.h,k.m,k.s,k.nanos,0,0,0⟩else none
  |none=>none
 |some (y,m,d)=>
  if s.length=10 then some ⟨true,false,y,m,d,0,0,0,0,0,0,0⟩
  else if(isAt s 10 84 || isAt s 10 32)=true then match clockAt s 11 with
   |none=>none
   |some k=>if k.stop=s.length then some ⟨true,true,y,m,d,k.h,k.m,k.s,k.nanos,0,0,0⟩
    else match zoneAt s k.stop with
     |some z=>if z.stop=s.length then some ⟨true,true,y,m,d,k.h,k.m,k.s,k.nanos,z.z,z.h,z.m⟩else none
     |none=>none
  else none
def okR (x:Mo):Bool:=(!x.date || Cal.vld x.y x.m x.d) && decide (x.h<=23) && decide (x.mi<=59) && decide (x.c<=59) && decide (x.zh<=23) && decide (x.zm<=59)
def offS (x:Mo):Int:=if x.z=45 then -((3600*x.zh+60*x.zm:Nat):Int)else((3600*x.zh+60*x.zm:Nat):Int)
def secs (x:Mo):Int:=Cal.num x.y x.m x.d*86400+(3600*x.h+60*x.mi+x.c:Nat)-offS x
def pd:Nat->Nat->List UInt8
 | 0,_=>[]
 |w+1,x=>pd w (x /10)++[ch (x%10)]
theorem za4 (w x:Nat):(pd w x).length=w:=by
 induction w generalizing x with
 |zero=>rfl
 |succ w ih=>unfold pd;rw[List.length_append,ih];rfl
theorem zso (w x:Nat):pd (w+1) x=ch (x /10 ^ w%10)::pd w x:=by
 induction w generalizing x with
 |zero=>simp[pd]
 |succ w ih=>
  rw[pd,ih,List.cons_append];rw[show pd (w+1) x=pd w (x /10)++[ch (x%10)]from rfl,Nat.div_div_eq_div_mul,Nat.pow_succ,Nat.mul_comm 10]
theorem zpb (w:Nat):pd w 0=List.replicate w 48:=by
 induction w with
 |zero=>rfl
 |succ w ih=>rw[pd,Nat.zero_div,ih,List.replicate_succ'];rfl
theorem zpc (w x:Nat) (hw:1<=w) (hx:x<10 ^ w):List.replicate (w-(Lib.decDigits x).length) 48++Lib.decDigits x=pd w x:=by
 induction w generalizing x with
 |zero=>omega
 |succ w ih=>
  by_cases h:x<10
  ·rw[Lib.decDigits_one h,pd,show x /10=0 from by omega,zpb,show x%10=x from by omega];rfl
  ·rcases Nat.eq_zero_or_pos w with h0|h0
   ·subst h0;simp at hx;omega
   ·have h1:=ih (x /10) h0 (by rw[Nat.pow_succ]at hx;omega);rw[zat h,pd,<-h1,List.length_append,List.append_assoc]
    congr 2
    simp
def trimZ (l:List UInt8):List UInt8:=(l.reverse.dropWhile (fun c=>c==48)).reverse
def nanoS (n:Nat):List UInt8:=if n=0 then[]else 46::trimZ (pd 9 n)
def dateS (y m d:Nat):List UInt8:=pd 4 y++45::(pd 2 m++45::pd 2 d)
def clkS (h m s n:Nat):List UInt8:=pd 2 h++58::(pd 2 m++58::(pd 2 s++nanoS n))
def locS (x:Mo):List UInt8:=(if x.date=true then dateS x.y x.m x.d else[])++((if(x.date && x.time)=true then[84]else[])++(if x.time=true then clkS x.h x.mi x.c x.nanos else[]))
theorem zmn (w:Nat):trimZ (List.replicate w 48)=[]:=by
 unfold trimZ;rw[List.reverse_replicate]
 induction w with
 |zero=>rfl
 |succ w ih=>rw[List.replicate_succ,List.dropWhile_cons,if_pos (by decide)];exact ih
theorem zf8 (l:List UInt8) (c:UInt8):trimZ (l++[c])=if c=48 then trimZ l else l++[c]:=by
 unfold trimZ;rw[List.reverse_append,List.reverse_cons,List.reverse_nil,List.nil_append,List.singleton_append,List.dropWhile_cons];by_cases h:c=48
 ·grind
 ·grind
theorem zpd (w x:Nat) (hx:x<10 ^ w) (h:0<x):trimZ (pd w x)≠[]:=by
 induction w generalizing x with
 |zero=>simp at hx;omega
 |succ w ih=>
  rw[pd,zf8];split
  ·rename_i hc;have h1:=congrArg dv hc;rw[zu5 _ (by omega)]at h1;have h2:x%10=0:=h1;exact ih (x /10) (by rw[Nat.pow_succ]at hx;omega) (by omega)
  ·simp
noncomputable def dateOf (n:Int):Nat×Nat×Nat:=
 open Classical in if h:∃t:Nat×Nat×Nat,Cal.vld t.1 t.2.1 t.2.2=true/\Cal.num t.1 t.2.1 t.2.2=n then h.choose else(0,0,0)
theorem zil {n:Int} {y m d:Nat} (hv:Cal.vld y m d=true) (hn:Cal.num y m d=n):dateOf n=(y,m,d):=by
 have h:∃t:Nat×Nat×Nat,Cal.vld t.1 t.2.1 t.2.2=true/\Cal.num t.1 t.2.1 t.2.2=n:=⟨(y,m,d),hv,hn⟩
 unfold dateOf;rw[dif_pos h];obtain⟨h1,h2⟩:=h.choose_spec;obtain⟨a,b,c⟩:=Cal.zym h1 hv (h2.trans hn.symm);apply Prod.ext
 ·exact Int.ofNat.inj a
 ·grind
noncomputable def momS (day:Int) (r nanos:Nat):List UInt8:=
 dateS (dateOf day).1 (dateOf day).2.1 (dateOf day).2.2++84::(clkS (r /3600) (r /60%60) (r%60) nanos++[90])
noncomputable def insP (s:List UInt8):List UInt8×Nat:=
 match rd s with
 |none=>([],3)
 |some x=>if x.z=0 then([],3)else if okR x=false then([],13)
  else if secs x< -62167219200\/253402300800<=secs x then([],13)else(momS (secs x /86400) (secs x%86400).toNat x.nanos,0)
def locP (s:List UInt8):List UInt8×Nat:=
 match rd s with
 |none=>([],3)
 |some x=>if x.z≠0 then([],3)else if okR x=false then([],13)else(locS x,0)
noncomputable def insB (s:List UInt8):Bool:=decide ((insP s).2=0/\(insP s).1=s)
def locB (s:List UInt8):Bool:=decide ((locP s).2=0/\(locP s).1=s)
end Gr
end Go.Proofs.YtoigpackhninoaaGreatDoor
