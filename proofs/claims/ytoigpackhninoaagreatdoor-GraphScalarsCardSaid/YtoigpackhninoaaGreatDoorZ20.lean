/- Walks: the reference's Numeral. Walks: the reference's Numeral, its tail. Walks: the reference's ReadInstant, ReadLocal, Canon, Instant, Local. -/
import Derived.Test.YtoigpackhninoaaGreatDoorGrDecR3
import Derived.Test.YtoigpackhninoaaGreatDoorZ02
import Derived.Test.YtoigpackhninoaaGreatDoorGrInsR12
import Derived.Test.YtoigpackhninoaaGreatDoorZ23
import Derived.Test.YtoigpackhninoaaGreatDoorZ17
import Derived.Test.YtoigpackhninoaaGreatDoorGrInsR9
import Derived.Test.YtoigpackhninoaaGreatDoorZ24
namespace Go.Proofs.YtoigpackhninoaaGreatDoor
open Go.RowKit
theorem dw_drop (s:Gr.Str) (a:Nat):(s.drop a).dropWhile Gr.dig=s.drop (a+(rdg s a).length):=by
 have h:=List.takeWhile_append_dropWhile (p:=Gr.dig) (l:=s.drop a);have h2:=congrArg (List.drop (rdg s a).length) h;unfold rdg at h2 ⊢;rw[List.drop_left,List.drop_drop]at h2;exact h2
theorem rdg_le (s:Gr.Str) (a:Nat) (h:a<=s.length):a+(rdg s a).length<=s.length:=by
 have:(rdg s a).length<=(s.drop a).length:=(List.takeWhile_sublist Gr.dig).length_le;rw[List.length_drop]at this;omega
theorem drop_head (s:Gr.Str) (k:Nat):(s.drop k).head?=s[k]? :=by rw[List.head?_drop]
theorem drop_tail (s:Gr.Str) (k:Nat):(s.drop k).tail=s.drop (k+1):=by rw[List.tail_drop]
theorem rdg_head (s:Gr.Str) (a:Nat) (h:0<(rdg s a).length):(rdg s a).head?=s[a]? :=by
 rw[<-drop_head];unfold rdg at h ⊢;cases hd:s.drop a with
 |nil=>rw[hd]at h;simp at h
 |cons c l=>
  rw[hd]at h;rw[List.takeWhile_cons]at h ⊢;split
  ·rfl
  ·rename_i hc;rw[if_neg hc]at h;simp at h
theorem numT_at (sat:Nat) (neg:Bool) (s:Gr.Str) (a:Nat):Gr.numT sat neg (s.drop a)=if rdg s a=[]\/(s[a]? =some 48/\1<(rdg s a).length)then none
 else if s[a+(rdg s a).length]? =some 46 then
  if rdg s (a+(rdg s a).length+1)=[]then none else Gr.expS sat neg (Gr.vals (rdg s a)++Gr.vals (rdg s (a+(rdg s a).length+1))) (-((rdg s (a+(rdg s a).length+1)).length:Int)) (s.drop (a+(rdg s a).length+1+(rdg s (a+(rdg s a).length+1)).length))
 else Gr.expS sat neg (Gr.vals (rdg s a)) 0 (s.drop (a+(rdg s a).length)):=by
 unfold Gr.numT;have e1:(s.drop a).takeWhile Gr.dig=rdg s a:=rfl;rw[e1,dw_drop,drop_head,drop_tail,dw_drop];have e2:(s.drop (a+(rdg s a).length+1)).takeWhile Gr.dig=rdg s (a+(rdg s a).length+1):=rfl;rw[e2];have e3:Gr.vals (rdg s a++rdg s (a+(rdg s a).length+1))=Gr.vals (rdg s a)++Gr.vals (rdg s (a+(rdg s a).length+1)):=by simp[Gr.vals]
 rw[e3];by_cases h0:rdg s a=[]
 ·rw[if_pos (.inl h0),if_pos (.inl h0)]
 ·rw[rdg_head s a (List.length_pos_iff.2 h0)]
theorem expS_no (sat:Nat) (neg:Bool) (d:List Nat) (e:Int) (s:Gr.Str) (t:Nat) (ht:t<=s.length) (h1:s[t]? ≠some 101) (h2:s[t]? ≠some 69):Gr.expS sat neg d e (s.drop t)=if t=s.length then some (Gr.norm neg d e)else none:=by
 unfold Gr.expS;rw[drop_head];by_cases h:t=s.length
 ·subst h;rw[if_pos (by simp),if_pos rfl]
 ·rw[if_neg (by intro e;have:=congrArg List.length e;simp at this;omega),if_neg (fun e=>e.elim h1 h2),if_neg h]
theorem all_rdg (s:Gr.Str) (b:Nat) (hb:b<=s.length):(s.drop b).all Gr.dig=true↔b+(rdg s b).length=s.length:=by
 constructor
 ·intro h;have:rdg s b=s.drop b:=by
   unfold rdg;have:=List.takeWhile_append_of_pos (p:=Gr.dig) (l₁:=s.drop b) (l₂:=[]) (by simpa using h);simpa using this
  rw[this,List.length_drop];omega
 ·intro h;have h1:=List.takeWhile_append_dropWhile (p:=Gr.dig) (l:=s.drop b);rw[dw_drop,show s.drop (b+(rdg s b).length)=[]from List.drop_eq_nil_of_le (by omega),List.append_nil]at h1;rw[<-h1];exact Gr.tw_all _
theorem rdg_all (s:Gr.Str) (b:Nat) (h:b+(rdg s b).length=s.length):rdg s b=s.drop b:=by
 have h1:=List.takeWhile_append_dropWhile (p:=Gr.dig) (l:=s.drop b);rw[dw_drop,show s.drop (b+(rdg s b).length)=[]from List.drop_eq_nil_of_le (by omega),List.append_nil]at h1;exact h1
theorem expS_at (sat:Nat) (neg:Bool) (d:List Nat) (e:Int) (s:Gr.Str) (t b:Nat) (minus:Bool) (ht:t<s.length) (h1:s[t]? =some 101\/s[t]? =some 69) (hb:b=if s[t+1]? =some 45\/s[t+1]? =some 43 then t+2 else t+1) (hm:minus=decide (s[t+1]? =some 45)) (hbl:b<=s.length):
 Gr.expS sat neg d e (s.drop t)=if rdg s b=[]then none else if b+(rdg s b).length=s.length then some (Gr.norm neg d (e+(if minus=true then -1 else 1)*(Gr.satv sat (rdg s b):Int)))else none:=by
 unfold Gr.expS;rw[if_neg (by intro e;have:=congrArg List.length e;simp at this;omega),drop_head,if_pos h1,drop_tail];have hT:Gr.expT (s.drop (t+1))=s.drop b:=by
  unfold Gr.expT;rw[drop_head,drop_tail,hb];split<;>rfl
 have hV:Gr.expV sat (s.drop (t+1))=(if minus=true then -1 else 1)*(Gr.satv sat (s.drop b):Int):=by
  unfold Gr.expV;rw[hT,drop_head,hm];by_cases h:s[t+1]? =some 45
  ·rw[if_pos h,if_pos (by simpa using h)];omega
  ·rw[if_neg h,if_neg (by simpa using h)];omega
 rw[hT,hV];by_cases he:rdg s b=[]
 ·rw[if_pos he,if_pos];rcases Nat.lt_or_ge b s.length with h|h
  ·right;rw[Bool.eq_false_iff];intro hall;have:=(all_rdg s b hbl).1 hall;rw[he]at this;simp at this;omega
  ·left;exact List.drop_eq_nil_of_le h
 ·rw[if_neg he];by_cases hall:b+(rdg s b).length=s.length
  ·rw[if_pos hall,if_neg,rdg_all s b hall];rintro(h|h)
   ·rw[<-rdg_all s b hall]at h;exact he h
   ·rw[(all_rdg s b hbl).2 hall]at h;cases h
  ·rw[if_neg hall,if_pos];right;rw[Bool.eq_false_iff];exact fun h=>hall ((all_rdg s b hbl).1 h)
end Go.Proofs.YtoigpackhninoaaGreatDoor
namespace Go.Proofs.YtoigpackhninoaaGreatDoor
set_option maxRecDepth 100000
set_option maxHeartbeats 16000000
open Go.RowKit
def RNumPost (o:Option Gr.Dn) (w:World) (e:Ending) (w':World):Prop:=∃x v,e=.returned (.tuple #[v,.bool o.isSome])/\NumI x v w.heap.size w'/\(∀y,o=some y->x=y)/\Below w.heap.size w w'
theorem rnum_tail (s:Gr.Str) (_hl:s.length<=268435455) (w wc:World) (gb n c t2:Nat) (A:Option Addr) (neg:Bool) (ev2:Int) (ds:List Nat) (r:Option Gr.Dn) (HGB:Hid (w.heap.size=gb))
 (HT:Hid (n=ds.length/\ds.length<=536870911/\(∀v∈ds,v<10))) (HE2:Hid (t2<=s.length/\-1152921504606846976<=ev2/\ev2<=1152921504606846976/\r=if t2=s.length then some (Gr.norm neg ds ev2)else none)) (HO2:Hid (OwnRow intL wc (gb+1) 3 (.slice A n c) ds)) (HB2:Hid (Blk wc gb 69 #[.bool false,.slice none 0 0,.int .i64 0]/\Below gb w wc))
 (u1 u3 u7 u9 u10 u11 u12 u13 u14 u15 u16 u17 u18 u19 u20 u21 u22 u23 u24 u25 u26 u27 u28 u29 u30 u31 u32 u33 u34 u35 u36 u37 u38 u39 u40 u41 u42 u43 u44 u45 u46 u47 u48 u49 u50 u51 u52 u53 u54 u55 u56 u57 u58 u59 u60 u61 u62 u63 u64 u65 u66 u67 u68 u69 u70 u71 u72 u73 u74 u75 u76 u77 u78 u79 u80 u81 u82 u83 u84 u85 u86 u87 u88 u89 u90 u91 u92 u93 u94 u95 u96 u97 u98 u99 u100 u101 u102 u103 u104 u105 u106 u107 u108 u109 u110 u111 u112 u113 u114 u115 u116 u117 u118 u119 u120 u121 u122 u123 u124 u125 u126 u127 u128 u129 u130 u131 u132 u133 u134 u135 u136 u137 u138 u139 u140 u141 u142 u143 u144 u145 u146 u147 u148 u149 u150 u151 u152 u153 u154:Value):
 Code.wp Tryz.prog (tl 10 (Tryz.f75.body.getD .skip)) (bodyPost Tryz.prog Tryz.f75 (RNumPost r w)) {tmps:=List.toArray (.string ⟨s.toArray⟩::u1::.pointer (some ⟨gb,0,none⟩)::u3::.int .i64 (t2:Int)::.bool neg::.slice A n c::u7::.int .i64 ev2::u9::u10::u11::u12::u13::u14::u15::u16::u17::u18::u19::u20::u21::u22::u23::u24::u25::u26::u27::u28::u29::u30::u31::u32::u33::u34::u35::u36::u37::u38::u39::u40::u41::u42::u43::u44::u45::u46::u47::u48::u49::u50::u51::u52::u53::u54::u55::u56::u57::u58::u59::u60::u61::u62::u63::u64::u65::u66::u67::u68::u69::u70::u71::u72::u73::u74::u75::u76::u77::u78::u79::u80::u81::u82::u83::u84::u85::u86::u87::u88::u89::u90::u91::u92::u93::u94::u95::u96::u97::u98::u99::u100::u101::u102::u103::u104::u105::u106::u107::u108::u109::u110::u111::u112::u113::u114::u115::u116::u117::u118::u119::u120::u121::u122::u123::u124::u125::u126::u127::u128::u129::u130::u131::u132::u133::u134::u135::u136::u137::u138::u139::u140::u141::u142::u143::u144::u145::u146::u147::u148::u149::u150::u151::u152::u153::u154::[]),defers:=[]} wc:=by
 generalize hc0:tl 10 (Tryz.f75.body.getD .skip)=c0;simp only[tl,Tryz.f75,Option.getD_some]at hc0;subst hc0;have hrw:=HO2.out.form;have hnl:n=ds.length:=HT.out.1;have HNO:Hid (∀W,Below wc.heap.size wc W->W=wc->Calls Tryz.prog 98 #[.bool neg,.slice A n c,.int .i64 ev2] W (RNormPost (Gr.norm neg ds ev2) W)):=Lib.hid (fun W _ hW=>by
  subst hW;obtain⟨A',c',hv,hrow⟩:=HO2.out.form;rw[hnl]at hv ⊢;injection hv with e1 e2 e3
  subst e1;exact rnorm_any neg A c ds ev2 (by have:=HT.out.2.1;omega) HE2.out.2.1 HE2.out.2.2.1 HT.out.2.2 W hrow)
 have HE3:=Lib.hid HE2.out.2.2.2;have ht2s:t2<=s.length:=HE2.out.1;obtain⟨full,hfull⟩:∃full,decide (t2=s.length)=full:=⟨_,rfl⟩
 have hfb:((t2:Int)==(s.length:Int))=full:=by
  rw[<-hfull,Bool.eq_iff_iff];simp;omega
 have hfb2:(t2==s.length)=full:=by
  rw[<-hfull,Bool.eq_iff_iff];simp
 have HFU:=Lib.hid hfull;clear hrw hnl hfull HT HE2;go_wp2_with fail;refine(HNO.out wc (Below.refl _ _) rfl).mono ?_;rintro e w5 ⟨v,rfl,⟨A5,c5,rfl,ho5⟩,hb5⟩;have HB5:Hid (Blk w5 gb 69 #[.bool false,.slice none 0 0,.int .i64 0]/\Below gb w w5):=Lib.hid ⟨HB2.out.1.below hb5 HB2.out.1.lt,HB2.out.2.trans (hb5.mono (Nat.le_of_lt HB2.out.1.lt))⟩;have HO5:=Lib.hid (ho5.lower (show gb+1<=wc.heap.size from HB2.out.1.lt));have p0:∀j,w5.frozen? ⟨gb,j,none⟩=false:=HB5.out.1.frozen;obtain⟨q0,q1,q2⟩:=cells3 HB5.out.1;obtain⟨x,hx⟩:∃x,Gr.norm neg ds ev2=x:=⟨_,rfl⟩
 rw[hx]at HO5 HE3 ⊢;clear hx ho5 hb5;go_wp2_with fail;have hb3:=((HB5.out.1.set_ 0 (.bool x.neg)).set_ 1 (.slice A5 x.d.length c5)).set_ 2 (.int .i64 x.e);have e0:=hb3.cell 0;have e1:=hb3.cell 1;have e2:=hb3.cell 2;refine bodyPost_ret (v:=.tuple #[.agg #[.bool x.neg,.slice A5 x.d.length c5,.int .i64 x.e],.bool full]) (by rw[results_cell_tmp rfl];go_simp) rfl ?_;have hrs:r.isSome=full:=by
  rw[HE3.out,<-HFU.out];by_cases h:t2=s.length
  ·rw[if_pos h];simp[h]
  ·rw[if_neg h];simp[h]
 unfold RNumPost;rw[HGB.out,hrs];have ho3:=((HO5.out.setCell (p:=⟨gb,0,none⟩) (fun e=>absurd (HO5.out.lt _ e).1 (by simp)) (.bool x.neg)).setCell (p:=⟨gb,1,none⟩) (fun e=>absurd (HO5.out.lt _ e).1 (by simp)) (.slice A5 x.d.length c5)).setCell (p:=⟨gb,2,none⟩) (fun e=>absurd (HO5.out.lt _ e).1 (by simp)) (.int .i64 x.e);refine⟨x,_,rfl,⟨A5,c5,rfl,ho3.lower (by omega)⟩,fun y hy=>?_,((HB5.out.2.setCell (p:=⟨gb,0,none⟩) (by simp) _).setCell (p:=⟨gb,1,none⟩) (by simp) _).setCell (p:=⟨gb,2,none⟩) (by simp) _⟩;rw[HE3.out]at hy;split at hy
 ·injection hy
 ·cases hy
end Go.Proofs.YtoigpackhninoaaGreatDoor
namespace Go.Proofs.YtoigpackhninoaaGreatDoor
open Go.RowKit
structure MoOk (x:Gr.Mo):Prop where
 y:x.y<=9999
 m:x.m<=99
 d:x.d<=99
 h:x.h<=99
 mi:x.mi<=99
 c:x.c<=99
 nanos:x.nanos<=999999999
 zh:x.zh<=99
 zm:x.zm<=99
 sh:(x.date=true/\x.time=true)\/(x.date=true/\x.time=false/\x.z=0)\/(x.date=false/\x.time=true/\x.z=0)
 z0:x.z=0->x.zh=0/\x.zm=0
theorem numAt2 {s:Gr.Str} {a v:Nat} (h:Gr.numAt s a 2=some v):v<=99:=by
 have:=(numAt_bd h (by omega)).2.1;omega
theorem numAt4 {s:Gr.Str} {a v:Nat} (h:Gr.numAt s a 4=some v):v<=9999:=by
 have:=(numAt_bd h (by omega)).2.1;omega
theorem clock_bd {s:Gr.Str} {a:Nat} {k:Gr.Ck} (h:Gr.clockAt s a=some k):k.h<=99/\k.m<=99/\k.s<=99/\k.nanos<=999999999:=by
 unfold Gr.clockAt at h;split at h
 ·rename_i h1 h2 h3;have b1:=numAt2 h1;have b2:=numAt2 h2;have b3:=numAt2 h3;split at h
  ·split at h
   ·split at h
    ·cases h
    ·rename_i hn;injection h with h
     subst h;refine⟨b1,b2,b3,?_⟩;have hd:=Gr.tw_all (s.drop (a+9));have hv:=Gr.val_lt _ hd;generalize (s.drop (a+9)).takeWhile Gr.dig=l at *;have:Gr.val l*10 ^ (9-l.length)<10 ^ l.length*10 ^ (9-l.length):=Nat.mul_lt_mul_of_pos_right hv (Nat.pow_pos (by omega));rw[<-Nat.pow_add,show l.length+(9-l.length)=9 from by omega]at this;show Gr.val l*10 ^ (9-l.length)<=999999999;omega
   ·injection h with h;subst h;exact⟨b1,b2,b3,by show 0<=999999999;omega⟩
  ·cases h
 ·cases h
theorem zone_bd {s:Gr.Str} {a:Nat} {z:Gr.Zn} (h:Gr.zoneAt s a=some z):z.h<=99/\z.m<=99:=by
 unfold Gr.zoneAt at h;split at h
 ·injection h with h;subst h;exact⟨by show 0<=99;omega,by show 0<=99;omega⟩
 ·split at h
  ·rename_i h1 h2;split at h
   ·injection h with h;subst h;exact⟨numAt2 h1,numAt2 h2⟩
   ·cases h
  ·cases h
theorem rd_ok {s:Gr.Str} {x:Gr.Mo} (h:Gr.rd s=some x):MoOk x:=by
 unfold Gr.rd at h;split at h
 ·split at h
  ·rename_i k hk;obtain⟨b1,b2,b3,b4⟩:=clock_bd hk;split at h
   ·injection h with h;subst h
    exact⟨Nat.zero_le _,Nat.zero_le _,Nat.zero_le _,b1,b2,b3,b4,Nat.zero_le _,Nat.zero_le _,.inr (.inr ⟨rfl,rfl,rfl⟩),fun _=>⟨rfl,rfl⟩⟩
   ·cases h
  ·cases h
 ·rename_i y m d hd;have hb:y<=9999/\m<=99/\d<=99:=by
   unfold Gr.dateAt at hd;split at hd
   ·rename_i h1 h2 h3;split at hd
    ·injection hd with hd
     injection hd with e1 e2
     injection e2 with e2 e3
     subst e1 e2 e3;exact⟨numAt4 h1,numAt2 h2,numAt2 h3⟩
    ·cases hd
   ·cases hd
  obtain⟨c1,c2,c3⟩:=hb;split at h
  ·injection h with h;subst h
   exact⟨c1,c2,c3,Nat.zero_le _,Nat.zero_le _,Nat.zero_le _,Nat.zero_le _,Nat.zero_le _,Nat.zero_le _,.inr (.inl ⟨rfl,rfl,rfl⟩),fun _=>⟨rfl,rfl⟩⟩
  ·split at h
   ·split at h
    ·cases h
    ·rename_i k hk;obtain⟨b1,b2,b3,b4⟩:=clock_bd hk;split at h
     ·injection h with h;subst h
      exact⟨c1,c2,c3,b1,b2,b3,b4,Nat.zero_le _,Nat.zero_le _,.inl ⟨rfl,rfl⟩,fun _=>⟨rfl,rfl⟩⟩
     ·split at h
      ·rename_i z hz;obtain⟨d1,d2⟩:=zone_bd hz;split at h
       ·injection h with h;subst h
        exact⟨c1,c2,c3,b1,b2,b3,b4,d1,d2,.inl ⟨rfl,rfl⟩,fun e=>absurd e (zone_nz hz)⟩
       ·cases h
      ·cases h
   ·cases h
theorem rngB_ok {x:Gr.Mo} (h:MoOk x):rngB x.date x.y x.m x.d x.h x.mi x.c (decide (23<x.zh) || decide (59<x.zm))=Gr.okR x:=by
 unfold rngB Gr.okR Cal.vld;have hy:decide ((0:Int)<=(x.y:Int))=true:=by simp
 have hy9:decide ((x.y:Int)<=9999)=true:=by have:=h.y;simp;omega
 rw[hy,hy9];have e1:decide ((x.h:Int)<=23)=decide (x.h<=23):=by rw[Bool.eq_iff_iff];simp;omega
 have e2:decide ((x.mi:Int)<=59)=decide (x.mi<=59):=by rw[Bool.eq_iff_iff];simp;omega
 have e3:decide ((x.c:Int)<=59)=decide (x.c<=59):=by rw[Bool.eq_iff_iff];simp;omega
 have e4:(!(decide (23<x.zh) || decide (59<x.zm)))=(decide (x.zh<=23) && decide (x.zm<=59)):=by rw[Bool.eq_iff_iff];simp
 rw[e1,e2,e3,e4];cases x.date<;>simp[Bool.and_assoc,Bool.and_comm,Bool.and_left_comm]
end Go.Proofs.YtoigpackhninoaaGreatDoor
