import Derived.Test.YtoigpackhninoaaGreatDoorGrDecR3
import Derived.Test.YtoigpackhninoaaGreatDoorZ20
import Derived.Test.YtoigpackhninoaaGreatDoorGrInsR12
import Derived.Test.YtoigpackhninoaaGreatDoorZ07
namespace Go.Proofs.YtoigpackhninoaaGreatDoor
open Gr
open Go.RowKit
theorem zg3 (s:Gr.Str) (a:Nat):(s.drop a).dropWhile Gr.dig=s.drop (a+(rdg s a).length):=by
 have h:=List.takeWhile_append_dropWhile (p:=Gr.dig) (l:=s.drop a);have b:=congrArg (List.drop (rdg s a).length) h;unfold rdg at b ⊢;rw[List.drop_left,List.drop_drop]at b;exact b
theorem zqb (s:Gr.Str) (a:Nat) (h:a<=s.length):a+(rdg s a).length<=s.length:=by
 have:(rdg s a).length<=(s.drop a).length:=(List.takeWhile_sublist Gr.dig).length_le;rw[List.length_drop]at this;omega
theorem zb4 (s:Gr.Str) (k:Nat):(s.drop k).head?=s[k]? :=by rw[List.head?_drop]
theorem zfc (s:Gr.Str) (k:Nat):(s.drop k).tail=s.drop (k+1):=by rw[List.tail_drop]
theorem zk4 (s:Gr.Str) (a:Nat) (h:0<(rdg s a).length):(rdg s a).head?=s[a]? :=by
 rw[<-zb4];unfold rdg at h ⊢;cases hd:s.drop a with
 |nil=>rw[hd]at h;simp at h
 |cons c l=>
  rw[hd]at h;rw[List.takeWhile_cons]at h ⊢;split
  ·rfl
  ·grind
theorem zv5 (sat:Nat) (neg:Bool) (s:Gr.Str) (a:Nat):numT sat neg (s.drop a)=if rdg s a=[]\/(s[a]? =some 48/\1<(rdg s a).length)then none
 else if s[a+(rdg s a).length]? =some 46 then
  if rdg s (a+(rdg s a).length+1)=[]then none else expS sat neg (vals (rdg s a)++vals (rdg s (a+(rdg s a).length+1))) (-((rdg s (a+(rdg s a).length+1)).length:Int)) (s.drop (a+(rdg s a).length+1+(rdg s (a+(rdg s a).length+1)).length))
 else expS sat neg (vals (rdg s a)) 0 (s.drop (a+(rdg s a).length)):=by
 unfold numT;have b:(s.drop a).takeWhile Gr.dig=rdg s a:=rfl;rw[b,zg3,zb4,zfc,zg3];have c:(s.drop (a+(rdg s a).length+1)).takeWhile Gr.dig=rdg s (a+(rdg s a).length+1):=rfl;rw[c];have d:vals (rdg s a++rdg s (a+(rdg s a).length+1))=vals (rdg s a)++vals (rdg s (a+(rdg s a).length+1)):=by simp[vals]
 rw[d];by_cases h0:rdg s a=[]
 ·grind
 ·rw[zk4 s a (List.length_pos_iff.2 h0)]
theorem zv6 (sat:Nat) (neg:Bool) (d:List Nat) (e:Int) (s:Gr.Str) (t:Nat) (ht:t<=s.length) (h1:s[t]? ≠some 101) (h2:s[t]? ≠some 69):expS sat neg d e (s.drop t)=if t=s.length then some (norm neg d e)else none:=by
 unfold expS;rw[zb4];by_cases h:t=s.length
 ·grind
 ·rw[if_neg (by intro e;have:=congrArg List.length e;simp at this;omega),if_neg (fun e=>e.elim h1 h2),if_neg h]
theorem zjt (s:Gr.Str) (b:Nat) (hb:b<=s.length):(s.drop b).all Gr.dig=true↔b+(rdg s b).length=s.length:=by
 constructor
 ·intro h;have:rdg s b=s.drop b:=by
   unfold rdg;have:=List.takeWhile_append_of_pos (p:=Gr.dig) (l₁:=s.drop b) (l₂:=[]) (by simpa using h);simpa using this
  rw[this,List.length_drop];omega
 ·intro h;have a:=List.takeWhile_append_dropWhile (p:=Gr.dig) (l:=s.drop b);rw[zg3,show s.drop (b+(rdg s b).length)=[]from List.drop_eq_nil_of_le (by omega),List.append_nil]at a;rw[<-a];exact zd8 _
theorem zqc (s:Gr.Str) (b:Nat) (h:b+(rdg s b).length=s.length):rdg s b=s.drop b:=by
 have a:=List.takeWhile_append_dropWhile (p:=Gr.dig) (l:=s.drop b);rw[zg3,show s.drop (b+(rdg s b).length)=[]from List.drop_eq_nil_of_le (by omega),List.append_nil]at a;exact a
theorem zv7 (sat:Nat) (neg:Bool) (d:List Nat) (e:Int) (s:Gr.Str) (t b:Nat) (minus:Bool) (ht:t<s.length) (h1:s[t]? =some 101\/s[t]? =some 69) (hb:b=if s[t+1]? =some 45\/s[t+1]? =some 43 then t+2 else t+1) (hm:minus=decide (s[t+1]? =some 45)) (hbl:b<=s.length):
 expS sat neg d e (s.drop t)=if rdg s b=[]then none else if b+(rdg s b).length=s.length then some (norm neg d (e+(if minus=true then -1 else 1)*(satv sat (rdg s b):Int)))else none:=by
 unfold expS;rw[if_neg (by intro e;have:=congrArg List.length e;simp at this;omega),zb4,if_pos h1,zfc];have c:expT (s.drop (t+1))=s.drop b:=by
  unfold expT;rw[zb4,zfc,hb];split<;>rfl
 have f:expV sat (s.drop (t+1))=(if minus=true then -1 else 1)*(satv sat (s.drop b):Int):=by
  unfold expV;rw[c,zb4,hm];by_cases h:s[t+1]? =some 45
  ·grind
  ·grind
 rw[c,f];by_cases he:rdg s b=[]
 ·rw[if_pos he,if_pos];rcases Nat.lt_or_ge b s.length with h|h
  ·right;rw[Bool.eq_false_iff];intro a;have:=(zjt s b hbl).1 a;rw[he]at this;simp at this;omega
  ·grind
 ·rw[if_neg he];by_cases a:b+(rdg s b).length=s.length
  ·rw[if_pos a,if_neg,zqc s b a];rintro(h|h)
   ·rw[<-zqc s b a]at h;exact he h
   ·rw[(zjt s b hbl).2 a]at h;cases h
  ·rw[if_neg a,if_pos];right;rw[Bool.eq_false_iff];exact fun h=>a ((zjt s b hbl).1 h)
open _root_.Go.Proofs.Tryz
set_option maxRecDepth 100000
set_option maxHeartbeats 16000000
def zcb (o:Option Gr.Dn) (w:World) (e:Ending) (w':World):Prop:=∃x v,e=.returned (.tuple #[v,.bool o.isSome])/\NumI x v w.heap.size w'/\(∀y,o=some y->x=y)/\Below w.heap.size w w'
theorem zqd (s:Gr.Str) (_hl:s.length<=268435455) (w wc:World) (gb n c t2:Nat) (A:Option Addr) (neg:Bool) (ev2:Int) (ds:List Nat) (r:Option Gr.Dn) (HGB:Hid (w.heap.size=gb))
 (HT:Hid (n=ds.length/\ds.length<=536870911/\(∀v∈ds,v<10))) (HE2:Hid (t2<=s.length/\-1152921504606846976<=ev2/\ev2<=1152921504606846976/\r=if t2=s.length then some (Gr.norm neg ds ev2)else none)) (HO2:Hid (OwnRow intL wc (gb+1) 3 (.slice A n c) ds)) (HB2:Hid (Blk wc gb 69 #[.bool false,.slice none 0 0,.int .i64 0]/\Below gb w wc))
 {u1 u3 u7 u9 u10 u11 u12 u13 u14 u15 u16 u17 u18 u19 u20 u21 u22 u23 u24 u25 u26 u27 u28 u29 u30 u31 u32 u33 u34 u35 u36 u37 u38 u39 u40 u41 u42 u43 u44 u45 u46 u47 u48 u49 u50 u51 u52 u53 u54 u55 u56 u57 u58 u59 u60 u61 u62 u63 u64 u65 u66 u67 u68 u69 u70 u71 u72 u73 u74 u75 u76 u77 u78 u79 u80 u81 u82 u83 u84 u85 u86 u87 u88 u89 u90 u91 u92 u93 u94 u95 u96 u97 u98 u99 u100 u101 u102 u103 u104 u105 u106 u107 u108 u109 u110 u111 u112 u113 u114 u115 u116 u117 u118 u119 u120 u121 u122 u123 u124 u125 u126 u127 u128 u129 u130 u131 u132 u133 u134 u135 u136 u137 u138 u139 u140 u141 u142 u143 u144 u145 u146 u147 u148 u149 u150 u151 u152 u153 u154:Value}:
 Code.wp prog (tl 10 (f75.body.getD .skip)) (bodyPost prog f75 (zcb r w)) {tmps:=List.toArray (.string ⟨s.toArray⟩::u1::.pointer (some ⟨gb,0,none⟩)::u3::.int .i64 (t2:Int)::.bool neg::.slice A n c::u7::.int .i64 ev2::u9::u10::u11::u12::u13::u14::u15::u16::u17::u18::u19::u20::u21::u22::u23::u24::u25::u26::u27::u28::u29::u30::u31::u32::u33::u34::u35::u36::u37::u38::u39::u40::u41::u42::u43::u44::u45::u46::u47::u48::u49::u50::u51::u52::u53::u54::u55::u56::u57::u58::u59::u60::u61::u62::u63::u64::u65::u66::u67::u68::u69::u70::u71::u72::u73::u74::u75::u76::u77::u78::u79::u80::u81::u82::u83::u84::u85::u86::u87::u88::u89::u90::u91::u92::u93::u94::u95::u96::u97::u98::u99::u100::u101::u102::u103::u104::u105::u106::u107::u108::u109::u110::u111::u112::u113::u114::u115::u116::u117::u118::u119::u120::u121::u122::u123::u124::u125::u126::u127::u128::u129::u130::u131::u132::u133::u134::u135::u136::u137::u138::u139::u140::u141::u142::u143::u144::u145::u146::u147::u148::u149::u150::u151::u152::u153::u154::[]),defers:=[]} wc:=by
 generalize hc0:tl 10 (f75.body.getD .skip)=c0;simp only[tl,f75,Option.getD_some]at hc0;subst hc0;have G:=HO2.out.form;have m:n=ds.length:=HT.out.1;have E:Hid (∀W,Below wc.heap.size wc W->W=wc->Calls prog 98 #[.bool neg,.slice A n c,.int .i64 ev2] W (zfb (Gr.norm neg ds ev2) W)):=Lib.hid (fun W _ J=>by
  subst J;obtain⟨A',c',I,o⟩:=HO2.out.form;rw[m]at I ⊢;injection I with e1 e2 e3
  subst e1;exact zqa neg A c ds ev2 (by have:=HT.out.2.1;omega) HE2.out.2.1 HE2.out.2.2.1 HT.out.2.2 W o)
 have i:=Lib.hid HE2.out.2.2.2;have ht2s:t2<=s.length:=HE2.out.1;obtain⟨b,a⟩:=ex (decide (t2=s.length))
 have hfb:((t2:Int)==(s.length:Int))=b:=by
  rw[<-a,Bool.eq_iff_iff];simp;omega
 have hfb2:(t2==s.length)=b:=by
  rw[<-a,Bool.eq_iff_iff];simp
 have C:=Lib.hid a;clear G m a HT HE2;go_wp2_with fail;refine(E.out wc (Below.refl _ _) rfl).mono ?_;rintro e F ⟨v,rfl,⟨t,u,rfl,q⟩,k⟩;have g:Hid (Blk F gb 69 #[.bool false,.slice none 0 0,.int .i64 0]/\Below gb w F):=Lib.hid ⟨HB2.out.1.below k HB2.out.1.lt,HB2.out.2.trans (k.mono (Nat.le_of_lt HB2.out.1.lt))⟩;have f:=Lib.hid (q.lower (show gb+1<=wc.heap.size from HB2.out.1.lt));have p0:∀j,F.frozen? ⟨gb,j,none⟩=false:=g.out.1.frozen;obtain⟨q0,q1,q2⟩:=cells3 g.out.1;obtain⟨x,H⟩:=ex (Gr.norm neg ds ev2)
 rw[H]at f i ⊢;clear H q k;go_wp2_with fail;have l:=((g.out.1.set_ 0 (.bool x.neg)).set_ 1 (.slice t x.d.length u)).set_ 2 (.int .i64 x.e);have e0:=l.cell 0;have e1:=l.cell 1;have e2:=l.cell 2;refine bodyPost_ret (v:=.tuple #[.agg #[.bool x.neg,.slice t x.d.length u,.int .i64 x.e],.bool b]) (by rw[results_cell_tmp rfl];go_simp) rfl ?_;have D:r.isSome=b:=by
  rw[i.out,<-C.out];by_cases h:t2=s.length
  ·rw[if_pos h];simp[h]
  ·rw[if_neg h];simp[h]
 unfold zcb;rw[HGB.out,D];have B:=((f.out.setCell (p:=⟨gb,0,none⟩) (fun e=>absurd (f.out.lt _ e).1 (by simp)) (.bool x.neg)).setCell (p:=⟨gb,1,none⟩) (fun e=>absurd (f.out.lt _ e).1 (by simp)) (.slice t x.d.length u)).setCell (p:=⟨gb,2,none⟩) (fun e=>absurd (f.out.lt _ e).1 (by simp)) (.int .i64 x.e);refine⟨x,_,rfl,⟨t,u,rfl,B.lower (by omega)⟩,fun y z=>?_,((g.out.2.setCell (p:=⟨gb,0,none⟩) (by simp) _).setCell (p:=⟨gb,1,none⟩) (by simp) _).setCell (p:=⟨gb,2,none⟩) (by simp) _⟩;rw[i.out]at z;split at z
 ·injection z
 ·cases z
def moF (x:Gr.Mo):Nat->Nat:=fun j=>match j with
 | 0=>x.y
 | 1=>x.m
 | 2=>x.d
 | 3=>x.h
 | 4=>x.mi
 | 5=>x.c
 | 6=>x.zh
 |_=>x.zm
def moSh (x:Gr.Mo):Nat:=(if x.date=true then 1 else 0)+(if x.time=true then 2 else 0)
def moC (x:Gr.Mo):Array Value:=mC (moSh x) (moF x) x.nanos x.z.toNat
def rdT (s:Gr.Str):Option (Array Value):=(Gr.rd s).map moC
theorem zg0 {sh nn z:Nat} {f g:Nat->Nat} (h:∀j,j<8->f j=g j):mC sh f nn z=mC sh g nn z:=by
 simp[mC,h 0 (by omega),h 1 (by omega),h 2 (by omega),h 3 (by omega),h 4 (by omega),h 5 (by omega),h 6 (by omega),h 7 (by omega)]
theorem lt8 {P:Nat->Prop} (h:P 0/\P 1/\P 2/\P 3/\P 4/\P 5/\P 6/\P 7):∀j,j<8->P j:=by
 grind
theorem zh6 {s:Gr.Str} (h:∀h2:2<s.length,(s[2]'h2).toNat=58):dateAt s=none:=by
 unfold dateAt;have:numAt s 0 4=none:=by
  rcases Nat.lt_or_ge s.length 4 with hl|hl
  ·exact zc1 s 0 4 (by omega)
  ·exact zdg s 0 4 2 (by omega) (by omega) (by rw[(zdw _ 58 (h (by omega))).1];decide)
 rw[this]
theorem zg1 {s:Gr.Str} (hl:2<s.length) (h:(s[2]'hl).toNat≠58):clockAt s 0=none:=by
 unfold clockAt;split
 ·rw[if_neg];rw[zbr (p:=0+2) hl rfl];simp;intro e;exact absurd e h
 ·rfl
theorem zvu {s:Gr.Str} (hd:dateAt s=none):ClockT s 0 (fun _=>0) 0 (rdT s) where
 no h:=by unfold rdT Gr.rd;rw[hd];simp only;rw[h];rfl
 yes k f' h h3 h4 h5 hf:=by
  unfold rdT Gr.rd finO;rw[hd];simp only;rw[h];simp only;by_cases hs:k.stop=s.length
  ·rw[if_pos hs,if_pos hs];show some _=some _
   congr 1
   exact zg0 (lt8 ⟨(hf 0 (by omega)).symm,(hf 1 (by omega)).symm,(hf 2 (by omega)).symm,h3.symm,h4.symm,h5.symm,(hf 6 (by omega)).symm,(hf 7 (by omega)).symm⟩)
  ·grind
theorem zvv {s:Gr.Str} {g:Nat->Nat} (hd:dateAt s=some (g 0,g 1,g 2)) (h10:s.length≠10) (hsep:(isAt s 10 84 || isAt s 10 32)=true) (h6:g 6=0) (h7:g 7=0):ClockT s 1 g 11 (rdT s) where
 no h:=by unfold rdT Gr.rd;rw[hd];simp only;rw[if_neg h10,if_pos hsep,h];rfl
 yes k f' h h3 h4 h5 hf:=by
  unfold rdT Gr.rd finO;rw[hd];simp only;rw[if_neg h10,if_pos hsep,h];simp only;have hle:=zk0 (kh:=k.h) (km:=k.m) (kc:=k.s) (kf:=k.nanos) (ks:=k.stop) h;by_cases hs:k.stop=s.length
  ·rw[if_pos hs,if_pos hs];show some _=some _
   congr 1
   exact zg0 (lt8 ⟨(hf 0 (by omega)).symm,(hf 1 (by omega)).symm,(hf 2 (by omega)).symm,h3.symm,h4.symm,h5.symm,((hf 6 (by omega)).trans h6).symm,((hf 7 (by omega)).trans h7).symm⟩)
  ·rw[if_neg hs,if_neg hs,if_pos ⟨by trivial,by omega⟩];cases hz:zoneAt s k.stop with
   |none=>rfl
   |some z=>
    simp only;by_cases hzs:z.stop=s.length
    ·rw[if_pos hzs,if_pos hzs];show some _=some _
     congr 1
     exact zg0 (lt8 ⟨(hf 0 (by omega)).symm,(hf 1 (by omega)).symm,(hf 2 (by omega)).symm,h3.symm,h4.symm,h5.symm,rfl,rfl⟩)
    ·rw[if_neg hzs,if_neg hzs];rfl
open _root_.Go.Lib (hid)
noncomputable def osP (n:Int) (nanos:Nat):Gr.Str×Nat:=if n< -62167219200\/253402300800<=n then([],13)else(momS (n /86400) (n%86400).toNat nanos,0)
def zc3 (r:Gr.Str×Nat) (w:World) (e:Ending) (w':World):Prop:=e=.returned (.tuple #[.string ⟨r.1.toArray⟩,.int .i64 (r.2:Nat)])/\Below w.heap.size w w'
theorem zs5 {n:Int} {y m d:Int} (hv:Cal.vld y m d=true) (hn:Cal.num y m d=n):∃a b c:Nat,y=a/\m=b/\d=c/\a<=9999/\b<=99/\c<=99/\dateOf n=(a,b,c):=by
 have h:=Cal.zou hv;have hd:=Cal.zxh y m;refine⟨y.toNat,m.toNat,d.toNat,by omega,by omega,by omega,by omega,by omega,by omega,?_⟩;apply zht
 ·rw[show((y.toNat:Nat):Int)=y from by omega,show((m.toNat:Nat):Int)=m from by omega,show((d.toNat:Nat):Int)=d from by omega];exact hv
 ·rw[show((y.toNat:Nat):Int)=y from by omega,show((m.toNat:Nat):Int)=m from by omega,show((d.toNat:Nat):Int)=d from by omega,hn]
theorem zyj (n:Int):-86400<n.tmod 86400/\n.tmod 86400<86400/\n=86400*n.tdiv 86400+n.tmod 86400:=by
 have h1:=Int.mul_tdiv_add_tmod n 86400;have h2:=Int.tmod_lt_of_pos n (b:=86400) (by omega);have a:=Int.tmod_lt_of_pos (-n) (b:=86400) (by omega);rw[Int.neg_tmod]at a;omega
theorem zg2 (n:Int) (nanos:Nat) (j:Int) (hj:j=(nanos:Int)) (hna:nanos<=999999999) (h0:-900000000000<=n) (h1:n<=900000000000) (w:World) (hT:UT w):
 Calls prog 94 #[.int .i64 n,.int .i64 j] w (zc3 (osP n nanos) w):=by
 subst hj;have Z:=hid hT;clear hT;have hna0:¬(nanos:Int)<0:=by omega
 have hna1:¬(999999999:Int)<(nanos:Int):=by omega
 by_cases hlo:n< -62167219200
 ·have x:Hid (osP n nanos=([],13)):=hid (by unfold osP;rw[if_pos (.inl hlo)]);rw[x.out];go_enter func94,ntmps94;go_wp2;go_ret2;exact⟨rfl,Below.refl _ _⟩
 ·by_cases hhi:253402300800<=n
  ·have x:Hid (osP n nanos=([],13)):=hid (by unfold osP;rw[if_pos (.inr hhi)]);rw[x.out];go_enter func94,ntmps94;go_wp2;go_ret2;exact⟨rfl,Below.refl _ _⟩
  ·obtain⟨D,G⟩:=ex (n /86400)
   obtain⟨R,U⟩:∃R:Nat,(n%86400).toNat=R:=⟨_,rfl⟩
   have H:-719528<=D:=by omega
   have L:D<=2932896:=by omega
   have hR1:R<=86399:=by omega
   have F:Hid (n /86400=D/\n%86400=(R:Int)):=hid ⟨G,by omega⟩;obtain⟨M,K⟩:=ex (momS D R nanos)
   have HM:=hid K;have x:Hid (osP n nanos=(M,0)):=hid (by unfold osP;rw[if_neg (by omega),G,U,K]);rw[x.out];have J:=hid (fun W=>zs4 D H L W);clear G U K;go_enter func94,ntmps94;go_upto_region 5 with fail;go_cut [6,7] (fun s6 s7 O=>(∃q t:Int,s6=.int .i64 q/\s7=.int .i64 t/\Hid (n=86400*q+t/\-86400<t/\t<86400))/\O=w)
   case first=>
    by_cases hn0:0<=n
    ·go_wp2;go_meet;exact⟨⟨_,_,rfl,rfl,hid ⟨by omega,by omega,by omega⟩⟩,rfl⟩
    ·have A:=hid (zyj n);go_wp2;go_meet;exact⟨⟨_,_,rfl,rfl,hid ⟨A.out.2.2,A.out.1,A.out.2.1⟩⟩,rfl⟩
   case rest=>
   obtain⟨⟨q,t,rfl,rfl,f⟩,rfl⟩:=hcut;refine(‹∀(a:Act) (w_1:World),Code.wp prog _ _ a w_1->_›) _ _ ?_;have t0:-86400<t:=f.out.2.1;have t1:t<86400:=f.out.2.2;have Y:-11000000<=q:=by have:=f.out;omega
   have q1:q<=11000000:=by have:=f.out;omega
   go_upto_if 30 with fail;go_cut [6,7] (fun s6 s7 O=>s6=.int .i64 D/\s7=.int .i64 (R:Int)/\O=wc)
   case first=>
    by_cases ht:t<0
    ·have z:Hid (q-1=D/\t+86400=(R:Int)):=hid (by have h1:=f.out;have P:=F.out;omega);go_wp2;go_meet;rw[z.out.1,z.out.2];exact⟨rfl,rfl,rfl⟩
    ·have z:Hid (q=D/\t=(R:Int)):=hid (by have h1:=f.out;have P:=F.out;omega);go_wp2;go_meet;rw[z.out.1,z.out.2];exact⟨rfl,rfl,rfl⟩
   case rest=>
   obtain⟨rfl,rfl,rfl⟩:=hcut;refine(‹∀(a:Act) (w_1:World),Code.wp prog _ _ a w_1->_›) _ _ ?_;clear t0 t1 Y q1;go_wp2_with fail;refine(J.out _).mono ?_;rintro e Q ⟨y,m,d,rfl,T,h,p⟩;obtain⟨a,b,c,rfl,rfl,rfl,ha,A,hc,E⟩:=zs5 T h;obtain⟨i,r⟩:∃i:Nat,R /3600=i:=⟨_,rfl⟩
   obtain⟨o,B⟩:∃o:Nat,R /60%60=o:=⟨_,rfl⟩
   obtain⟨k,v⟩:∃k:Nat,R%60=k:=⟨_,rfl⟩
   have i1:(R:Int) /3600=(i:Int):=by omega
   have i2:(R:Int) /60%60=(o:Int):=by omega
   have i3:(R:Int)%60=(k:Int):=by omega
   have u:Hid (∀W,UT W->Calls prog 128 #[.agg #[.int .i64 3,.int .i64 (a:Int),.int .i64 (b:Int),.int .i64 (c:Int),.int .i64 (i:Int),.int .i64 (o:Int),.int .i64 (k:Int),.int .i64 0,.int .i64 0,.int .i64 (nanos:Int),.int .u8 0]] W fun e X=>e=.returned (.string ⟨(dateS a b c++[84]++clkS i o k nanos).toArray⟩)/\Below W.heap.size W X):=hid (fun W hW=>zpu a b c i o k nanos 0 0 0 ha A hc (by omega) (by omega) (by omega) hna W hW);have C:Hid (M=(dateS a b c++[84]++clkS i o k nanos)++[90]):=hid (by rw[<-HM.out];unfold momS;rw[E,r,B,v];simp);obtain⟨S,I⟩:=ex (dateS a b c++[84]++clkS i o k nanos)
   have hSl:S.length<=1000:=by
    rw[<-I];have P:(nanoS nanos).length<=10:=by
     unfold nanoS;split
     ·simp
     ·unfold trimZ;rw[List.length_cons,List.length_reverse];have:=(List.dropWhile_sublist (fun c:UInt8=>c==48) (l:=(Gr.pd 9 nanos).reverse)).length_le;rw[List.length_reverse,za3]at this;omega
    simp[dateS,clkS,za3];omega
   rw[I]at u C;have g:Hid (Below wc.heap.size wc Q/\UT Q):=hid ⟨p,UT.stays _ _ Z.out p⟩;have hadd:=fun W=>zac S [90] (by simp;omega) W
   clear T h E r B v I p;go_wp2_with fail;refine(u.out _ (UT.stays _ _ g.out.2 ((Below.refl _ _).alloc (Nat.le_refl _) _))).mono ?_;rintro e V ⟨rfl,s⟩;have N:Hid (Below wc.heap.size wc V):=hid ((g.out.1.alloc g.out.1.size _).trans (s.mono (by have:=g.out.1.size;simp;omega)));clear s;go_wp2;go_ret2;unfold zc3;rw[C.out];exact⟨rfl,N.out⟩
theorem zh9 (date time zone:Bool) (y m d h mi c nanos off:Int) (late:Bool) (h0:0<=y) (h1:y<=9999) (h2:1<=m) (h3:m<=12) (h4:0<=d) (h5:d<=1000) (h6:0<=h) (h7:h<=1000) (h8:0<=mi) (h9:mi<=1000) (h10:0<=c) (h11:c<=1000) (h12:-1000000<=off) (h13:off<=1000000) (w:World):
 Calls prog 132 #[.agg #[.bool date,.bool time,.bool zone,.int .i64 y,.int .i64 m,.int .i64 d,.int .i64 h,.int .i64 mi,.int .i64 c,.int .i64 nanos,.int .i64 off,.bool late]] w fun e w'=>e=.returned (.int .i64 (86400*Cal.num y m d+3600*h+60*mi+c-off))/\Below w.heap.size w w':=by
 have s:=Lib.hid (fun W=>zh2 y m d h0 (by omega) h2 h3 h4 h5 W);have l:=Cal.zxf y h0 (by omega);have j:=Cal.zxj y m;have k:-800000<=Cal.num y m d:=by unfold Cal.num;omega
 have r:Cal.num y m d<=4000000:=by unfold Cal.num;omega
 obtain⟨q,t⟩:=ex (Cal.num y m d)
 rw[t]at s k r ⊢;clear l j t;go_enter func132,ntmps132;go_upto_region 1 with fail;obtain⟨f,g⟩:=ex w.heap.size
 obtain⟨b,i⟩:∃b,b=w.alloc (.cells #[.bool date,.bool time,.bool zone,.int .i64 y,.int .i64 m,.int .i64 d,.int .i64 h,.int .i64 mi,.int .i64 c,.int .i64 nanos,.int .i64 off,.bool late] 111):=⟨_,rfl⟩
 have a:Hid (Blk b f 111 (T12 date time zone y m d h mi c nanos off late)/\Below f w b):=Lib.hid (by rw[i,<-g];exact⟨Blk.new _ _ _,(Below.refl _ _).alloc (Nat.le_refl _) _⟩);have o:=Lib.hid g;(try rw[<-i]);(try rw[g]);clear i g;have v:∀W:WB b.heap.size b,W.w.cell? ⟨f,3,none⟩=some (.int .i64 y):=fun W=>(W.h.cell (p:=⟨f,3,none⟩) a.out.1.lt).trans (a.out.1.cell 3)
 have z:∀W:WB b.heap.size b,W.w.cell? ⟨f,4,none⟩=some (.int .i64 m):=fun W=>(W.h.cell (p:=⟨f,4,none⟩) a.out.1.lt).trans (a.out.1.cell 4)
 have x:∀W:WB b.heap.size b,W.w.cell? ⟨f,5,none⟩=some (.int .i64 d):=fun W=>(W.h.cell (p:=⟨f,5,none⟩) a.out.1.lt).trans (a.out.1.cell 5)
 have B:∀W:WB b.heap.size b,W.w.cell? ⟨f,6,none⟩=some (.int .i64 h):=fun W=>(W.h.cell (p:=⟨f,6,none⟩) a.out.1.lt).trans (a.out.1.cell 6)
 have C:∀W:WB b.heap.size b,W.w.cell? ⟨f,7,none⟩=some (.int .i64 mi):=fun W=>(W.h.cell (p:=⟨f,7,none⟩) a.out.1.lt).trans (a.out.1.cell 7)
 have D:∀W:WB b.heap.size b,W.w.cell? ⟨f,8,none⟩=some (.int .i64 c):=fun W=>(W.h.cell (p:=⟨f,8,none⟩) a.out.1.lt).trans (a.out.1.cell 8)
 have n:∀W:WB b.heap.size b,W.w.cell? ⟨f,10,none⟩=some (.int .i64 off):=fun W=>(W.h.cell (p:=⟨f,10,none⟩) a.out.1.lt).trans (a.out.1.cell 10)
 have x1:IntKind.i64.wrap (86400*q)=86400*q:=IntWalk.i64_in _ (by omega);have x2:IntKind.i64.wrap (3600*h)=3600*h:=IntWalk.i64_in _ (by omega);have x3:IntKind.i64.wrap (86400*q+3600*h)=86400*q+3600*h:=IntWalk.i64_in _ (by omega);have x4:IntKind.i64.wrap (60*mi)=60*mi:=IntWalk.i64_in _ (by omega);have x5:IntKind.i64.wrap (86400*q+3600*h+60*mi)=86400*q+3600*h+60*mi:=IntWalk.i64_in _ (by omega);have x6:IntKind.i64.wrap (86400*q+3600*h+60*mi+c)=86400*q+3600*h+60*mi+c:=IntWalk.i64_in _ (by omega);have x7:IntKind.i64.wrap (86400*q+3600*h+60*mi+c-off)=86400*q+3600*h+60*mi+c-off:=IntWalk.i64_in _ (by omega);refine zaa b.heap.size b (by kernel_rfl) (by kernel_rfl) (Below.refl _ _) ?_
 iterate 23 (try go_big_quiet_step ((with_reducible refine Calls.grow ((s.out _).mono (fun _ _ ⟨A,E⟩=>⟨A,E▸WB.h _⟩)))))
 refine wpQuiet_nil ?_;rintro _ ⟨u,rfl⟩;clear v z x B C D n;go_wp2;go_ret;rw[o.out];exact⟨rfl,a.out.2.trans (u.h.mono (Nat.le_of_lt a.out.1.lt))⟩
end Go.Proofs.YtoigpackhninoaaGreatDoor
