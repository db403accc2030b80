import Derived.Test.YtpjmhafmeieloabGreatDoorZ07
import Derived.Test.YtpjmhafmeieloabGreatDoorZ20
namespace Go.Proofs.YtpjmhafmeieloabGreatDoor
open Go.RowKit
def compL (z gb b0 b1 b2 r0 r1 r2:Nat):TL:=⟨z+1+1+1+1,b0,b1,z+1,z+1+1+1,z+1+1+1+1+1,gb,z,b2,r0,r1,r2,z+1+1⟩
theorem zl6 (B z gb b0 b1 b2 r0 r1 r2:Nat) (A:Option Addr) (c:Nat) (root:Int) (vs:List NV) (ns:List Gr.Nd) (wr W:World) (hz:wr.heap.size=z)
 (hW:((((((wr.alloc (.cells #[.slice none 0 0] 38)).alloc (.cells #[.slice none 0 0] 38)).alloc (.cells (bcells (List.replicate ns.length false)) 4)).alloc (.cells #[.slice (some ⟨z+1+1,0,none⟩) ns.length ns.length] 54)).alloc (.cells #[.int .i64 0] 3)).alloc (.cells #[(compL z gb b0 b1 b2 r0 r1 r2).fn] 70))=W)
 (hI:Blk wr b0 38 #[.slice (some ⟨r0,0,none⟩) ns.length ns.length]) (hL:Blk wr b1 38 #[.slice (some ⟨r1,0,none⟩) ns.length ns.length]) (hC:Blk wr b2 38 #[.slice (some ⟨r2,0,none⟩) ns.length ns.length])
 (hrI:Blk wr r0 3 (icells (List.replicate ns.length 0))) (hrL:Blk wr r1 3 (icells (List.replicate ns.length 0))) (hrC:Blk wr r2 3 (jcells (List.replicate ns.length (-1))))
 (hG:Blk wr gb 27 #[.slice A ns.length c,.int .i64 root]) (h01:r0≠r1) (h02:r0≠r2) (h12:r1≠r2) (hB:B<=z) (hB0:B<=r0) (hB1:B<=r1) (hB2:B<=r2) (hat:GAt wr B A vs ns):
 TAt (compL z gb b0 b1 b2 r0 r1 r2) B (z+1+1+1+1+1+1) A c root vs ns W (Gr.tzero ns.length) (.slice none 0 0) (.slice none 0 0)/\Below wr.heap.size wr W/\W.heap.size=z+1+1+1+1+1+1:=by
 have l:Below wr.heap.size wr W:=by rw[<-hW];exact((((((Below.refl _ _).alloc (Nat.le_refl _) _).alloc (by simp) _).alloc (by simp;omega) _).alloc (by simp;omega) _).alloc (by simp;omega) _).alloc (by simp;omega) _
 have d:W.heap.size=z+1+1+1+1+1+1:=by rw[<-hW];simp[hz]
 have g:=hI.lt;have h:=hL.lt;have f:=hC.lt;have b:=hrI.lt;have m:=hrL.lt;have o:=hrC.lt;have p:Blk W z 38 #[.slice none 0 0]:=by rw[<-hW,<-hz];exact(((((Blk.new _ _ _).alloc _).alloc _).alloc _).alloc _).alloc _
 have q:Blk W (z+1) 38 #[.slice none 0 0]:=by
  rw[<-hW];have:=Blk.new (wr.alloc (.cells #[.slice none 0 0] 38)) 38 #[.slice none 0 0];rw[World.size_alloc,hz]at this;exact(((this.alloc _).alloc _).alloc _).alloc _
 have a:Blk W (z+1+1) 4 (bcells (List.replicate ns.length false)):=by
  rw[<-hW];have:=Blk.new ((wr.alloc (.cells #[.slice none 0 0] 38)).alloc (.cells #[.slice none 0 0] 38)) 4 (bcells (List.replicate ns.length false));simp only[World.size_alloc,hz]at this;exact(((this.alloc _).alloc _).alloc _)
 have j:Blk W (z+1+1+1) 54 #[.slice (some ⟨z+1+1,0,none⟩) ns.length ns.length]:=by
  rw[<-hW];have:=Blk.new (((wr.alloc (.cells #[.slice none 0 0] 38)).alloc (.cells #[.slice none 0 0] 38)).alloc (.cells (bcells (List.replicate ns.length false)) 4)) 54 #[.slice (some ⟨z+1+1,0,none⟩) ns.length ns.length];simp only[World.size_alloc,hz]at this;exact((this.alloc _).alloc _)
 have n:Blk W (z+1+1+1+1) 3 #[.int .i64 0]:=by
  rw[<-hW];have:=Blk.new ((((wr.alloc (.cells #[.slice none 0 0] 38)).alloc (.cells #[.slice none 0 0] 38)).alloc (.cells (bcells (List.replicate ns.length false)) 4)).alloc (.cells #[.slice (some ⟨z+1+1,0,none⟩) ns.length ns.length] 54)) 3 #[.int .i64 0];simp only[World.size_alloc,hz]at this;exact(this.alloc _)
 have i:Blk W (z+1+1+1+1+1) 70 #[(compL z gb b0 b1 b2 r0 r1 r2).fn]:=by
  rw[<-hW];have:=Blk.new (((((wr.alloc (.cells #[.slice none 0 0] 38)).alloc (.cells #[.slice none 0 0] 38)).alloc (.cells (bcells (List.replicate ns.length false)) 4)).alloc (.cells #[.slice (some ⟨z+1+1,0,none⟩) ns.length ns.length] 54)).alloc (.cells #[.int .i64 0] 3)) 70 #[(compL z gb b0 b1 b2 r0 r1 r2).fn];simp only[World.size_alloc,hz]at this;exact this
 refine⟨⟨⟨?_,?_,?_,h01,h02,h12,?_,?_,?_,?_,?_,?_,?_,?_,?_,?_,?_,?_,?_,?_,?_⟩,by omega,hI.below l g,hL.below l h,hC.below l f,j,i,hG.below l hG.lt,hat.below (l.mono (by omega)),n,q,p,hrI.below l b,hrL.below l m,hrC.below l o,a,OwnRow.nil,OwnRow.nil,fun k e=>by cases e⟩,l,d⟩
 all_goals (simp only[compL];omega)
open Gr
theorem zhb (s:Gr.Str) (a:Nat):(s.drop a).dropWhile Gr.dig=s.drop (a+(rdg s a).length):=by
 have h:=List.takeWhile_append_dropWhile (p:=Gr.dig) (l:=s.drop a);have b:=congrArg (List.drop (rdg s a).length) h;unfold rdg at b ⊢;rw[List.drop_left,List.drop_drop]at b;exact b
theorem zqg (s:Gr.Str) (a:Nat) (h:a<=s.length):a+(rdg s a).length<=s.length:=by
 have:(rdg s a).length<=(s.drop a).length:=(List.takeWhile_sublist Gr.dig).length_le;rw[List.length_drop]at this;omega
theorem zb6 (s:Gr.Str) (k:Nat):(s.drop k).head?=s[k]? :=by rw[List.head?_drop]
theorem zfe (s:Gr.Str) (k:Nat):(s.drop k).tail=s.drop (k+1):=by rw[List.tail_drop]
theorem zk9 (s:Gr.Str) (a:Nat) (h:0<(rdg s a).length):(rdg s a).head?=s[a]? :=by
 rw[<-zb6];unfold rdg at h ⊢;cases hd:s.drop a with
 |nil=>rw[hd]at h;simp at h
 |cons c l=>
  rw[hd]at h;rw[List.takeWhile_cons]at h ⊢;split
  .rfl
  .grind
theorem zwj (sat:Nat) (neg:Bool) (s:Gr.Str) (a:Nat):numT sat neg (s.drop a)=if rdg s a=[]\/(s[a]? =some 48/\1<(rdg s a).length)then none
 else if s[a+(rdg s a).length]? =some 46 then
  if rdg s (a+(rdg s a).length+1)=[]then none else expS sat neg (vals (rdg s a)++vals (rdg s (a+(rdg s a).length+1))) (-((rdg s (a+(rdg s a).length+1)).length:Int)) (s.drop (a+(rdg s a).length+1+(rdg s (a+(rdg s a).length+1)).length))
 else expS sat neg (vals (rdg s a)) 0 (s.drop (a+(rdg s a).length)):=by
 unfold numT;have d:(s.drop a).takeWhile Gr.dig=rdg s a:=rfl;rw[d,zhb,zb6,zfe,zhb];have c:(s.drop (a+(rdg s a).length+1)).takeWhile Gr.dig=rdg s (a+(rdg s a).length+1):=rfl;rw[c];have b:vals (rdg s a++rdg s (a+(rdg s a).length+1))=vals (rdg s a)++vals (rdg s (a+(rdg s a).length+1)):=by simp[vals]
 rw[b];by_cases h0:rdg s a=[]
 .grind
 .rw[zk9 s a (List.length_pos_iff.2 h0)]
theorem zwk (sat:Nat) (neg:Bool) (d:List Nat) (e:Int) (s:Gr.Str) (t:Nat) (ht:t<=s.length) (h1:s[t]? ≠some 101) (h2:s[t]? ≠some 69):expS sat neg d e (s.drop t)=if t=s.length then some (norm neg d e)else none:=by
 unfold expS;rw[zb6];by_cases h:t=s.length
 .grind
 .rw[if_neg (by intro e;have:=congrArg List.length e;simp at this;omega),if_neg (fun e=>e.elim h1 h2),if_neg h]
theorem zj1 (s:Gr.Str) (b:Nat) (hb:b<=s.length):(s.drop b).all Gr.dig=true↔b+(rdg s b).length=s.length:=by
 constructor
 .intro h;have:rdg s b=s.drop b:=by
   unfold rdg;have:=List.takeWhile_append_of_pos (p:=Gr.dig) (l₁:=s.drop b) (l₂:=[]) (by simpa using h);simpa using this
  rw[this,List.length_drop];omega
 .intro h;have a:=List.takeWhile_append_dropWhile (p:=Gr.dig) (l:=s.drop b);rw[zhb,show s.drop (b+(rdg s b).length)=[]from List.drop_eq_nil_of_le (by omega),List.append_nil]at a;rw[<-a];exact zea _
theorem zqh (s:Gr.Str) (b:Nat) (h:b+(rdg s b).length=s.length):rdg s b=s.drop b:=by
 have a:=List.takeWhile_append_dropWhile (p:=Gr.dig) (l:=s.drop b);rw[zhb,show s.drop (b+(rdg s b).length)=[]from List.drop_eq_nil_of_le (by omega),List.append_nil]at a;exact a
theorem zwl (sat:Nat) (neg:Bool) (d:List Nat) (e:Int) (s:Gr.Str) (t b:Nat) (minus:Bool) (ht:t<s.length) (h1:s[t]? =some 101\/s[t]? =some 69) (hb:b=if s[t+1]? =some 45\/s[t+1]? =some 43 then t+2 else t+1) (hm:minus=decide (s[t+1]? =some 45)) (hbl:b<=s.length):
 expS sat neg d e (s.drop t)=if rdg s b=[]then none else if b+(rdg s b).length=s.length then some (norm neg d (e+(if minus=true then -1 else 1)*(satv sat (rdg s b):Int)))else none:=by
 unfold expS;rw[if_neg (by intro e;have:=congrArg List.length e;simp at this;omega),zb6,if_pos h1,zfe];have c:expT (s.drop (t+1))=s.drop b:=by
  unfold expT;rw[zb6,zfe,hb];split<;>rfl
 have f:expV sat (s.drop (t+1))=(if minus=true then -1 else 1)*(satv sat (s.drop b):Int):=by
  unfold expV;rw[c,zb6,hm];by_cases h:s[t+1]? =some 45
  .grind
  .grind
 rw[c,f];by_cases he:rdg s b=[]
 .rw[if_pos he,if_pos];rcases Nat.lt_or_ge b s.length with h|h
  .right;rw[Bool.eq_false_iff];intro a;have:=(zj1 s b hbl).1 a;rw[he]at this;simp at this;omega
  .grind
 .rw[if_neg he];by_cases a:b+(rdg s b).length=s.length
  .rw[if_pos a,if_neg,zqh s b a];rintro(h|h)
   .rw[<-zqh s b a]at h;exact he h
   .rw[(zj1 s b hbl).2 a]at h;cases h
  .rw[if_neg a,if_pos];right;rw[Bool.eq_false_iff];exact fun h=>a ((zj1 s b hbl).1 h)
open _root_.Go.Proofs.Tryz
set_option maxRecDepth 100000
set_option maxHeartbeats 16000000
def zcd (o:Option Gr.Dn) (w:World) (e:Ending) (w':World):Prop:=∃x v,e=.returned (.tuple #[v,.bool o.isSome])/\NumI x v w.heap.size w'/\(∀y,o=some y->x=y)/\Below w.heap.size w w'
theorem zqi (s:Gr.Str) (_hl:s.length<=268435455) (w wc:World) (gb n c t2:Nat) (A:Option Addr) (neg:Bool) (ev2:Int) (ds:List Nat) (r:Option Gr.Dn) (HGB:Hid (w.heap.size=gb))
 (HT:Hid (n=ds.length/\ds.length<=536870911/\(∀v∈ds,v<10))) (HE2:Hid (t2<=s.length/\-1152921504606846976<=ev2/\ev2<=1152921504606846976/\r=if t2=s.length then some (Gr.norm neg ds ev2)else none)) (HO2:Hid (OwnRow intL wc (gb+1) 3 (.slice A n c) ds)) (HB2:Hid (Blk wc gb 134 #[.bool false,.slice none 0 0,.int .i64 0]/\Below gb w wc))
 {u1 u3 u7 u9 u10 u11 u12 u13 u14 u15 u16 u17 u18 u19 u20 u21 u22 u23 u24 u25 u26 u27 u28 u29 u30 u31 u32 u33 u34 u35 u36 u37 u38 u39 u40 u41 u42 u43 u44 u45 u46 u47 u48 u49 u50 u51 u52 u53 u54 u55 u56 u57 u58 u59 u60 u61 u62 u63 u64 u65 u66 u67 u68 u69 u70 u71 u72 u73 u74 u75 u76 u77 u78 u79 u80 u81 u82 u83 u84 u85 u86 u87 u88 u89 u90 u91 u92 u93 u94 u95 u96 u97 u98 u99 u100 u101 u102 u103 u104 u105 u106 u107 u108 u109 u110 u111 u112 u113 u114 u115 u116 u117 u118 u119 u120 u121 u122 u123 u124 u125 u126 u127 u128 u129 u130 u131 u132 u133 u134 u135 u136 u137 u138 u139 u140 u141 u142 u143 u144 u145 u146 u147 u148 u149 u150 u151 u152 u153 u154:Value}:
 Code.wp prog (tl 10 (f116.body.getD .skip)) (bodyPost prog f116 (zcd r w)) {tmps:=List.toArray (.string ⟨s.toArray⟩::u1::.pointer (some ⟨gb,0,none⟩)::u3::.int .i64 (t2:Int)::.bool neg::.slice A n c::u7::.int .i64 ev2::u9::u10::u11::u12::u13::u14::u15::u16::u17::u18::u19::u20::u21::u22::u23::u24::u25::u26::u27::u28::u29::u30::u31::u32::u33::u34::u35::u36::u37::u38::u39::u40::u41::u42::u43::u44::u45::u46::u47::u48::u49::u50::u51::u52::u53::u54::u55::u56::u57::u58::u59::u60::u61::u62::u63::u64::u65::u66::u67::u68::u69::u70::u71::u72::u73::u74::u75::u76::u77::u78::u79::u80::u81::u82::u83::u84::u85::u86::u87::u88::u89::u90::u91::u92::u93::u94::u95::u96::u97::u98::u99::u100::u101::u102::u103::u104::u105::u106::u107::u108::u109::u110::u111::u112::u113::u114::u115::u116::u117::u118::u119::u120::u121::u122::u123::u124::u125::u126::u127::u128::u129::u130::u131::u132::u133::u134::u135::u136::u137::u138::u139::u140::u141::u142::u143::u144::u145::u146::u147::u148::u149::u150::u151::u152::u153::u154::[]),defers:=[]} wc:=by
 generalize hc0:tl 10 (f116.body.getD .skip)=c0;simp only[tl,f116,Option.getD_some]at hc0;subst hc0;have D:=HO2.out.form;have m:n=ds.length:=HT.out.1;have E:Hid (∀W,Below wc.heap.size wc W->W=wc->Calls prog 149 #[.bool neg,.slice A n c,.int .i64 ev2] W (zfd (Gr.norm neg ds ev2) W)):=Lib.hid (fun W _ J=>by
  subst J;obtain⟨A',c',I,q⟩:=HO2.out.form;rw[m]at I ⊢;injection I with e1 e2 e3
  subst e1;exact zqf neg A c ds ev2 (by have:=HT.out.2.1;omega) HE2.out.2.1 HE2.out.2.2.1 HT.out.2.2 W q)
 have k:=Lib.hid HE2.out.2.2.2;have ht2s:t2<=s.length:=HE2.out.1;obtain⟨b,a⟩:=ex (decide (t2=s.length))
 have hfb:((t2:Int)==(s.length:Int))=b:=by
  rw[<-a,Bool.eq_iff_iff];simp;omega
 have hfb2:(t2==s.length)=b:=by
  rw[<-a,Bool.eq_iff_iff];simp
 have G:=Lib.hid a;clear D m a HT HE2;go_wp2_with fail;refine(E.out wc (Below.refl _ _) rfl).mono ?_;rintro e F ⟨v,rfl,⟨u,t,rfl,o⟩,i⟩;have g:Hid (Blk F gb 134 #[.bool false,.slice none 0 0,.int .i64 0]/\Below gb w F):=Lib.hid ⟨HB2.out.1.below i HB2.out.1.lt,HB2.out.2.trans (i.mono (Nat.le_of_lt HB2.out.1.lt))⟩;have f:=Lib.hid (o.lower (show gb+1<=wc.heap.size from HB2.out.1.lt));have p0:∀j,F.frozen? ⟨gb,j,none⟩=false:=g.out.1.frozen;obtain⟨q0,q1,q2⟩:=cells3 g.out.1;obtain⟨x,H⟩:=ex (Gr.norm neg ds ev2)
 rw[H]at f k ⊢;clear H o i;go_wp2_with fail;have l:=((g.out.1.set_ 0 (.bool x.neg)).set_ 1 (.slice u x.d.length t)).set_ 2 (.int .i64 x.e);have e0:=l.cell 0;have e1:=l.cell 1;have e2:=l.cell 2;refine bodyPost_ret (v:=.tuple #[.agg #[.bool x.neg,.slice u x.d.length t,.int .i64 x.e],.bool b]) (by rw[results_cell_tmp rfl];go_simp) rfl ?_;have B:r.isSome=b:=by
  rw[k.out,<-G.out];by_cases h:t2=s.length
  .rw[if_pos h];simp[h]
  .rw[if_neg h];simp[h]
 unfold zcd;rw[HGB.out,B];have C:=((f.out.setCell (p:=⟨gb,0,none⟩) (fun e=>absurd (f.out.lt _ e).1 (by simp)) (.bool x.neg)).setCell (p:=⟨gb,1,none⟩) (fun e=>absurd (f.out.lt _ e).1 (by simp)) (.slice u x.d.length t)).setCell (p:=⟨gb,2,none⟩) (fun e=>absurd (f.out.lt _ e).1 (by simp)) (.int .i64 x.e);refine⟨x,_,rfl,⟨u,t,rfl,C.lower (by omega)⟩,fun y z=>?_,((g.out.2.setCell (p:=⟨gb,0,none⟩) (by simp) _).setCell (p:=⟨gb,1,none⟩) (by simp) _).setCell (p:=⟨gb,2,none⟩) (by simp) _⟩;rw[k.out]at z;split at z
 .injection z
 .cases z
open _root_.Go.Lib (hid)
theorem zcg (f:Nat) (w:World):(callFunc 111 #[.float .f64 f]).run prog w=.ok (.value (.int .u64 f)) w:=by
 rw[run_callFunc_extern func111 (by kernel_rfl) (by kernel_rfl) (by kernel_rfl) (e:=Extern.MathFloatBits.float64bits) (by kernel_rfl)];rfl
theorem zaz (n:Int) (w:World):(callFunc 101 #[.int .u64 n]).run prog w=.ok (.value (.float .f64 n.toNat)) w:=by
 rw[run_callFunc_extern func101 (by kernel_rfl) (by kernel_rfl) (by kernel_rfl) (e:=Extern.MathFloatBits.float64frombits) (by kernel_rfl)];rfl
theorem zgq (f:Nat) (hf:f<9223372036854775808) (w:World):Calls prog 139 #[.float .f64 f] w fun e w'=>e=.returned (.float .f64 f)/\w=w':=by
 have c1:=fun W=>zcg f W
 have c2:=fun W=>zaz (f:Int) W
 have c3:=zji f hf;go_enter func139,ntmps139;go_wp2;go_ret;exact⟨rfl,rfl⟩
theorem zom (f:Nat) (hf:f<9223372036854775808) (w:World):Calls prog 107 #[.float .f64 f] w fun e w'=>e=.returned (.bool false)/\w=w':=by
 have c1:=fun W=>zcg f W
 have h0:(0:Int)<=(f:Int):=by omega
 have h1:(f:Int)<=9223372036854775807:=by omega
 have h2:IntKind.i64.wrap (f:Int)=(f:Int):=IntWalk.i64_in _ (by omega);have h3:decide ((f:Int)<0)=false:=by simp
 go_enter func107,ntmps107;go_wp2;go_ret;exact⟨rfl,rfl⟩
theorem zkq (f:Nat) (hf:f<9223372036854775808) (ho:(FloatKind.f64.format.order f 9218868437227405311==some Ordering.gt)=false) (w:World):Calls prog 108 #[.float .f64 f,.int .i64 0] w fun e w'=>e=.returned (.bool false)/\w=w':=by
 have a:=hid (fun W=>zgq f hf W);go_enter func108,ntmps108;go_wp2_with fail;refine(a.out _).mono ?_;rintro e w1 ⟨rfl,rfl⟩;go_wp2;go_ret;exact⟨rfl,rfl⟩
theorem zsc (f:Nat) (ho:(FloatKind.f64.format.order f f != some Ordering.eq)=false) (w:World):Calls prog 137 #[.float .f64 f] w fun e w'=>e=.returned (.bool false)/\w=w':=by
 go_enter func137,ntmps137;go_wp2;go_ret;exact⟨rfl,rfl⟩
theorem zon (f:Nat) (hf:f<9223372036854775808) (ho:(FloatKind.f64.format.order f 4503599627370496==some Ordering.lt)=false) (w:World):Calls prog 138 #[.float .f64 f] w fun e w'=>e=.returned (.tuple #[.float .f64 f,.int .i64 0])/\w=w':=by
 have a:=hid (fun W=>zgq f hf W);go_enter func138,ntmps138;go_wp2_with fail;refine(a.out _).mono ?_;rintro e w1 ⟨rfl,rfl⟩;go_wp2;go_ret2;exact⟨rfl,rfl⟩
namespace Flt
section
variable {m L:Nat} {e:Int}
theorem Fits.o_max (h:Fits m L e):(FloatKind.f64.format.order (fw m L e) 9218868437227405311==some Ordering.gt)=false:=by
 show(Ieee.double.order (fw m L e) 9218868437227405311==some Ordering.gt)=false;rcases h.order_max with h1|h1<;>rw[h1]<;>rfl
theorem Fits.o_self (h:Fits m L e):(FloatKind.f64.format.order (fw m L e) (fw m L e) != some Ordering.eq)=false:=by
 show(Ieee.double.order (fw m L e) (fw m L e) != some Ordering.eq)=false;rw[h.order_self];rfl
theorem Fits.o_zero (h:Fits m L e):(FloatKind.f64.format.order (fw m L e) 0==some Ordering.eq)=false:=by
 show(Ieee.double.order (fw m L e) 0==some Ordering.eq)=false;rw[h.order_zero];rfl
theorem Fits.at0 (h:Fits m L e):Fits m L 0:=⟨h.odd,h.lo,h.hi,h.len,by omega,by have:=h.len;omega⟩
theorem Fits.o_norm (h:Fits m L 0):(FloatKind.f64.format.order (fw m L 0) 4503599627370496==some Ordering.lt)=false:=by
 show(Ieee.double.order (fw m L 0) 4503599627370496==some Ordering.lt)=false;obtain⟨a,b,c,d,f⟩:=h.sig_bd;have hlen:=h.len;have hlp:lastP L 0=(L:Int)-52:=by unfold lastP;omega
 have c2:4503599627370496<=sig m L 0:=by rcases c with c|c<;>omega
 unfold Ieee.Format.order;have g:Ieee.double.read 4503599627370496=.number false 4503599627370496 (-1074):=by decide
 rw[h.read,g];simp only[Ieee.Datum.order,Ieee.signed,Bool.false_eq_true,if_false];rw[show min (lastP L 0) (-1074)=-1074 from by omega,show((-1074:Int)- -1074).toNat=0 from rfl,Nat.shiftLeft_zero,Nat.shiftLeft_eq];have:sig m L 0<=sig m L 0*2 ^ (lastP L 0- -1074).toNat:=Nat.le_mul_of_pos_right _ (Nat.two_pow_pos _);generalize sig m L 0*2 ^ (lastP L 0- -1074).toNat=N at this;simp only[compare,compareOfLessAndEq];rw[if_neg (by omega)];split<;>rfl
theorem Fits.fw0 (h:Fits m L 0):fw m L 0=(L+1022)*4503599627370496+m*2 ^ (52-L):=by
 have hlen:=h.len;have a:lastP L 0=(L:Int)-52:=by unfold lastP;omega
 unfold fw sig;rw[a,show((L:Int)-52+1074).toNat=L+1022 from by omega,show(0-((L:Int)-52)).toNat=52-L from by omega]
theorem Fits.parts0 (h:Fits m L 0):fw m L 0 /4503599627370496=L+1023/\fw m L 0%4503599627370496=m*2 ^ (52-L)-4503599627370496:=by
 obtain⟨f1,f2⟩:=h.full;rw[h.fw0];omega
end
end Flt
open Flt in
theorem zoo (m L:Nat) (e:Int) (h:Flt.Fits m L e) (f:Nat) (hf:fw m L 0=f) (w:World):Calls prog 106 #[.float .f64 f,.int .i64 e] w fun r w'=>r=.returned (.float .f64 (fw m L e))/\w=w':=by
 have a:=h.at0;have l:=a.fw_lt.2;have t:=a.o_zero;have n:=hid (fun W=>zkq f (by omega) (by rw[<-hf];exact a.o_max) W);have q:=hid (fun W=>zsc f (by rw[<-hf];exact a.o_self) W);have o:=hid (fun W=>zon f (by omega) (by rw[<-hf];exact a.o_norm) W);obtain⟨j,i⟩:=a.parts0;rw[hf]at t j i l;have c1:=fun W=>zcg f W
 have hlen:=h.len;have he0:=h.e0;have he1:=h.e1;have p:=hid h;have i1:(f:Int) /4503599627370496=(L:Int)+1023:=by omega
 have i2:IntKind.i64.wrap ((L:Int)+1023)=(L:Int)+1023:=IntWalk.i64_in _ (by omega);have i3:bits .and .i64 ((L:Int)+1023) 2047=(L:Int)+1023:=by have:=zvm (L+1023) (by omega);simpa using this
 have s:bits .andNot .u64 (f:Int) 9218868437227405312=((m*2 ^ (52-L)-4503599627370496:Nat):Int):=by rw[zlx f (by omega),i]
 have g:m*2 ^ (52-L)-4503599627370496<4503599627370496:=by omega
 by_cases hn:-1022<=e+L
 .obtain⟨X,b⟩:=ex ((e+L+1023).toNat*4503599627370496+(m*2 ^ (52-L)-4503599627370496))
  have c:=p.out.mul_one hn;have k:bits .or .u64 ((m*2 ^ (52-L)-4503599627370496:Nat):Int) ((e+(L:Int)+1023)*4503599627370496)=(X:Int):=by
   have:=zol (m*2 ^ (52-L)-4503599627370496) (e+L+1023).toNat g (by omega);rw[b]at this;rw[show(e+(L:Int)+1023)*4503599627370496=(((e+L+1023).toNat*4503599627370496:Nat):Int)from by omega];exact this
  rw[b]at c;have v:=fun W=>zaz (X:Int) W
  have u:=fun W=>run_float_arith (P:=prog) (w:=W) .mul 90 .f64 4607182418800017408 X (fw m L e) c
  obtain⟨Q,d⟩:=ex (m*2 ^ (52-L)-4503599627370496)
  rw[d]at s k;clear h a hf j i g b c d;go_enter func106,ntmps106;go_wp2_with (first| ((with_reducible refine(n.out _).mono ?_);rintro _ _ ⟨rfl,rfl⟩)| ((with_reducible refine(q.out _).mono ?_);rintro _ _ ⟨rfl,rfl⟩)| ((with_reducible refine(o.out _).mono ?_);rintro _ _ ⟨rfl,rfl⟩));go_ret;exact⟨rfl,rfl⟩
 .obtain⟨X,b⟩:=ex ((e+L+1076).toNat*4503599627370496+(m*2 ^ (52-L)-4503599627370496))
  have c:=p.out.mul_small (by omega);have k:bits .or .u64 ((m*2 ^ (52-L)-4503599627370496:Nat):Int) ((e+(L:Int)+53+1023)*4503599627370496)=(X:Int):=by
   have:=zol (m*2 ^ (52-L)-4503599627370496) (e+L+1076).toNat g (by omega);rw[b]at this;rw[show(e+(L:Int)+53+1023)*4503599627370496=(((e+L+1076).toNat*4503599627370496:Nat):Int)from by omega];exact this
  rw[b]at c;have v:=fun W=>zaz (X:Int) W
  have u:=fun W=>run_float_arith (P:=prog) (w:=W) .mul 90 .f64 4368491638549381120 X (fw m L e) c
  obtain⟨Q,d⟩:=ex (m*2 ^ (52-L)-4503599627370496)
  rw[d]at s k;clear h a hf j i g b c d;go_enter func106,ntmps106;go_wp2_with (first| ((with_reducible refine(n.out _).mono ?_);rintro _ _ ⟨rfl,rfl⟩)| ((with_reducible refine(q.out _).mono ?_);rintro _ _ ⟨rfl,rfl⟩)| ((with_reducible refine(o.out _).mono ?_);rintro _ _ ⟨rfl,rfl⟩));go_ret;exact⟨rfl,rfl⟩
theorem zvh (s:Gr.Str) (a:Nat) (ha:a=if s.head?=some 45 then 1 else 0):intB s=if a=s.length\/s.length-a>400\/((s.drop a).head?=some 48/\s.length>1)then false else(s.drop a).all Gr.dig:=by
 cases s with
 |nil=>subst ha;decide
 |cons c r=>
  by_cases hc:c=45
  .subst hc;obtain rfl:a=1:=by rw[ha];rfl
   cases r with
   |nil=>decide
   |cons d r=>
    have e:intS (45::d::r)=d::r:=by unfold intS;rw[if_pos ⟨by simp,rfl⟩];rfl
    unfold intB;rw[e];simp only[List.drop_succ_cons,List.drop_zero];by_cases h:(d::r).length>400\/((d::r).head?=some 48/\(45::d::r).length>1)
    .rw[if_pos (.inr h),if_pos (.inr (h.imp (fun h=>by simpa using h) id))]
    .rw[if_neg (by rintro(h1|h1);simp at h1;exact h h1),if_neg (by rintro(h1|h1);simp at h1;exact h (h1.imp (fun h=>by simpa using h) id))]
  .obtain rfl:a=0:=by rw[ha,if_neg (by simp[hc])]
   have e:intS (c::r)=c::r:=by unfold intS;rw[if_neg (by simp[hc])]
   unfold intB;rw[e,List.drop_zero];by_cases h:(c::r).length>400\/((c::r).head?=some 48/\(c::r).length>1)
   .rw[if_pos (.inr h),if_pos (.inr (by simpa using h))]
   .rw[if_neg (by rintro(h1|h1);simp at h1;exact h h1),if_neg (by rintro(h1|h1);simp at h1;exact h (by simpa using h1))]
theorem zko (c:UInt8) (b:Nat) (hb:c.toNat=b):Gr.dig c=(decide (48<=b) && decide (b<=57)):=by
 subst hb;unfold Gr.dig;rw[Bool.eq_iff_iff];simp[UInt8.le_iff_toNat_le]
theorem all_at {s:Gr.Str} {a k:Nat} (h:k<s.length) (hak:a<=k) (hd:Gr.dig s[k]=false):(s.drop a).all Gr.dig=false:=by
 rw[List.all_eq_false];refine⟨s[k],?_,by rw[hd];decide⟩;have:s[k]=(s.drop a)[k-a]'(by rw[List.length_drop];omega):=by rw[List.getElem_drop];congr 1;omega
 rw[this];exact List.getElem_mem _
theorem zew (s:Gr.Str) (hl:s.length<=1073741823) (a:Nat) (ha:a<=s.length) (w:World) (r:Bool) (hr:Hid ((s.drop a).all Gr.dig=r)) {u1 u2 u4 u5 u6 u7 u8 u9 u10 u11 u12 u13 u14 u15 u16 u17 u18 u19 u20 u21 u22 u23 u24 u25 u26 u27 u28 u29 u30 u31 u32 u33 u34 u35 u36 u37 u38 u39 u40 u41 u42 u43 u44 u45 u46 u47 u48 u49 u50 u51:Value}:
 Code.wp prog (tl 4 (f88.body.getD .skip)) (bodyPost prog f88 (fun e w'=>e=.returned (.bool r)/\w=w')) {tmps:=List.toArray (.string ⟨s.toArray⟩::u1::u2::.int .i64 (a:Int)::u4::u5::u6::u7::u8::u9::u10::u11::u12::u13::u14::u15::u16::u17::u18::u19::u20::u21::u22::u23::u24::u25::u26::u27::u28::u29::u30::u31::u32::u33::u34::u35::u36::u37::u38::u39::u40::u41::u42::u43::u44::u45::u46::u47::u48::u49::u50::u51::[]),defers:=[]} w:=by
 generalize hc0:tl 4 (f88.body.getD .skip)=c0;simp only[tl,f88,Option.getD_some]at hc0;subst hc0;go_wp2_with fail;go_loop [4] (fun s4=>∃k:Nat,a<=k/\k<=s.length/\s4=.int .i64 (k:Int)/\Hid (∀j (h:j<s.length),a<=j->j<k->Gr.dig s[j]=true)) (fun s4=>s.length-(intOf s4).toNat)
 case atStart=>exact⟨a,Nat.le_refl _,ha,rfl,hid (fun j _ o p=>by omega)⟩
 case round=>
  obtain⟨k,d,hk,rfl,n⟩:=hrel;by_cases hlt:k<s.length
  .have f:(k:Int)<(s.length:Int):=by omega
   obtain⟨b,i⟩:∃b:Nat,(s[k]'hlt).toNat=b:=⟨_,rfl⟩
   have hbv:(((⟨s.toArray⟩:ByteArray)[k]'(by simpa[ByteArray.size]using hlt)).toNat:Int)=(b:Int):=by rw[<-i];rfl
   have c:=hid (zko (s[k]'hlt) b i);clear i;by_cases h48:48<=b
   .have l:¬(b:Int)<48:=by omega
    by_cases h57:b<=57
    .have m:¬(57:Int)<(b:Int):=by omega
     go_wp2;go_round
     case rel=>exact⟨k+1,by omega,by omega,by go_num,hid (fun j h o p=>by
      by_cases e:j=k
      .subst e;rw[c.out];simp[h48,h57]
      .exact n.out j h o (by omega))⟩
     case measure=>simp[intOf];omega
    .have m:(57:Int)<(b:Int):=by omega
     have g:Hid (r=false):=hid (by rw[<-hr.out];exact all_at hlt d (by rw[c.out];simp[h57]));go_wp2;go_ret;rw[g.out];exact⟨rfl,rfl⟩
   .have l:(b:Int)<48:=by omega
    have g:Hid (r=false):=hid (by rw[<-hr.out];exact all_at hlt d (by rw[c.out];simp[h48]));go_wp2;go_ret;rw[g.out];exact⟨rfl,rfl⟩
  .have f:¬(k:Int)<(s.length:Int):=by omega
   have g:Hid (r=true):=hid (by
    rw[<-hr.out,List.all_eq_true];intro x q;obtain⟨j,t,rfl⟩:=List.getElem_of_mem q;rw[List.length_drop]at t;rw[List.getElem_drop];exact n.out (a+j) (by omega) (by omega) (by omega))
   go_wp2;go_ret;rw[g.out];exact⟨rfl,rfl⟩
theorem zc3 (s:Gr.Str) (hl:s.length<=1073741823) (a:Nat) (ha:a<=s.length) (w:World) (r:Bool) (hr:Hid ((if a=s.length\/s.length-a>400\/((s.drop a).head?=some 48/\s.length>1)then false else(s.drop a).all Gr.dig)=r)) {u1 u2 u4 u5 u6 u7 u8 u9 u10 u11 u12 u13 u14 u15 u16 u17 u18 u19 u20 u21 u22 u23 u24 u25 u26 u27 u28 u29 u30 u31 u32 u33 u34 u35 u36 u37 u38 u39 u40 u41 u42 u43 u44 u45 u46 u47 u48 u49 u50 u51:Value}:
 Code.wp prog (tl 3 (f88.body.getD .skip)) (bodyPost prog f88 (fun e w'=>e=.returned (.bool r)/\w=w')) {tmps:=List.toArray (.string ⟨s.toArray⟩::u1::u2::.int .i64 (a:Int)::u4::u5::u6::u7::u8::u9::u10::u11::u12::u13::u14::u15::u16::u17::u18::u19::u20::u21::u22::u23::u24::u25::u26::u27::u28::u29::u30::u31::u32::u33::u34::u35::u36::u37::u38::u39::u40::u41::u42::u43::u44::u45::u46::u47::u48::u49::u50::u51::[]),defers:=[]} w:=by
 generalize hc0:tl 3 (f88.body.getD .skip)=c0;simp only[tl,f88,Option.getD_some]at hc0;subst hc0;by_cases h1:a=s.length
 .have i:((a:Int)==(s.length:Int))=true:=by rw[beq_iff_eq];omega
  have c:Hid (r=false):=hid (by rw[<-hr.out,if_pos (.inl h1)]);clear h1;go_wp2;go_ret;rw[c.out];exact⟨rfl,rfl⟩
 .have i:((a:Int)==(s.length:Int))=false:=by rw[beq_eq_false_iff_ne];omega
  have b:a<s.length:=by omega
  by_cases h2:s.length-a>400
  .have g:(400:Int)<(s.length:Int)-(a:Int):=by omega
   have c:Hid (r=false):=hid (by rw[<-hr.out,if_pos (.inr (.inl h2))]);clear h1 h2;go_wp2;go_ret;rw[c.out];exact⟨rfl,rfl⟩
  .have g:¬(400:Int)<(s.length:Int)-(a:Int):=by omega
   have d:(s.drop a).head?=some s[a]:=by rw[List.head?_drop,List.getElem?_eq_getElem b]
   by_cases h3:s[a]=48
   .have l:=zax s a b _ 48 48 rfl rfl h3;have m:=zaq s a b _ 48 48 rfl rfl h3;by_cases h4:s.length>1
    .have j:(1:Int)<(s.length:Int):=by omega
     have c:Hid (r=false):=hid (by rw[<-hr.out,if_pos (.inr (.inr ⟨by rw[d,h3],h4⟩))]);clear h1 h2 h3 d;go_wp2;go_ret;rw[c.out];exact⟨rfl,rfl⟩
    .have j:¬(1:Int)<(s.length:Int):=by omega
     have k:Hid ((s.drop a).all Gr.dig=r):=hid (by rw[<-hr.out,if_neg (by rintro(h|h|⟨_,h⟩);exact h1 h;exact h2 h;exact h4 h)]);clear h1 h2 h3 d;go_upto_if 34 with fail;go_cut [] (fun f=>f=w)
     case first=>
      go_wp2;go_meet;exact rfl
     case rest=>
     subst hcut;refine(‹∀(a:Act) (w_1:World),Code.wp prog _ _ a w_1->_›) _ _ ?_;exact zew s hl a ha _ r k
   .have l:=zan s a b _ 48 48 rfl rfl h3;have m:=zar s a b _ 48 48 rfl rfl h3;have k:Hid ((s.drop a).all Gr.dig=r):=hid (by rw[<-hr.out,if_neg (by rintro(h|h|⟨h,_⟩);exact h1 h;exact h2 h;rw[d]at h;injection h with h;exact h3 h)]);clear h1 h2 h3 d;go_upto_if 34 with fail;go_cut [] (fun f=>f=w)
    case first=>
     go_wp2;go_meet;exact rfl
    case rest=>
    subst hcut;refine(‹∀(a:Act) (w_1:World),Code.wp prog _ _ a w_1->_›) _ _ ?_;exact zew s hl a ha _ r k
theorem zf2 (s:Gr.Str) (hl:s.length<=1073741823) (w:World):Calls prog 88 #[.string ⟨s.toArray⟩] w fun e w'=>e=.returned (.bool (intB s))/\w=w':=by
 obtain⟨r,g⟩:=ex (intB s)
 rw[g];have b:=fun(a:Nat) ha=>hid ((zvh s a ha).symm.trans g)
 clear g;by_cases h0:0<s.length
 .have h:(0:Int)<(s.length:Int):=by omega
  have f:s.head?=some s[0]:=by rw[List.head?_eq_getElem?,List.getElem?_eq_getElem h0]
  by_cases h45:s[0]=45
  .have i:=zax s 0 h0 _ 45 45 rfl rfl h45;have j:=zaq s 0 h0 _ 45 45 rfl rfl h45;have c:=b 1 (by rw[f,h45];rfl);clear b f h45;go_enter func88,ntmps88;go_upto_if 12 with fail;go_cut [3] (fun s3 d=>s3=.int .i64 ((1:Nat):Int)/\d=w)
   case first=>
    go_wp2;go_meet;exact⟨rfl,rfl⟩
   case rest=>
   obtain⟨rfl,rfl⟩:=hcut;refine(‹∀(a:Act) (w_1:World),Code.wp prog _ _ a w_1->_›) _ _ ?_;exact zc3 s hl 1 (by omega) _ r c
  .have i:=zan s 0 h0 _ 45 45 rfl rfl h45;have j:=zar s 0 h0 _ 45 45 rfl rfl h45;have c:=b 0 (by rw[f,if_neg (by intro e;injection e with e;exact h45 e)]);clear b f h45;go_enter func88,ntmps88;go_upto_if 12 with fail;go_cut [3] (fun s3 d=>s3=.int .i64 ((0:Nat):Int)/\d=w)
   case first=>
    go_wp2;go_meet;exact⟨rfl,rfl⟩
   case rest=>
   obtain⟨rfl,rfl⟩:=hcut;refine(‹∀(a:Act) (w_1:World),Code.wp prog _ _ a w_1->_›) _ _ ?_;exact zc3 s hl 0 (by omega) _ r c
 .have h:¬(0:Int)<(s.length:Int):=by omega
  have c:=b 0 (by rw[show s=[]from List.eq_nil_of_length_eq_zero (by omega)];rfl);clear b;go_enter func88,ntmps88;go_upto_if 12 with fail;go_cut [3] (fun s3 d=>s3=.int .i64 ((0:Nat):Int)/\d=w)
  case first=>
   go_wp2;go_meet;exact⟨rfl,rfl⟩
  case rest=>
  obtain⟨rfl,rfl⟩:=hcut;refine(‹∀(a:Act) (w_1:World),Code.wp prog _ _ a w_1->_›) _ _ ?_;exact zc3 s hl 0 (by omega) _ r c
end Go.Proofs.YtpjmhafmeieloabGreatDoor
