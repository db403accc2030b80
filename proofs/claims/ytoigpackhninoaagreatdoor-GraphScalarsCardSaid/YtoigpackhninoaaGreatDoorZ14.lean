/- Walks: integer.Valid. Walks: floats: split, text. Walks: instant.read from the clock on. Walks: instant.read from the date on. A graph that came in, opened. -/
import Derived.Test.YtoigpackhninoaaGreatDoorGrInt
import Derived.Test.YtoigpackhninoaaGreatDoorZ16
import Derived.Test.YtoigpackhninoaaGreatDoorZ06
import Derived.Test.YtoigpackhninoaaGreatDoorZ02
import Derived.Shelf.Spec.TrailingZeros
import Derived.Lib.AppendIntMem
import Derived.Test.YtoigpackhninoaaGreatDoorZ18
import Derived.Test.YtoigpackhninoaaGreatDoorZ13
import Derived.Test.YtoigpackhninoaaGreatDoorGrInsP3C
import Derived.Test.YtoigpackhninoaaGreatDoorGrInsR12
import Derived.Test.YtoigpackhninoaaGreatDoorZ10
import Derived.OpenShut
import Derived.WideShapes
import Derived.ChangeShapes
import Derived.ChangeArms
import Derived.Deep.Slices
namespace Go.Proofs.YtoigpackhninoaaGreatDoor
set_option maxRecDepth 100000
set_option maxHeartbeats 16000000
open Go.RowKit
theorem intvalid_any (n:Gr.Str) (hl:n.length<=1073741823) (w:World):
 Calls Tryz.prog 69 #[.string ⟨n.toArray⟩] w fun e w'=>e=.returned (.bool (Gr.intB n))/\Below w.heap.size w w':=by
 have HC:=Lib.hid (fun W=>intread_any n hl W);obtain⟨r,hr⟩:∃r,Gr.intB n=r:=⟨_,rfl⟩
 rw[hr]at HC ⊢;clear hr;go_enter Tryz.func69,Tryz.ntmps69;go_wp2_with fail;refine(HC.out _).mono ?_;rintro e w2 ⟨b,A,m,c,rfl,hb⟩;have HB:=Lib.hid hb;clear hb;go_wp2_with fail;go_ret;exact⟨rfl,HB.out.alloc HB.out.size _⟩
end Go.Proofs.YtoigpackhninoaaGreatDoor
namespace Go.Proofs.YtoigpackhninoaaGreatDoor
set_option maxRecDepth 100000
set_option maxHeartbeats 16000000
open Go.RowKit Go.Sort
theorem tz64_core (x k idx:Nat) (w:World) (hx0:((x:Int)==0)=false)
 (key:IntKind.u64.wrap (bits BinOp.and IntKind.u64 (x:Int) (IntKind.u64.wrap (-(x:Int)))*285870213051353865) /288230376151711744=(idx:Int))
 (hi:idx<64) (hk:k<64) (hcell:w.cell? ⟨6,idx,none⟩=some (.int .u8 k)):
 Calls Tryz.prog 181 #[.int .u64 x] w fun e w'=>e=.returned (.int .i64 k)/\w'=w:=by
 go_enter Tryz.func181,Tryz.ntmps181;go_wp2_with (simp only[key]);go_ret;exact⟨rfl,rfl⟩
theorem tz64_any (x:Nat) (hx0:x≠0) (hx:x<18446744073709551616) (w:World) (hT:UT w):
 Calls Tryz.prog 181 #[.int .u64 x] w fun e w'=>e=.returned (.int .i64 (Lib.ctz 64 x))/\w'=w:=by
 obtain⟨hlow,hk⟩:=Lib.lowest_bit 64 x hx0 hx;obtain⟨hi,htab⟩:=Lib.deBruijn64_at _ hk;have hcell:=hT.bru _ hi;rw[htab]at hcell;exact tz64_core x _ _ w (by simp;omega) (tz64_key x _ hx hx0 hlow) hi hk hcell
open Flt in
theorem split_any (m L:Nat) (e:Int) (h:Flt.Fits m L e) (f:Nat) (hf:fw m L e=f) (w:World) (hT:UT w):Calls Tryz.prog 155 #[.float .f64 f] w fun r w'=>r=.returned (.tuple #[.int .u64 (m:Int),.int .i64 e])/\w=w':=by
 have hlt:=h.fw_lt.2;obtain⟨z,hz,hsg,_,hcase⟩:=h.fields;have hsb:=h.sig_bd;have hmz:m*2 ^ z<9007199254740992:=by rw[<-hsg];exact hsb.2.1
 have hm0:0<m*2 ^ z:=by rw[<-hsg];exact hsb.1
 have hmb:m<9007199254740992:=by have:=h.hi;have h2:=pow_le_53 (L+1) h.len;omega
 rw[hf]at hcase hlt;have HA:=Lib.hid (fun W=>fabs_any f (by omega) W);have c1:=fun W=>call_bits f W
 have i1:=and_frac f (by omega);have HTZ:=Lib.hid (tz64_any (m*2 ^ z) (by omega) (by omega) w hT);rw[ctz_of m z h.odd (by omega)]at HTZ;obtain⟨M,hM⟩:∃M,m*2 ^ z=M:=⟨_,rfl⟩
 have hdiv:(M:Int) /2 ^ z=(m:Int):=by rw[<-hM];push_cast;exact Int.mul_ediv_cancel _ (by have:=Int.pow_pos (n:=2) (m:=z) (by omega);omega)
 rw[hM]at HTZ hcase hmz hm0;have hz0:(0:Int)<=(z:Int):=by omega
 have hz1:(z:Int)<=52:=by omega
 have hzn:((z:Int)).toNat=z:=by omega
 rcases hcase with⟨k0,kq,ke⟩|⟨k,k0,kl,kq,ke⟩
 ·have i2:(f:Int) /4503599627370496=0:=by omega
  have HE:=Lib.hid ke;rw[kq]at i1;clear h hsb hf hT hsg hM k0 kq ke hlt hmz hm0 hmb;go_enter Tryz.func155,Tryz.ntmps155;go_wp2_with fail;refine(HA.out _).mono ?_;rintro _ w1 ⟨rfl,rfl⟩;go_wp2_with fail;refine HTZ.out.mono ?_;rintro _ w1 ⟨rfl,rfl⟩;go_wp2_with fail;go_ret2;refine⟨?_,rfl⟩;rw[HE.out];rfl
 ·have i2:(f:Int) /4503599627370496=(k:Int)+1:=by omega
  have i3:IntKind.i64.wrap ((k:Int)+1)=(k:Int)+1:=IntWalk.i64_in _ (by omega);have i5:((k:Int)+1==0)=false:=by simp;omega
  have i6:=or_one (f%4503599627370496) (by omega);rw[kq]at i6;obtain⟨Q,hQ⟩:∃Q,f%4503599627370496=Q:=⟨_,rfl⟩
  rw[hQ]at i1 i6;have HE:Hid (e=(k:Int)+1-1075+z):=Lib.hid (by omega);have hk0:(0:Int)<=(k:Int):=by omega
  have hk1:(k:Int)<=2045:=by omega
  clear h hsb hf hT hsg hM k0 kq ke hlt hmz hm0 hmb hQ kl;go_enter Tryz.func155,Tryz.ntmps155;go_wp2_with fail;refine(HA.out _).mono ?_;rintro _ w1 ⟨rfl,rfl⟩;go_wp2_with fail;refine HTZ.out.mono ?_;rintro _ w1 ⟨rfl,rfl⟩;go_wp2_with fail;go_ret2;refine⟨?_,rfl⟩;rw[HE.out];rfl
theorem fmt_in (u:Nat) (hu64:u<18446744073709551616) (w:World) (hT:UT w):
 Calls Tryz.prog 182 #[.int .u64 u,.int .i64 10] w fun e w'=>e=.returned (.string ⟨(Lib.decDigits u).toArray⟩)/\Below w.heap.size w w':=by
 by_cases hs:u<100
 ·have hsI:(u:Int)<100:=by omega
  have hw:IntKind.i64.wrap (u:Int)=(u:Int):=IntWalk.i64_in _ (by omega);have HS:=Lib.hid (fun W=>Tryz.internal_strconv_small u hs W);go_enter Tryz.func182,Tryz.ntmps182;go_wp2_with fail;refine(HS.out _).mono ?_;rintro e w1 ⟨rfl,rfl⟩;go_wp2_with fail;go_ret;exact⟨rfl,Below.refl _ _⟩
 ·have hsI:¬(u:Int)<100:=by omega
  have hu1:1<=u:=by omega
  have hnd20:Lib.nDigits u<=20:=by have:=Lib.numDigits_eq u hu1 hu64;split at this<;>omega
  have hal:Tryz.prog.arrayLen 229=24:=by kernel_rfl
  have hel:Tryz.prog.underlying 229=some (.array 24 5):=Tryz.underlying229;have hsl1:∀W,(Instr.sliceAt 229 (.pointer (some ⟨w.heap.size,0,none⟩)) none (some (.int .i64 (Lib.nDigits u:Int))) none).run Tryz.prog W=.ok (.slice (some ⟨w.heap.size,0,none⟩) (Lib.nDigits u) 24) W:=fun W=>by
   rw[run_sliceAt_array_h W 229 ⟨w.heap.size,0,none⟩ (by simp[Program.arrayLen,Program.elem,hel]) .i64 (Lib.nDigits u:Int) (by omega) (by rw[hal];omega)];go_simp
  have hH0:=Lib.holds_zero0 w 229 (Lib.nDigits u) (by omega);have hfmt:=Tryz.internal_strconv_formatBase10 w.heap.size 0 24 u (Array.replicate (Lib.nDigits u) 0) (w.alloc (.cells Lib.zeros24 229)) hH0 (by rw[Array.size_replicate];exact Lib.lt_pow_nDigits u) hu64 (by rw[Array.size_replicate];omega);rw[Array.size_replicate]at hfmt;have HF:=Lib.hid hfmt;have HH0:=Lib.hid hH0;have HND:=Lib.hid (fun W (hW:UT W)=>Tryz.internal_strconv_numDigits u hu1 hu64 W hW.pow);have HUT:Hid (UT (w.alloc (.cells Lib.zeros24 229))):=Lib.hid (UT.stays _ _ hT ((Below.refl _ _).alloc (Nat.le_refl _) _));clear hH0 hfmt hal hel hT hs hu1;go_enter Tryz.func182,Tryz.ntmps182;go_wp2_with fail;refine(HND.out _ HUT.out).mono ?_;rintro e w1 ⟨rfl,rfl⟩;go_wp2_with fail;refine HF.out.mono ?_;rintro e w1 ⟨rfl,k,v',dk,rfl,hF⟩;have hcv:(convert 119 9 (.slice (some ⟨w.heap.size,0,none⟩) (Lib.nDigits u) 24)).run Tryz.prog ((putRow (fun(b:UInt8)=>Value.int .u8 (b.toNat:Int)) (w.alloc (.cells Lib.zeros24 229)) w.heap.size 0 dk).drewN k)=.ok (.string ⟨(Lib.decDigits u).toArray⟩) ((putRow (fun(b:UInt8)=>Value.int .u8 (b.toNat:Int)) (w.alloc (.cells Lib.zeros24 229)) w.heap.size 0 dk).drewN k):=by
   have h:=run_convert_bytes_back (P:=Tryz.prog) ((putRow (fun(b:UInt8)=>Value.int .u8 (b.toNat:Int)) (w.alloc (.cells Lib.zeros24 229)) w.heap.size 0 dk).drewN k) 119 9 5 ⟨w.heap.size,0,none⟩ 24 (Lib.decDigits u) Tryz.underlying119 Tryz.underlying5 Tryz.underlying9 (fun j hj=>by
    rw[Lib.row_is_numeral hF j hj,Lib.add_plain,World.cell?_drewN];exact cell?_putRow (fun(b:UInt8)=>Value.int .u8 (b.toNat:Int)) _ w.heap.size 0 _ dk HH0.out (by rw[hF.size,Array.size_replicate]) j (by rw[hF.size];rw[Lib.decDigits_length]at hj;exact hj))
   rw[Lib.decDigits_length]at h;exact h
  obtain⟨os,eo⟩:=Lib.fin_at w (.cells Lib.zeros24 229) dk k 0;have HEO:=Lib.hid eo;clear hF eo;go_wp2_with fail;go_ret;refine⟨rfl,?_⟩;rw[HEO.out];exact Lib.below_grow _ _ (Nat.le_refl _) _ _
theorem fmt_any (u:Nat) (hu64:u<18446744073709551616) (w:World) (hT:UT w):
 Calls Tryz.prog 156 #[.int .u64 u,.int .i64 10] w fun e w'=>e=.returned (.string ⟨(Lib.decDigits u).toArray⟩)/\Below w.heap.size w w':=by
 have HF:=Lib.hid (fmt_in u hu64 w hT);clear hT;go_enter Tryz.func156,Tryz.ntmps156;go_wp2_with fail;refine HF.out.mono ?_;rintro e w1 ⟨rfl,hb⟩;have HB:=Lib.hid hb;clear hb;go_wp2_with fail;go_ret;exact⟨rfl,HB.out⟩
open Flt in
theorem ftext_any (m L:Nat) (e:Int) (h:Flt.Fits m L e) (f:Nat) (hf:fw m L e=f) (w:World) (hT:UT w):Calls Tryz.prog 121 #[.float .f64 f] w fun r w'=>r=.returned (.string ⟨(Lib.decDigits m++112::Lib.itoa e).toArray⟩)/\Below w.heap.size w w':=by
 have hlt:=h.fw_lt.2;have o1:=h.o_zero;have o2:=h.o_self;have hmb:m<9007199254740992:=by have:=h.hi;have h2:=pow_le_53 (L+1) h.len;omega
 have HI:=Lib.hid (fun W=>finf_any f (by omega) (by rw[<-hf];exact h.o_max) W);have HS:=Lib.hid (fun W=>fsign_any f (by omega) W);have HSP:=Lib.hid (fun W hW=>split_any m L e h f hf W hW);have he0:=h.e0;have he1:=h.e1;have HF:=Lib.hid (fun W hW=>fmt_any m (by omega) W hW);have HIT:=Lib.hid (fun W hW=>itoa_any e (by omega) (by omega) W hW);have dl:(Lib.decDigits m).length<=20:=by
  have h2:=congrArg List.length (Gr.pd_dec 20 m (by omega) (by omega));rw[List.length_append,List.length_replicate,Gr.pd_len]at h2;omega
 have il:=itoa_len e (by omega) (by omega);obtain⟨D,hD⟩:∃D:Gr.Str,Lib.decDigits m=D:=⟨_,rfl⟩
 obtain⟨I,hI⟩:∃I:Gr.Str,Lib.itoa e=I:=⟨_,rfl⟩
 rw[hD]at HF dl;rw[hI]at HIT il;obtain⟨s1,hs1⟩:∃x:Gr.Str,[]++D=x:=⟨_,rfl⟩
 have Ls1:s1.length<=30:=by rw[<-hs1];simp;omega
 have as1:=fun W=>add_run [] D (by simp;omega) W
 rw[hs1]at as1;obtain⟨s2,hs2⟩:∃x:Gr.Str,s1++[112]=x:=⟨_,rfl⟩
 have Ls2:s2.length<=40:=by rw[<-hs2];simp;omega
 have as2:=fun W=>add_run s1 [112] (by simp;omega) W
 rw[hs2]at as2;obtain⟨s3,hs3⟩:∃x:Gr.Str,s2++I=x:=⟨_,rfl⟩
 have as3:=fun W=>add_run s2 I (by omega) W
 rw[hs3]at as3;have HE:Hid (D++112::I=s3):=Lib.hid (by rw[<-hs3,<-hs2,<-hs1];simp);have HUT:=Lib.hid hT;rw[hf]at o1 o2;rw[hD,hI];clear h hf hT hD hI hs1 hs2 hs3;go_enter Tryz.func121,Tryz.ntmps121;go_wp2_with fail;refine(HS.out _).mono ?_;rintro r w1 ⟨rfl,rfl⟩;go_wp2_with fail;refine(HI.out _).mono ?_;rintro r w1 ⟨rfl,rfl⟩;go_wp2_with fail;refine(HSP.out _ HUT.out).mono ?_;rintro r w1 ⟨rfl,rfl⟩;go_wp2_with fail;refine(HF.out _ HUT.out).mono ?_;rintro r w2 ⟨rfl,hb2⟩;have HB2:=Lib.hid hb2;clear hb2;go_wp2_with fail;refine(HIT.out _ (UT.stays _ _ HUT.out HB2.out)).mono ?_;rintro r w3 ⟨rfl,hb3⟩;have HB3:=Lib.hid (HB2.out.trans (hb3.mono HB2.out.size));clear hb3;go_wp2_with fail;go_ret;rw[HE.out];exact⟨rfl,HB3.out⟩
end Go.Proofs.YtoigpackhninoaaGreatDoor
namespace Go.Proofs.YtoigpackhninoaaGreatDoor
set_option maxRecDepth 100000
set_option maxHeartbeats 16000000
open Go.RowKit
theorem point_clk {s:Gr.Str} {sh:Nat} {f:Nat->Nat} {p h m c:Nat} (k:ClkIs s p h m c):(Gr.clockAt s p=none/\pointO s sh f (p+8)=none)\/∃x:Gr.Ck,Gr.clockAt s p=some x/\x.h=h/\x.m=m/\x.s=c/\pointO s sh f (p+8)=finO s sh f x.nanos x.stop:=by
 cases hd:Gr.isAt s (p+8) 46 with
 |false=>exact .inr ⟨_,clk_plain k hd,rfl,rfl,rfl,point_no hd⟩
 |true=>
  rw[clk_dot k hd];unfold pointO;rw[if_pos hd,show p+8+1=p+9 from rfl];by_cases hc:((s.drop (p+9)).takeWhile Gr.dig).length=0\/9<((s.drop (p+9)).takeWhile Gr.dig).length
  ·rw[if_pos hc,if_pos hc];exact .inl ⟨rfl,rfl⟩
  ·rw[if_neg hc,if_neg hc];exact .inr ⟨_,rfl,rfl,rfl,rfl,rfl⟩
theorem RMem.sh_ {s:Gr.Str} {w:World} {sb rb mb ab fb sh:Nat} {f:Nat->Nat} {nn z p:Nat} {wx:World} (h:RMem s w sb rb mb ab fb sh f nn z p wx) (q:Nat):RMem s w sb rb mb ab fb q f nn z p (wx.setCell ⟨mb,0,none⟩ (.int .i64 (q:Int))):=
 have hk:KM mb ab wx (wx.setCell ⟨mb,0,none⟩ (.int .i64 (q:Int))):=KM.ofM (Kept1.set _ _)
 ⟨h.b.trans (hk.below h.b.size h.nm h.na),h.n,h.nm,h.na,h.mr,hk.blk h.s (h.s.ne_ h.m (by decide)) (h.s.ne_ h.a (by decide)),hk.blk h.r h.mr.symm (h.r.ne_ h.a (by decide)),h.m.set_ 0 _,h.a.far (h.a.ne_ h.m (by decide)) _,hk.blk h.f (h.f.ne_ h.m (by decide)) (h.f.ne_ h.a (by decide))⟩
structure ClockT (s:Gr.Str) (sh:Nat) (f:Nat->Nat) (p:Nat) (T:Option (Array Value)):Prop where
 no:Gr.clockAt s p=none->T=none
 yes:∀(k:Gr.Ck) (f':Nat->Nat),Gr.clockAt s p=some k->f' 3=k.h->f' 4=k.m->f' 5=k.s->(∀j,j<3\/6<=j->f' j=f j)->T=finO s (sh+2) f' k.nanos k.stop
theorem rd_clock (s:Gr.Str) (hl:s.length<=1073741823) (w wx:World) (sb rb mb ab fb sh:Nat) (f:Nat->Nat) (p:Nat) (T:Option (Array Value)) (HM:Hid (RMem s w sb rb mb ab fb sh f 0 0 p wx)) (hp:p<=s.length) (hsh:sh<=1) (HT:Hid (ClockT s sh f p T/\f 6=0/\f 7=0)) (u3 u8 u9 u10 u11 u12 u13 u14 u15 u16 u17 u18 u19 u20 u21 u22 u23 u24 u25 u26 u27 u28 u29 u30 u31 u32 u33 u34 u35 u36 u37 u38 u39 u40 u41 u42 u43 u44 u45 u46 u47 u48 u49 u50 u51 u52 u53 u54 u55 u56 u57 u58 u59 u60 u61 u62 u63 u64 u65 u66 u67 u68 u69 u70 u71 u72 u73 u74 u75 u76 u77 u78 u79 u80 u81 u82 u83 u84 u85 u86 u87 u88 u89 u90 u91 u92 u93 u94 u95 u96 u97 u98 u99 u100 u101 u102 u103 u104 u105 u106 u107 u108 u109 u110 u111 u112 u113 u114 u115 u116 u117 u118 u119 u120 u121 u122 u123 u124 u125 u126 u127 u128 u129 u130 u131 u132 u133 u134 u135 u136 u137 u138 u139 u140 u141 u142 u143 u144 u145 u146 u147 u148 u149 u150 u151 u152 u153 u154:Value):
 Code.wp Tryz.prog (tl 6 (Tryz.f92.body.getD .skip)) (bodyPost Tryz.prog Tryz.f92 (RPost T w)) {tmps:=List.toArray (.string ⟨s.toArray⟩::.pointer (some ⟨sb,0,none⟩)::.pointer (some ⟨rb,0,none⟩)::u3::.pointer (some ⟨mb,0,none⟩)::.pointer (some ⟨ab,0,none⟩)::.pointer (some ⟨fb,0,none⟩)::.func (.func 125) #[] #[.pointer (some ⟨ab,0,none⟩),.pointer (some ⟨sb,0,none⟩),.pointer (some ⟨fb,0,none⟩)]::u8::u9::u10::u11::u12::u13::u14::u15::u16::u17::u18::u19::u20::u21::u22::u23::u24::u25::u26::u27::u28::u29::u30::u31::u32::u33::u34::u35::u36::u37::u38::u39::u40::u41::u42::u43::u44::u45::u46::u47::u48::u49::u50::u51::u52::u53::u54::u55::u56::u57::u58::u59::u60::u61::u62::u63::u64::u65::u66::u67::u68::u69::u70::u71::u72::u73::u74::u75::u76::u77::u78::u79::u80::u81::u82::u83::u84::u85::u86::u87::u88::u89::u90::u91::u92::u93::u94::u95::u96::u97::u98::u99::u100::u101::u102::u103::u104::u105::u106::u107::u108::u109::u110::u111::u112::u113::u114::u115::u116::u117::u118::u119::u120::u121::u122::u123::u124::u125::u126::u127::u128::u129::u130::u131::u132::u133::u134::u135::u136::u137::u138::u139::u140::u141::u142::u143::u144::u145::u146::u147::u148::u149::u150::u151::u152::u153::u154::[]),defers:=[]} wx:=by
 generalize hc0:tl 6 (Tryz.f92.body.getD .skip)=c0;simp only[tl,Tryz.f92,Option.getD_some]at hc0;subst hc0;have HFL:=Lib.hid (fields_any s hl ab sb fb mb p 2 58 3 3 5 sh f 0 0 2 58 rfl rfl (by omega) (by omega) (by omega) (by omega) (by omega) (by omega) 4 rfl hp wx HM.out.a HM.out.s HM.out.f HM.out.m);go_upto_region 14 with fail;go_cut [48] (fun s48 wy=>∃(f':Nat->Nat) (p':Nat),p'<=s.length/\Hid (RMem s w sb rb mb ab fb sh f' 0 0 p' wy)/\(s48=.bool true/\Hid (T=none)\/s48=.bool false/\Hid (T=pointO s (sh+2) f' p'/\f' 6=0/\f' 7=0)))
 case first=>
  go_wp2_with fail;refine HFL.out.mono ?_;rintro e w4 ⟨hk,f',hm4,⟨rfl,hfl,hf0,ha4,hpl⟩|⟨rfl,hno,p4,hp4,ha4⟩⟩
  ·have HM4:Hid (RMem s w sb rb mb ab fb sh f' 0 0 (posAt p 2 3) w4):=Lib.hid (HM.out.fld hk hm4 ha4);have HT4:Hid (T=pointO s (sh+2) f' (posAt p 2 3)/\f' 6=0/\f' 7=0):=Lib.hid (by
    have h6:f' 6=0:=(hf0 6 (by omega)).trans HT.out.2.1;have h7:f' 7=0:=(hf0 7 (by omega)).trans HT.out.2.2;refine⟨?_,h6,h7⟩;rw[show posAt p 2 3=p+8 from by simp[posAt]];rcases point_clk (sh:=sh+2) (f:=f') (clk_fld hfl)with⟨e1,e2⟩|⟨x,e1,e2,e3,e4,e5⟩
    ·rw[e2];exact HT.out.1.no e1
    ·rw[e5];exact HT.out.1.yes x f' e1 e2.symm e3.symm e4.symm (fun j hj=>hf0 j (by omega)))
   clear hk hm4 ha4 hfl hf0;go_wp2_with fail;go_meet;exact⟨f',_,hpl,HM4,.inr ⟨rfl,HT4⟩⟩
  ·have HM4:Hid (RMem s w sb rb mb ab fb sh f' 0 0 p4 w4):=Lib.hid (HM.out.fld hk hm4 ha4);have HTN0:Hid (T=none):=Lib.hid (HT.out.1.no (clk_no hno));clear hk hm4 ha4 hno;go_wp2_with fail;go_meet;exact⟨f',_,hp4,HM4,.inl ⟨rfl,HTN0⟩⟩
 case rest=>
 obtain⟨f',p',hp',HM',hor⟩:=hcut;obtain⟨wq,hwq⟩:∃wq,wc=wq:=⟨_,rfl⟩
 rw[hwq]at HM' ⊢;clear HM HT HFL hwq;go_upto_if 48 with fail;go_cut [] (fun wy=>wy=wq/\Hid (T=pointO s (sh+2) f' p'/\f' 6=0/\f' 7=0))
 case first=>
  rcases hor with⟨rfl,HTN0⟩|⟨rfl,HT'⟩
  ·skip
   obtain⟨m0,m1,m2,m3,m4,m5,m6,m7,m8,m9,m10⟩:=cells11 HM'.out.m;obtain⟨x0,x1,x2,x3,x4,x5,x6,x7,x8,x9,x10⟩:=cells11 HM'.out.r;have xf:∀j,wq.frozen? ⟨rb,j,none⟩=false:=HM'.out.r.frozen;go_wp2_with fail;have HSB:Blk (((((((((((wq.setCell ⟨rb,0,none⟩ (.int .i64 (sh:Int))).setCell ⟨rb,1,none⟩ (.int .i64 (f' 0:Int))).setCell ⟨rb,2,none⟩ (.int .i64 (f' 1:Int))).setCell ⟨rb,3,none⟩ (.int .i64 (f' 2:Int))).setCell ⟨rb,4,none⟩ (.int .i64 (f' 3:Int))).setCell ⟨rb,5,none⟩ (.int .i64 (f' 4:Int))).setCell ⟨rb,6,none⟩ (.int .i64 (f' 5:Int))).setCell ⟨rb,7,none⟩ (.int .i64 (f' 6:Int))).setCell ⟨rb,8,none⟩ (.int .i64 (f' 7:Int))).setCell ⟨rb,9,none⟩ (.int .i64 ((0:Nat):Int))).setCell ⟨rb,10,none⟩ (.int .u8 ((0:Nat):Int))) rb 135 (mC sh f' 0 (0:Nat)):=stored11 HM'.out.r;obtain⟨e0,e1,e2,e3,e4,e5,e6,e7,e8,e9,e10⟩:=cells11 HSB;have HSH:Below w.heap.size w (((((((((((wq.setCell ⟨rb,0,none⟩ (.int .i64 (sh:Int))).setCell ⟨rb,1,none⟩ (.int .i64 (f' 0:Int))).setCell ⟨rb,2,none⟩ (.int .i64 (f' 1:Int))).setCell ⟨rb,3,none⟩ (.int .i64 (f' 2:Int))).setCell ⟨rb,4,none⟩ (.int .i64 (f' 3:Int))).setCell ⟨rb,5,none⟩ (.int .i64 (f' 4:Int))).setCell ⟨rb,6,none⟩ (.int .i64 (f' 5:Int))).setCell ⟨rb,7,none⟩ (.int .i64 (f' 6:Int))).setCell ⟨rb,8,none⟩ (.int .i64 (f' 7:Int))).setCell ⟨rb,9,none⟩ (.int .i64 ((0:Nat):Int))).setCell ⟨rb,10,none⟩ (.int .u8 ((0:Nat):Int))):=below11 HM'.out.b HM'.out.n _ _ _ _ _ _ _ _ _ _ _;refine bodyPost_ret (v:=.tuple #[.agg #[.int .i64 (sh:Int),.int .i64 (f' 0:Int),.int .i64 (f' 1:Int),.int .i64 (f' 2:Int),.int .i64 (f' 3:Int),.int .i64 (f' 4:Int),.int .i64 (f' 5:Int),.int .i64 (f' 6:Int),.int .i64 (f' 7:Int),.int .i64 ((0:Nat):Int),.int .u8 ((0:Nat):Int)],.bool false]) (by rw[results_cell_tmp rfl];go_simp) rfl ?_;have HTN:T=none:=HTN0.out;unfold RPost;rw[HTN];exact⟨HSH,sh,f',0,(0:Nat),rfl,fun x hx=>by cases hx⟩
  ·go_wp2_with fail;go_meet;exact⟨rfl,HT'⟩
 case rest=>
 obtain⟨hwc,HT'⟩:=hcut;rw[hwc];clear hor hwc;refine(‹∀(a:Act) (w_1:World),Code.wp Tryz.prog _ _ a w_1->_›) _ _ ?_;have qM0:wq.cell? ⟨mb,0,none⟩=some (.int .i64 (sh:Int)):=HM'.out.m.cell 0;have qMF:∀j,wq.frozen? ⟨mb,j,none⟩=false:=HM'.out.m.frozen;go_upto_region 16 with fail;have HUP:Hid (∀v:Value,v=.int .i64 ((sh:Int)+2)->RMem s w sb rb mb ab fb (sh+2) f' 0 0 p' (World.setCell wq ⟨mb,0,none⟩ v)):=Lib.hid (fun v hv=>by
  rw[hv,show(sh:Int)+2=((sh+2:Nat):Int)from by omega];exact HM'.out.sh_ _)
 go_cut [] (fun wy=>Hid (RMem s w sb rb mb ab fb (sh+2) f' 0 0 p' wy))
 case first=>
  go_wp2_with fail;go_meet;exact Lib.hid (HUP.out _ rfl)
 case rest=>
 refine(‹∀(a:Act) (w_1:World),Code.wp Tryz.prog _ _ a w_1->_›) _ _ ?_;exact rd_point s hl w _ sb rb mb ab fb (sh+2) f' p' T hcut hp' (by omega) HT' _ _ _ _ _ _ _ _ _ _ _ _ _ _ _ _ _ _ _ _ _ _ _ _ _ _ _ _ _ _ _ _ _ _ _ _ _ _ _ _ _ _ _ _ _ _ _ _ _ _ _ _ _ _ _ _ _ _ _ _ _ _ _ _ _ _ _ _ _ _ _ _ _ _ _ _ _ _ _ _ _ _ _ _ _ _ _ _ _ _ _ _ _ _ _ _ _ _ _ _ _ _ _ _ _ _ _ _ _ _ _ _ _ _ _ _ _ _ _ _ _ _ _ _ _ _ _ _ _ _ _ _ _ _ _ _ _ _ _ _ _ _ _ _ _ _ _ _
end Go.Proofs.YtoigpackhninoaaGreatDoor
namespace Go.Proofs.YtoigpackhninoaaGreatDoor
open Go.RowKit
def moF (x:Gr.Mo):Nat->Nat:=fun j=>match j with
 | 0=>x.y
 | 1=>x.m
 | 2=>x.d
 | 3=>x.h
 | 4=>x.mi
 | 5=>x.c
 | 6=>x.zh
 |_=>x.zm
def moSh (x:Gr.Mo):Nat:=(if x.date=true then 1 else 0)+(if x.time=true then 2 else 0)
def moC (x:Gr.Mo):Array Value:=mC (moSh x) (moF x) x.nanos x.z.toNat
def rdT (s:Gr.Str):Option (Array Value):=(Gr.rd s).map moC
theorem mC_cong {sh nn z:Nat} {f g:Nat->Nat} (h:∀j,j<8->f j=g j):mC sh f nn z=mC sh g nn z:=by
 simp[mC,h 0 (by omega),h 1 (by omega),h 2 (by omega),h 3 (by omega),h 4 (by omega),h 5 (by omega),h 6 (by omega),h 7 (by omega)]
theorem lt8 {P:Nat->Prop} (h:P 0/\P 1/\P 2/\P 3/\P 4/\P 5/\P 6/\P 7):∀j,j<8->P j:=by
 intro j hj;have:j=0\/j=1\/j=2\/j=3\/j=4\/j=5\/j=6\/j=7:=by omega
 rcases this with rfl|rfl|rfl|rfl|rfl|rfl|rfl|rfl
 ·exact h.1
 ·exact h.2.1
 ·exact h.2.2.1
 ·exact h.2.2.2.1
 ·exact h.2.2.2.2.1
 ·exact h.2.2.2.2.2.1
 ·exact h.2.2.2.2.2.2.1
 ·exact h.2.2.2.2.2.2.2
theorem nodate_colon {s:Gr.Str} (h:∀h2:2<s.length,(s[2]'h2).toNat=58):Gr.dateAt s=none:=by
 unfold Gr.dateAt;have:Gr.numAt s 0 4=none:=by
  rcases Nat.lt_or_ge s.length 4 with hl|hl
  ·exact numAt_short s 0 4 (by omega)
  ·exact numAt_no s 0 4 2 (by omega) (by omega) (by rw[(dig_nat _ 58 (h (by omega))).1];decide)
 rw[this]
theorem noclock_colon {s:Gr.Str} (hl:2<s.length) (h:(s[2]'hl).toNat≠58):Gr.clockAt s 0=none:=by
 unfold Gr.clockAt;split
 ·rw[if_neg];rw[isAt_b (p:=0+2) hl rfl];simp;intro e;exact absurd e h
 ·rfl
theorem clockT0 {s:Gr.Str} (hd:Gr.dateAt s=none):ClockT s 0 (fun _=>0) 0 (rdT s) where
 no h:=by unfold rdT Gr.rd;rw[hd];simp only;rw[h];rfl
 yes k f' h h3 h4 h5 hf:=by
  unfold rdT Gr.rd finO;rw[hd];simp only;rw[h];simp only;by_cases hs:k.stop=s.length
  ·rw[if_pos hs,if_pos hs];show some _=some _
   congr 1
   exact mC_cong (lt8 ⟨(hf 0 (by omega)).symm,(hf 1 (by omega)).symm,(hf 2 (by omega)).symm,h3.symm,h4.symm,h5.symm,(hf 6 (by omega)).symm,(hf 7 (by omega)).symm⟩)
  ·rw[if_neg hs,if_neg hs,if_neg (by omega)];rfl
theorem clockT1 {s:Gr.Str} {g:Nat->Nat} (hd:Gr.dateAt s=some (g 0,g 1,g 2)) (h10:s.length≠10) (hsep:(Gr.isAt s 10 84 || Gr.isAt s 10 32)=true) (h6:g 6=0) (h7:g 7=0):ClockT s 1 g 11 (rdT s) where
 no h:=by unfold rdT Gr.rd;rw[hd];simp only;rw[if_neg h10,if_pos hsep,h];rfl
 yes k f' h h3 h4 h5 hf:=by
  unfold rdT Gr.rd finO;rw[hd];simp only;rw[if_neg h10,if_pos hsep,h];simp only;have hle:=clock_le (kh:=k.h) (km:=k.m) (kc:=k.s) (kf:=k.nanos) (ks:=k.stop) h;by_cases hs:k.stop=s.length
  ·rw[if_pos hs,if_pos hs];show some _=some _
   congr 1
   exact mC_cong (lt8 ⟨(hf 0 (by omega)).symm,(hf 1 (by omega)).symm,(hf 2 (by omega)).symm,h3.symm,h4.symm,h5.symm,((hf 6 (by omega)).trans h6).symm,((hf 7 (by omega)).trans h7).symm⟩)
  ·rw[if_neg hs,if_neg hs,if_pos ⟨by trivial,by omega⟩];cases hz:Gr.zoneAt s k.stop with
   |none=>rfl
   |some z=>
    simp only;by_cases hzs:z.stop=s.length
    ·rw[if_pos hzs,if_pos hzs];show some _=some _
     congr 1
     exact mC_cong (lt8 ⟨(hf 0 (by omega)).symm,(hf 1 (by omega)).symm,(hf 2 (by omega)).symm,h3.symm,h4.symm,h5.symm,rfl,rfl⟩)
    ·rw[if_neg hzs,if_neg hzs];rfl
end Go.Proofs.YtoigpackhninoaaGreatDoor
namespace Go.Proofs.YtoigpackhninoaaGreatDoor
set_option maxRecDepth 100000
set_option maxHeartbeats 16000000
open Go.RowKit Go.WideShapes Go.ChangeShapes Go.Deep
section
variable {H:Type} {enc:TypeId×Value->H} {W:World} {r:Reach} {b0 base fuel:Nat} {sp:Nat->Bool} {hd:Bool} {v:Value} {d:DataW H} {p:List MemPlace} {cs:List Value} {x:DataW H×List MemPlace}
end
end Go.Proofs.YtoigpackhninoaaGreatDoor
