import Derived.Test.YtoigpackhninoaaGreatDoorZ23
namespace Go.Proofs.YtoigpackhninoaaGreatDoor
open _root_.Go.Proofs.Tryz
open _root_.Go.Lib (hid)
set_option maxRecDepth 100000
set_option maxHeartbeats 16000000
open Go.RowKit Go.Sort
theorem tz64_core (x k idx:Nat) (w:World) (hx0:((x:Int)==0)=false)
 (key:IntKind.u64.wrap (bits BinOp.and IntKind.u64 (x:Int) (IntKind.u64.wrap (-(x:Int)))*285870213051353865) /288230376151711744=(idx:Int))
 (hi:idx<64) (hk:k<64) (hcell:w.cell? ⟨6,idx,none⟩=some (.int .u8 k)):
 Calls prog 181 #[.int .u64 x] w fun e w'=>e=.returned (.int .i64 k)/\w'=w:=by
 go_enter func181,ntmps181;go_wp2_with (simp only[key]);go_ret;exact⟨rfl,rfl⟩
theorem zow (x:Nat) (hx0:x≠0) (hx:x<18446744073709551616) (w:World) (hT:UT w):
 Calls prog 181 #[.int .u64 x] w fun e w'=>e=.returned (.int .i64 (Lib.ctz 64 x))/\w'=w:=by
 obtain⟨hlow,hk⟩:=Lib.lowest_bit 64 x hx0 hx;obtain⟨hi,htab⟩:=Lib.deBruijn64_at _ hk;have hcell:=hT.bru _ hi;rw[htab]at hcell;exact tz64_core x _ _ w (by simp;omega) (tz64_key x _ hx hx0 hlow) hi hk hcell
open Flt in
theorem zmf (m L:Nat) (e:Int) (h:Flt.Fits m L e) (f:Nat) (hf:fw m L e=f) (w:World) (hT:UT w):Calls prog 155 #[.float .f64 f] w fun r w'=>r=.returned (.tuple #[.int .u64 (m:Int),.int .i64 e])/\w=w':=by
 have hlt:=h.fw_lt.2;obtain⟨z,hz,hsg,_,hcase⟩:=h.fields;have hsb:=h.sig_bd;have hmz:m*2 ^ z<9007199254740992:=by rw[<-hsg];exact hsb.2.1
 have hm0:0<m*2 ^ z:=by rw[<-hsg];exact hsb.1
 have hmb:m<9007199254740992:=by have:=h.hi;have h2:=zeb (L+1) h.len;omega
 rw[hf]at hcase hlt;have HA:=hid (fun W=>zfo f (by omega) W);have c1:=fun W=>zb0 f W
 have i1:=zoo f (by omega);have HTZ:=hid (zow (m*2 ^ z) (by omega) (by omega) w hT);rw[zs4 m z h.odd (by omega)]at HTZ;obtain⟨M,hM⟩:=ex (m*2 ^ z)
 have hdiv:(M:Int) /2 ^ z=(m:Int):=by rw[<-hM];push_cast;exact Int.mul_ediv_cancel _ (by have:=Int.pow_pos (n:=2) (m:=z) (by omega);omega)
 rw[hM]at HTZ hcase hmz hm0;have hz0:(0:Int)<=(z:Int):=by omega
 have hz1:(z:Int)<=52:=by omega
 have hzn:((z:Int)).toNat=z:=by omega
 rcases hcase with⟨k0,kq,ke⟩|⟨k,k0,kl,kq,ke⟩
 ·have i2:(f:Int) /4503599627370496=0:=by omega
  have HE:=hid ke;rw[kq]at i1;clear h hsb hf hT hsg hM k0 kq ke hlt hmz hm0 hmb;go_enter func155,ntmps155;go_wp2_with fail;refine(HA.out _).mono ?_;rintro _ w1 ⟨rfl,rfl⟩;go_wp2_with fail;refine HTZ.out.mono ?_;rintro _ w1 ⟨rfl,rfl⟩;go_wp2;go_ret2;refine⟨?_,rfl⟩;rw[HE.out];rfl
 ·have i2:(f:Int) /4503599627370496=(k:Int)+1:=by omega
  have i3:IntKind.i64.wrap ((k:Int)+1)=(k:Int)+1:=IntWalk.i64_in _ (by omega);have i5:((k:Int)+1==0)=false:=by simp;omega
  have i6:=or_one (f%4503599627370496) (by omega);rw[kq]at i6;obtain⟨Q,hQ⟩:=ex (f%4503599627370496)
  rw[hQ]at i1 i6;have HE:Hid (e=(k:Int)+1-1075+z):=hid (by omega);have hk0:(0:Int)<=(k:Int):=by omega
  have hk1:(k:Int)<=2045:=by omega
  clear h hsb hf hT hsg hM k0 kq ke hlt hmz hm0 hmb hQ kl;go_enter func155,ntmps155;go_wp2_with fail;refine(HA.out _).mono ?_;rintro _ w1 ⟨rfl,rfl⟩;go_wp2_with fail;refine HTZ.out.mono ?_;rintro _ w1 ⟨rfl,rfl⟩;go_wp2;go_ret2;refine⟨?_,rfl⟩;rw[HE.out];rfl
theorem ztg (u:Nat) (hu64:u<18446744073709551616) (w:World) (hT:UT w):
 Calls prog 182 #[.int .u64 u,.int .i64 10] w fun e w'=>e=.returned (.string ⟨(Lib.decDigits u).toArray⟩)/\Below w.heap.size w w':=by
 by_cases hs:u<100
 ·have hsI:(u:Int)<100:=by omega
  have hw:IntKind.i64.wrap (u:Int)=(u:Int):=IntWalk.i64_in _ (by omega);have HS:=hid (fun W=>internal_strconv_small u hs W);go_enter func182,ntmps182;go_wp2_with fail;refine(HS.out _).mono ?_;rintro e w1 ⟨rfl,rfl⟩;go_wp2;go_ret;exact⟨rfl,Below.refl _ _⟩
 ·have hsI:¬(u:Int)<100:=by omega
  have hu1:1<=u:=by omega
  have hnd20:Lib.nDigits u<=20:=by have:=Lib.numDigits_eq u hu1 hu64;split at this<;>omega
  have hal:prog.arrayLen 229=24:=by kernel_rfl
  have hel:prog.underlying 229=some (.array 24 5):=underlying229;have hsl1:∀W,(Instr.sliceAt 229 (.pointer (some ⟨w.heap.size,0,none⟩)) none (some (.int .i64 (Lib.nDigits u:Int))) none).run prog W=.ok (.slice (some ⟨w.heap.size,0,none⟩) (Lib.nDigits u) 24) W:=fun W=>by
   rw[run_sliceAt_array_h W 229 ⟨w.heap.size,0,none⟩ (by simp[Program.arrayLen,Program.elem,hel]) .i64 (Lib.nDigits u:Int) (by omega) (by rw[hal];omega)];go_simp
  have hH0:=Lib.holds_zero0 w 229 (Lib.nDigits u) (by omega);have hfmt:=internal_strconv_formatBase10 w.heap.size 0 24 u (Array.replicate (Lib.nDigits u) 0) (w.alloc (.cells Lib.zeros24 229)) hH0 (by rw[Array.size_replicate];exact Lib.lt_pow_nDigits u) hu64 (by rw[Array.size_replicate];omega);rw[Array.size_replicate]at hfmt;have HF:=hid hfmt;have HH0:=hid hH0;have HND:=hid (fun W (hW:UT W)=>internal_strconv_numDigits u hu1 hu64 W hW.pow);have HUT:Hid (UT (w.alloc (.cells Lib.zeros24 229))):=hid (UT.stays _ _ hT ((Below.refl _ _).alloc (Nat.le_refl _) _));clear hH0 hfmt hal hel hT hs hu1;go_enter func182,ntmps182;go_wp2_with fail;refine(HND.out _ HUT.out).mono ?_;rintro e w1 ⟨rfl,rfl⟩;go_wp2_with fail;refine HF.out.mono ?_;rintro e w1 ⟨rfl,k,v',dk,rfl,hF⟩;have hcv:(convert 119 9 (.slice (some ⟨w.heap.size,0,none⟩) (Lib.nDigits u) 24)).run prog ((putRow (fun(b:UInt8)=>Value.int .u8 (b.toNat:Int)) (w.alloc (.cells Lib.zeros24 229)) w.heap.size 0 dk).drewN k)=.ok (.string ⟨(Lib.decDigits u).toArray⟩) ((putRow (fun(b:UInt8)=>Value.int .u8 (b.toNat:Int)) (w.alloc (.cells Lib.zeros24 229)) w.heap.size 0 dk).drewN k):=by
   have h:=run_convert_bytes_back (P:=prog) ((putRow (fun(b:UInt8)=>Value.int .u8 (b.toNat:Int)) (w.alloc (.cells Lib.zeros24 229)) w.heap.size 0 dk).drewN k) 119 9 5 ⟨w.heap.size,0,none⟩ 24 (Lib.decDigits u) underlying119 underlying5 underlying9 (fun j hj=>by
    rw[Lib.row_is_numeral hF j hj,Lib.add_plain,World.cell?_drewN];exact cell?_putRow (fun(b:UInt8)=>Value.int .u8 (b.toNat:Int)) _ w.heap.size 0 _ dk HH0.out (by rw[hF.size,Array.size_replicate]) j (by rw[hF.size];rw[Lib.decDigits_length]at hj;exact hj))
   rw[Lib.decDigits_length]at h;exact h
  obtain⟨os,eo⟩:=Lib.fin_at w (.cells Lib.zeros24 229) dk k 0;have HEO:=hid eo;clear hF eo;go_wp2;go_ret;refine⟨rfl,?_⟩;rw[HEO.out];exact Lib.below_grow _ _ (Nat.le_refl _) _ _
theorem zrk (u:Nat) (hu64:u<18446744073709551616) (w:World) (hT:UT w):
 Calls prog 156 #[.int .u64 u,.int .i64 10] w fun e w'=>e=.returned (.string ⟨(Lib.decDigits u).toArray⟩)/\Below w.heap.size w w':=by
 have HF:=hid (ztg u hu64 w hT);clear hT;go_enter func156,ntmps156;go_wp2_with fail;refine HF.out.mono ?_;rintro e w1 ⟨rfl,hb⟩;have HB:=hid hb;clear hb;go_wp2;go_ret;exact⟨rfl,HB.out⟩
open Flt in
theorem zmg (m L:Nat) (e:Int) (h:Flt.Fits m L e) (f:Nat) (hf:fw m L e=f) (w:World) (hT:UT w):Calls prog 121 #[.float .f64 f] w fun r w'=>r=.returned (.string ⟨(Lib.decDigits m++112::Lib.itoa e).toArray⟩)/\Below w.heap.size w w':=by
 have hlt:=h.fw_lt.2;have o1:=h.o_zero;have o2:=h.o_self;have hmb:m<9007199254740992:=by have:=h.hi;have h2:=zeb (L+1) h.len;omega
 have HI:=hid (fun W=>zit f (by omega) (by rw[<-hf];exact h.o_max) W);have HS:=hid (fun W=>zl1 f (by omega) W);have HSP:=hid (fun W hW=>zmf m L e h f hf W hW);have he0:=h.e0;have he1:=h.e1;have HF:=hid (fun W hW=>zrk m (by omega) W hW);have HIT:=hid (fun W hW=>zfs e (by omega) (by omega) W hW);have dl:(Lib.decDigits m).length<=20:=by
  have h2:=congrArg List.length (Gr.zqg 20 m (by omega) (by omega));rw[List.length_append,List.length_replicate,Gr.zax]at h2;omega
 have il:=zft e (by omega) (by omega);obtain⟨D,hD⟩:∃D:Gr.Str,Lib.decDigits m=D:=⟨_,rfl⟩
 obtain⟨I,hI⟩:∃I:Gr.Str,Lib.itoa e=I:=⟨_,rfl⟩
 rw[hD]at HF dl;rw[hI]at HIT il;obtain⟨s1,hs1⟩:∃x:Gr.Str,[]++D=x:=⟨_,rfl⟩
 have Ls1:s1.length<=30:=by rw[<-hs1];simp;omega
 have as1:=fun W=>zab [] D (by simp;omega) W
 rw[hs1]at as1;obtain⟨s2,hs2⟩:∃x:Gr.Str,s1++[112]=x:=⟨_,rfl⟩
 have Ls2:s2.length<=40:=by rw[<-hs2];simp;omega
 have as2:=fun W=>zab s1 [112] (by simp;omega) W
 rw[hs2]at as2;obtain⟨s3,hs3⟩:∃x:Gr.Str,s2++I=x:=⟨_,rfl⟩
 have as3:=fun W=>zab s2 I (by omega) W
 rw[hs3]at as3;have HE:Hid (D++112::I=s3):=hid (by rw[<-hs3,<-hs2,<-hs1];simp);have HUT:=hid hT;rw[hf]at o1 o2;rw[hD,hI];clear h hf hT hD hI hs1 hs2 hs3;go_enter func121,ntmps121;go_wp2_with fail;refine(HS.out _).mono ?_;rintro r w1 ⟨rfl,rfl⟩;go_wp2_with fail;refine(HI.out _).mono ?_;rintro r w1 ⟨rfl,rfl⟩;go_wp2_with fail;refine(HSP.out _ HUT.out).mono ?_;rintro r w1 ⟨rfl,rfl⟩;go_wp2_with fail;refine(HF.out _ HUT.out).mono ?_;rintro r w2 ⟨rfl,hb2⟩;have HB2:=hid hb2;clear hb2;go_wp2_with fail;refine(HIT.out _ (UT.stays _ _ HUT.out HB2.out)).mono ?_;rintro r w3 ⟨rfl,hb3⟩;have HB3:=hid (HB2.out.trans (hb3.mono HB2.out.size));clear hb3;go_wp2;go_ret;rw[HE.out];exact⟨rfl,HB3.out⟩
open Gr
open Go.RowKit
theorem zbr {B g:Nat} {w0 w:World} (h:Below B w0 w) (hg:B<=g) {v0 v1 v2 v3 v4 v5 v6 v7 v8 v9 v10 v11:Value}:Below B w0 ((((((((((((w.setCell ⟨g,0,none⟩ v0).setCell ⟨g,1,none⟩ v1).setCell ⟨g,2,none⟩ v2).setCell ⟨g,3,none⟩ v3).setCell ⟨g,4,none⟩ v4).setCell ⟨g,5,none⟩ v5).setCell ⟨g,6,none⟩ v6).setCell ⟨g,7,none⟩ v7).setCell ⟨g,8,none⟩ v8).setCell ⟨g,9,none⟩ v9).setCell ⟨g,10,none⟩ v10).setCell ⟨g,11,none⟩ v11):=
 ((((((((((((h.setCell (p:=⟨g,0,none⟩) hg v0).setCell (p:=⟨g,1,none⟩) hg v1).setCell (p:=⟨g,2,none⟩) hg v2).setCell (p:=⟨g,3,none⟩) hg v3).setCell (p:=⟨g,4,none⟩) hg v4).setCell (p:=⟨g,5,none⟩) hg v5).setCell (p:=⟨g,6,none⟩) hg v6).setCell (p:=⟨g,7,none⟩) hg v7).setCell (p:=⟨g,8,none⟩) hg v8).setCell (p:=⟨g,9,none⟩) hg v9).setCell (p:=⟨g,10,none⟩) hg v10).setCell (p:=⟨g,11,none⟩) hg v11)
theorem za1 {w:World} {g:Nat} {t:TypeId} {c0 c1 c2 c3 c4 c5 c6 c7 c8 c9 c10 c11 v0 v1 v2 v3 v4 v5 v6 v7 v8 v9 v10 v11:Value} (h:Blk w g t #[c0,c1,c2,c3,c4,c5,c6,c7,c8,c9,c10,c11]):Blk ((((((((((((w.setCell ⟨g,0,none⟩ v0).setCell ⟨g,1,none⟩ v1).setCell ⟨g,2,none⟩ v2).setCell ⟨g,3,none⟩ v3).setCell ⟨g,4,none⟩ v4).setCell ⟨g,5,none⟩ v5).setCell ⟨g,6,none⟩ v6).setCell ⟨g,7,none⟩ v7).setCell ⟨g,8,none⟩ v8).setCell ⟨g,9,none⟩ v9).setCell ⟨g,10,none⟩ v10).setCell ⟨g,11,none⟩ v11) g t #[v0,v1,v2,v3,v4,v5,v6,v7,v8,v9,v10,v11]:=by
 have h1:=((((((((((((h.set_ 0 v0).set_ 1 v1).set_ 2 v2).set_ 3 v3).set_ 4 v4).set_ 5 v5).set_ 6 v6).set_ 7 v7).set_ 8 v8).set_ 9 v9).set_ 10 v10).set_ 11 v11)
 simp only[List.setIfInBounds_toArray,List.set_cons_zero,List.set_cons_succ]at h1;exact h1
theorem zkf (s:Gr.Str) (_hl:s.length<=1073741823) (a:Nat) (ha:a<=1073741824) (date:Bool) (Y M D H N0 C:Int) (w wr:World) (gb:Nat)
 (HGO:Hid (∀(r:Int) (ok:Bool) (n:Int) (w':World),Below w.heap.size w w'->(clockAt s a=none/\r=-1\/∃h m c f t:Nat,clockAt s a=some ⟨h,m,c,f,t⟩/\r=(t:Int)/\ok=true/\H=h/\N0=m/\C=c/\n=f)->za3 s a date Y M D w (.returned (.tuple #[.agg #[.bool date,.bool ok,.bool false,.int .i64 Y,.int .i64 M,.int .i64 D,.int .i64 H,.int .i64 N0,.int .i64 C,.int .i64 n,.int .i64 0,.bool false],.int .i64 r])) w'))
 (HF:Hid (∃h m c:Nat,numAt s a 2=some h/\numAt s (a+3) 2=some m/\numAt s (a+6) 2=some c/\H=h/\N0=m/\C=c)) (HP:Hid (isAt s (a+2) 58=true/\isAt s (a+5) 58=true/\isAt s (a+8) 46=true)) (HGB:Hid (w.heap.size=gb)) (n F U:Nat) (_hn:n<=s.length) (_hF:F<=999999999)
 (HV:Hid ((∀h2:a+9+n<s.length,Gr.dig (s[a+9+n]'h2)=false)/\Frac s (a+9) n F U/\Blk wr gb 111 (T12 date true false Y M D H N0 C (F:Int) 0 false)/\Blk wr (gb+1) 111 (T12 false false false 0 0 0 0 0 0 0 0 false)/\Below gb w wr))
 {u2 u3 u4 u7 u9 u10 u11 u12 u13 u14 u15 u16 u17 u18 u19 u20 u21 u22 u23 u24 u25 u26 u27 u28 u29 u30 u31 u32 u33 u34 u35 u36 u37 u38 u39 u40 u41 u42 u43 u44 u45 u46 u47 u48 u49 u50 u51 u52 u53 u54 u55 u56 u57 u58 u59 u60 u61 u62 u63 u64 u65 u66 u67 u68 u69 u70 u71 u72 u73 u74 u75 u76 u77 u78 u79 u80 u81 u82 u83 u84 u85 u86 u87 u88 u89 u90 u91 u92 u93 u94 u95 u96 u97 u98 u99 u100 u101 u102 u103 u104 u105 u106 u107 u108 u109 u110 u111 u112 u113 u114 u115:Value}:
 Code.wp prog (tl 9 (f135.body.getD .skip)) (bodyPost prog f135 (za3 s a date Y M D w)) {tmps:=List.toArray (.string ⟨s.toArray⟩::.int .i64 ((a:Int)+8)::u2::u3::u4::.pointer (some ⟨gb,0,none⟩)::.pointer (some ⟨gb+1,0,none⟩)::u7::.int .i64 (n:Int)::u9::u10::u11::u12::u13::u14::u15::u16::u17::u18::u19::u20::u21::u22::u23::u24::u25::u26::u27::u28::u29::u30::u31::u32::u33::u34::u35::u36::u37::u38::u39::u40::u41::u42::u43::u44::u45::u46::u47::u48::u49::u50::u51::u52::u53::u54::u55::u56::u57::u58::u59::u60::u61::u62::u63::u64::u65::u66::u67::u68::u69::u70::u71::u72::u73::u74::u75::u76::u77::u78::u79::u80::u81::u82::u83::u84::u85::u86::u87::u88::u89::u90::u91::u92::u93::u94::u95::u96::u97::u98::u99::u100::u101::u102::u103::u104::u105::u106::u107::u108::u109::u110::u111::u112::u113::u114::u115::[]),defers:=[]} wr:=by
 generalize hc0:tl 9 (f135.body.getD .skip)=c0;simp only[tl,f135,Option.getD_some]at hc0;subst hc0;have HE:Hid (∃h m c:Nat,clockAt s a=(if n<1\/9<n then none else some ⟨h,m,c,F,a+9+n⟩)/\H=h/\N0=m/\C=c):=hid (by
  obtain⟨h,m,c,h1,h2,h3,h4,h5,h6⟩:=HF.out;exact⟨h,m,c,zke h1 h2 h3 HP.out.1 HP.out.2.1 HP.out.2.2 HV.out.2.1 HV.out.1,h4,h5,h6⟩)
 have qb0:∀j,wr.frozen? ⟨gb+1,j,none⟩=false:=HV.out.2.2.2.1.frozen;have xb:∀j,wr.cell? ⟨gb+1,j,none⟩=(#[.bool false,.bool false,.bool false,.int .i64 0,.int .i64 0,.int .i64 0,.int .i64 0,.int .i64 0,.int .i64 0,.int .i64 0,.int .i64 0,.bool false]:Array Value)[j]? :=fun j=>HV.out.2.2.2.1.cell j
 obtain⟨ca0,ca1,ca2,ca3,ca4,ca5,ca6,ca7,ca8,ca9,ca10,ca11⟩:=zaf HV.out.2.2.1;have HSB:Hid (Blk ((((((((((((wr.setCell ⟨gb+1,0,none⟩ (.bool date)).setCell ⟨gb+1,1,none⟩ (.bool true)).setCell ⟨gb+1,2,none⟩ (.bool false)).setCell ⟨gb+1,3,none⟩ (.int .i64 Y)).setCell ⟨gb+1,4,none⟩ (.int .i64 M)).setCell ⟨gb+1,5,none⟩ (.int .i64 D)).setCell ⟨gb+1,6,none⟩ (.int .i64 H)).setCell ⟨gb+1,7,none⟩ (.int .i64 N0)).setCell ⟨gb+1,8,none⟩ (.int .i64 C)).setCell ⟨gb+1,9,none⟩ (.int .i64 (F:Int))).setCell ⟨gb+1,10,none⟩ (.int .i64 0)).setCell ⟨gb+1,11,none⟩ (.bool false)) (gb+1) 111 (T12 date true false Y M D H N0 C (F:Int) 0 false)):=hid (za1 HV.out.2.2.2.1);have HSH:Hid (Below gb w ((((((((((((wr.setCell ⟨gb+1,0,none⟩ (.bool date)).setCell ⟨gb+1,1,none⟩ (.bool true)).setCell ⟨gb+1,2,none⟩ (.bool false)).setCell ⟨gb+1,3,none⟩ (.int .i64 Y)).setCell ⟨gb+1,4,none⟩ (.int .i64 M)).setCell ⟨gb+1,5,none⟩ (.int .i64 D)).setCell ⟨gb+1,6,none⟩ (.int .i64 H)).setCell ⟨gb+1,7,none⟩ (.int .i64 N0)).setCell ⟨gb+1,8,none⟩ (.int .i64 C)).setCell ⟨gb+1,9,none⟩ (.int .i64 (F:Int))).setCell ⟨gb+1,10,none⟩ (.int .i64 0)).setCell ⟨gb+1,11,none⟩ (.bool false))):=hid ((((((((((((HV.out.2.2.2.2.setCell (p:=⟨gb+1,0,none⟩) (by simp) (.bool date)).setCell (p:=⟨gb+1,1,none⟩) (by simp) (.bool true)).setCell (p:=⟨gb+1,2,none⟩) (by simp) (.bool false)).setCell (p:=⟨gb+1,3,none⟩) (by simp) (.int .i64 Y)).setCell (p:=⟨gb+1,4,none⟩) (by simp) (.int .i64 M)).setCell (p:=⟨gb+1,5,none⟩) (by simp) (.int .i64 D)).setCell (p:=⟨gb+1,6,none⟩) (by simp) (.int .i64 H)).setCell (p:=⟨gb+1,7,none⟩) (by simp) (.int .i64 N0)).setCell (p:=⟨gb+1,8,none⟩) (by simp) (.int .i64 C)).setCell (p:=⟨gb+1,9,none⟩) (by simp) (.int .i64 (F:Int))).setCell (p:=⟨gb+1,10,none⟩) (by simp) (.int .i64 0)).setCell (p:=⟨gb+1,11,none⟩) (by simp) (.bool false));obtain⟨e0,e1,e2,e3,e4,e5,e6,e7,e8,e9,e10,e11⟩:=zaf HSB.out;by_cases hn1:n<1
 ·have hn1I:(n:Int)<1:=by omega
  go_wp2_with fail;refine bodyPost_ret (v:=.tuple #[.agg #[.bool date,.bool true,.bool false,.int .i64 Y,.int .i64 M,.int .i64 D,.int .i64 H,.int .i64 N0,.int .i64 C,.int .i64 (F:Int),.int .i64 0,.bool false],.int .i64 (-1)]) (by rw[results_cell_tmp rfl];go_simp) rfl ?_;exact HGO.out _ _ _ _ (by rw[HGB.out];exact HSH.out) (.inl ⟨by obtain⟨h,m,c,h1,_⟩:=HE.out;rw[h1,if_pos (.inl hn1)],rfl⟩)
 ·have hn1I:¬(n:Int)<1:=by omega
  by_cases hn9:9<n
  ·have hn9I:(9:Int)<(n:Int):=by omega
   go_wp2_with fail;refine bodyPost_ret (v:=.tuple #[.agg #[.bool date,.bool true,.bool false,.int .i64 Y,.int .i64 M,.int .i64 D,.int .i64 H,.int .i64 N0,.int .i64 C,.int .i64 (F:Int),.int .i64 0,.bool false],.int .i64 (-1)]) (by rw[results_cell_tmp rfl];go_simp) rfl ?_;exact HGO.out _ _ _ _ (by rw[HGB.out];exact HSH.out) (.inl ⟨by obtain⟨h,m,c,h1,_⟩:=HE.out;rw[h1,if_pos (.inr hn9)],rfl⟩)
  ·have hn9I:¬(9:Int)<(n:Int):=by omega
   go_wp2_with fail;refine bodyPost_ret (v:=.tuple #[.agg #[.bool date,.bool true,.bool false,.int .i64 Y,.int .i64 M,.int .i64 D,.int .i64 H,.int .i64 N0,.int .i64 C,.int .i64 (F:Int),.int .i64 0,.bool false],.int .i64 ((a:Int)+8+1+(n:Int))]) (by rw[results_cell_tmp rfl];go_simp) rfl ?_;refine HGO.out _ _ _ _ (by rw[HGB.out];exact HSH.out) (.inr ?_);obtain⟨h,m,c,h1,h2,h3,h4⟩:=HE.out;exact⟨h,m,c,F,a+9+n,by rw[h1,if_neg (by omega)],by omega,rfl,h2,h3,h4,rfl⟩
theorem zkg (s:Gr.Str) (hl:s.length<=1073741823) (a:Nat) (ha:a<=1073741824) (date:Bool) (Y M D H N0 C:Int) (w wy:World) (gb:Nat)
 (HGO:Hid (∀(r:Int) (ok:Bool) (n:Int) (w':World),Below w.heap.size w w'->(clockAt s a=none/\r=-1\/∃h m c f t:Nat,clockAt s a=some ⟨h,m,c,f,t⟩/\r=(t:Int)/\ok=true/\H=h/\N0=m/\C=c/\n=f)->za3 s a date Y M D w (.returned (.tuple #[.agg #[.bool date,.bool ok,.bool false,.int .i64 Y,.int .i64 M,.int .i64 D,.int .i64 H,.int .i64 N0,.int .i64 C,.int .i64 n,.int .i64 0,.bool false],.int .i64 r])) w'))
 (HF:Hid (∃h m c:Nat,numAt s a 2=some h/\numAt s (a+3) 2=some m/\numAt s (a+6) 2=some c/\H=h/\N0=m/\C=c)) (HP:Hid (isAt s (a+2) 58=true/\isAt s (a+5) 58=true/\isAt s (a+8) 46=true))
 (HA8:Hid (a+9<=s.length)) (HGB:Hid (w.heap.size=gb)) (HB:Hid (Blk wy gb 111 (T12 date true false Y M D H N0 C 0 0 false)/\Blk wy (gb+1) 111 (T12 false false false 0 0 0 0 0 0 0 0 false)/\Below gb w wy))
 {u2 u3 u4 u7 u8 u9 u10 u11 u12 u13 u14 u15 u16 u17 u18 u19 u20 u21 u22 u23 u24 u25 u26 u27 u28 u29 u30 u31 u32 u33 u34 u35 u36 u37 u38 u39 u40 u41 u42 u43 u44 u45 u46 u47 u48 u49 u50 u51 u52 u53 u54 u55 u56 u57 u58 u59 u60 u61 u62 u63 u64 u65 u66 u67 u68 u69 u70 u71 u72 u73 u74 u75 u76 u77 u78 u79 u80 u81 u82 u83 u84 u85 u86 u87 u88 u89 u90 u91 u92 u93 u94 u95 u96 u97 u98 u99 u100 u101 u102 u103 u104 u105 u106 u107 u108 u109 u110 u111 u112 u113 u114 u115:Value}:
 Code.wp prog (tl 6 (f135.body.getD .skip)) (bodyPost prog f135 (za3 s a date Y M D w)) {tmps:=List.toArray (.string ⟨s.toArray⟩::.int .i64 ((a:Int)+8)::u2::u3::u4::.pointer (some ⟨gb,0,none⟩)::.pointer (some ⟨gb+1,0,none⟩)::u7::u8::u9::u10::u11::u12::u13::u14::u15::u16::u17::u18::u19::u20::u21::u22::u23::u24::u25::u26::u27::u28::u29::u30::u31::u32::u33::u34::u35::u36::u37::u38::u39::u40::u41::u42::u43::u44::u45::u46::u47::u48::u49::u50::u51::u52::u53::u54::u55::u56::u57::u58::u59::u60::u61::u62::u63::u64::u65::u66::u67::u68::u69::u70::u71::u72::u73::u74::u75::u76::u77::u78::u79::u80::u81::u82::u83::u84::u85::u86::u87::u88::u89::u90::u91::u92::u93::u94::u95::u96::u97::u98::u99::u100::u101::u102::u103::u104::u105::u106::u107::u108::u109::u110::u111::u112::u113::u114::u115::[]),defers:=[]} wy:=by
 generalize hc0:tl 6 (f135.body.getD .skip)=c0;simp only[tl,f135,Option.getD_some]at hc0;subst hc0;have ha0:(0:Int)<=(a:Int):=by omega
 go_upto_block 0 with fail;go_cut [8] (fun s8 wx=>∃n F:Nat,s8=.int .i64 (n:Int)/\n<=s.length/\F<=999999999/\Hid ((∀h2:a+9+n<s.length,Gr.dig (s[a+9+n]'h2)=false)/\Frac s (a+9) n F (fracU n)/\Blk wx gb 111 (T12 date true false Y M D H N0 C (F:Int) 0 false)/\Blk wx (gb+1) 111 (T12 false false false 0 0 0 0 0 0 0 0 false)/\Below gb w wx))
 case first=>
  go_wp2_with fail;go_loopw [8,9] (fun s8 s9 wr=>∃n F U:Nat,s8=.int .i64 (n:Int)/\s9=.int .i64 (U:Int)/\n<=s.length/\F<=999999999/\U<=100000000/\Hid (Frac s (a+9) n F U/\Blk wr gb 111 (T12 date true false Y M D H N0 C (F:Int) 0 false)/\Blk wr (gb+1) 111 (T12 false false false 0 0 0 0 0 0 0 0 false)/\Below gb w wr)) (fun s8 _ _=>s.length-(intOf s8).toNat)
  case atStart=>exact⟨0,0,100000000,rfl,rfl,by omega,by omega,by omega,hid ⟨Frac.start HA8.out,HB.out.1,HB.out.2.1,HB.out.2.2⟩⟩
  case round=>
   obtain⟨n,F,U,rfl,rfl,hn,hF,hU,HV⟩:=hrel;by_cases hlt:a+9+n<s.length
   ·have hltI:(a:Int)+8+1+(n:Int)<(s.length:Int):=by omega
    have hidx:((a:Int)+8+1+(n:Int)).toNat=a+9+n:=by omega
    obtain⟨b,hb⟩:∃b:Nat,(s[a+9+n]'hlt).toNat=b:=⟨_,rfl⟩
    have hbv:(((⟨s.toArray⟩:ByteArray)[a+9+n]'(by simpa[ByteArray.size]using hlt)).toNat:Int)=(b:Int):=by rw[<-hb];rfl
    have hbl:b<256:=by rw[<-hb];exact(s[a+9+n]'hlt).toNat_lt
    have HBD:=hid (zda (s[a+9+n]'hlt) b hb);clear hb;by_cases hd:48<=b/\b<=57
    ·obtain⟨h48,h57⟩:=hd;have a48:(48:Int)<=(b:Int):=by omega
     have a57:(b:Int)<=57:=by omega
     obtain⟨x,hx⟩:∃x:Nat,b-48=x:=⟨_,rfl⟩
     have hxi:(b:Int)-48=(x:Int):=by omega
     have hx9:x<=9:=by omega
     have HNX:Hid (Frac s (a+9) (n+1) (F+U*x) (U /10)):=hid (by
      have:=HV.out.1.next hlt (by rw[HBD.out.1];simp[h48,h57]);rwa[HBD.out.2,hx]at this)
     have HX:=hid hx;clear hx;have hFn:F+U*x<=999999999:=HNX.out.hi;obtain⟨G,hG⟩:∃G:Nat,F+U*x=G:=⟨_,rfl⟩
     have hGi:(F:Int)+(U:Int)*(x:Int)=(G:Int):=by rw[<-hG];simp
     have hUx:U*x<=900000000:=Nat.le_trans (Nat.mul_le_mul hU hx9) (by omega);have hm0:(0:Int)<=(U:Int)*(x:Int):=by rw[<-Int.natCast_mul];omega
     have hm1:(U:Int)*(x:Int)<=900000000:=by rw[<-Int.natCast_mul];omega
     rw[hG]at HNX hFn;have HG:=hid hG;clear hG hUx;have w1:IntKind.i64.wrap ((a:Int)+8+1)=(a:Int)+8+1:=IntWalk.i64_in _ (by omega);have w2:IntKind.i64.wrap ((a:Int)+8+1+(n:Int))=(a:Int)+8+1+(n:Int):=IntWalk.i64_in _ (by omega);have w3:IntKind.i64.wrap ((U:Int)*(x:Int))=(U:Int)*(x:Int):=IntWalk.i64_in _ (by omega);have w4:IntKind.i64.wrap ((F:Int)+(U:Int)*(x:Int))=(G:Int):=by rw[hGi];exact IntWalk.i64_in _ (by omega)
     have i0:(0:Int)<=(a:Int)+8+1+(n:Int):=by omega
     go_wp2_with fail;have p9:∀W:WB wr.heap.size wr,W.w.cell? ⟨gb,9,none⟩=some (.int .i64 (F:Int)):=fun W=>(W.h.cell (p:=⟨gb,9,none⟩) HV.out.2.1.lt).trans (HV.out.2.1.cell 9)
     refine zbe 14 wr.heap.size wr (by kernel_rfl) (by kernel_rfl) (Below.refl _ _) ?_;simp only[List.take_succ_cons,List.take_zero,List.drop_succ_cons,List.drop_zero]
     iterate 14 (go_big_quiet_step (fail))
     refine wpQuiet_nil ?_;rintro _ ⟨wz,rfl⟩;have hbz:=HV.out.2.1.below wz.h HV.out.2.1.lt;have q9:wz.w.cell? ⟨gb,9,none⟩=some (.int .i64 (F:Int)):=hbz.cell 9;have qf:∀j,wz.w.frozen? ⟨gb,j,none⟩=false:=hbz.frozen;have HNB:Hid (Blk (wz.w.setCell ⟨gb,9,none⟩ (.int .i64 (G:Int))) gb 111 (T12 date true false Y M D H N0 C (G:Int) 0 false)/\Blk (wz.w.setCell ⟨gb,9,none⟩ (.int .i64 (G:Int))) (gb+1) 111 (T12 false false false 0 0 0 0 0 0 0 0 false)/\Below gb w (wz.w.setCell ⟨gb,9,none⟩ (.int .i64 (G:Int)))):=hid ⟨hbz.set_ 9 _,(HV.out.2.2.1.below wz.h HV.out.2.2.1.lt).far (Nat.succ_ne_self gb) _,(HV.out.2.2.2.trans (wz.h.mono (Nat.le_of_lt HV.out.2.1.lt))).setCell (p:=⟨gb,9,none⟩) (by simp) _⟩;clear hbz p9;go_wp2;go_roundw
     case rel=>exact⟨n+1,G,U /10,by go_num,by exact congrArg (Value.int .i64) (by omega),by omega,hFn,by omega,hid ⟨HNX.out,HNB.out⟩⟩
     case measure=>simp[intOf];omega
    ·have HNO:Hid (∀h2:a+9+n<s.length,Gr.dig (s[a+9+n]'h2)=false):=hid (fun h2=>by rw[HBD.out.1];by_cases h48:48<=b<;>simp[h48]<;>omega);by_cases h48:48<=b
     ·have a48:(48:Int)<=(b:Int):=by omega
      have a57:¬(b:Int)<=57:=by omega
      go_wp2;go_meet;exact⟨n,F,rfl,hn,hF,hid ⟨HNO.out,by rw[<-HV.out.1.u];exact HV.out⟩⟩
     ·have a48:¬(48:Int)<=(b:Int):=by omega
      go_wp2;go_meet;exact⟨n,F,rfl,hn,hF,hid ⟨HNO.out,by rw[<-HV.out.1.u];exact HV.out⟩⟩
   ·have HNO:Hid (∀h2:a+9+n<s.length,Gr.dig (s[a+9+n]'h2)=false):=hid (fun h2=>absurd h2 hlt);have hltI:¬(a:Int)+8+1+(n:Int)<(s.length:Int):=by omega
    go_wp2;go_meet;exact⟨n,F,rfl,hn,hF,hid ⟨HNO.out,by rw[<-HV.out.1.u];exact HV.out⟩⟩
 case rest=>
  obtain⟨n,F,rfl,hn,hF,HV⟩:=hcut;refine(‹∀(a:Act) (w_1:World),Code.wp prog _ _ a w_1->_›) _ _ ?_;exact zkf s hl a ha date Y M D H N0 C w _ gb HGO HF HP HGB n F (fracU n) hn hF HV
theorem zm2 (s:Gr.Str) (hl:s.length<=1073741823) (a:Nat) (ha:a<=1073741824) (date:Bool) (Y M D H N0 C:Int) (z:Bool) (w wy:World) (gb:Nat)
 (HGO:Hid (∀(r:Int) (ok:Bool) (n:Int) (w':World),Below w.heap.size w w'->(clockAt s a=none/\r=-1\/∃h m c f t:Nat,clockAt s a=some ⟨h,m,c,f,t⟩/\r=(t:Int)/\ok=true/\H=h/\N0=m/\C=c/\n=f)->za3 s a date Y M D w (.returned (.tuple #[.agg #[.bool date,.bool ok,.bool false,.int .i64 Y,.int .i64 M,.int .i64 D,.int .i64 H,.int .i64 N0,.int .i64 C,.int .i64 n,.int .i64 0,.bool false],.int .i64 r])) w'))
 (HF:Hid (∃h m c:Nat,numAt s a 2=some h/\numAt s (a+3) 2=some m/\numAt s (a+6) 2=some c/\H=h/\N0=m/\C=c)) (HP:Hid (isAt s (a+2) 58=true/\isAt s (a+5) 58=true/\isAt s (a+8) 46=z))
 (HI3:Hid (∀W,Calls prog 136 #[.string ⟨s.toArray⟩,.int .i64 ((a:Int)+8),.int .u8 46] W fun e w'=>e=.returned (.bool z)/\W=w'))
 (HGB:Hid (w.heap.size=gb)) (HB:Hid (Blk wy gb 111 (T12 date true false Y M D H N0 C 0 0 false)/\Blk wy (gb+1) 111 (T12 false false false 0 0 0 0 0 0 0 0 false)/\Below gb w wy))
 {u2 u3 u4 u7 u8 u9 u10 u11 u12 u13 u14 u15 u16 u17 u18 u19 u20 u21 u22 u23 u24 u25 u26 u27 u28 u29 u30 u31 u32 u33 u34 u35 u36 u37 u38 u39 u40 u41 u42 u43 u44 u45 u46 u47 u48 u49 u50 u51 u52 u53 u54 u55 u56 u57 u58 u59 u60 u61 u62 u63 u64 u65 u66 u67 u68 u69 u70 u71 u72 u73 u74 u75 u76 u77 u78 u79 u80 u81 u82 u83 u84 u85 u86 u87 u88 u89 u90 u91 u92 u93 u94 u95 u96 u97 u98 u99 u100 u101 u102 u103 u104 u105 u106 u107 u108 u109 u110 u111 u112 u113 u114 u115:Value}:
 Code.wp prog (tl 5 (f135.body.getD .skip)) (bodyPost prog f135 (za3 s a date Y M D w)) {tmps:=List.toArray (.string ⟨s.toArray⟩::.int .i64 ((a:Int)+8)::u2::u3::u4::.pointer (some ⟨gb,0,none⟩)::.pointer (some ⟨gb+1,0,none⟩)::u7::u8::u9::u10::u11::u12::u13::u14::u15::u16::u17::u18::u19::u20::u21::u22::u23::u24::u25::u26::u27::u28::u29::u30::u31::u32::u33::u34::u35::u36::u37::u38::u39::u40::u41::u42::u43::u44::u45::u46::u47::u48::u49::u50::u51::u52::u53::u54::u55::u56::u57::u58::u59::u60::u61::u62::u63::u64::u65::u66::u67::u68::u69::u70::u71::u72::u73::u74::u75::u76::u77::u78::u79::u80::u81::u82::u83::u84::u85::u86::u87::u88::u89::u90::u91::u92::u93::u94::u95::u96::u97::u98::u99::u100::u101::u102::u103::u104::u105::u106::u107::u108::u109::u110::u111::u112::u113::u114::u115::[]),defers:=[]} wy:=by
 generalize hc0:tl 5 (f135.body.getD .skip)=c0;simp only[tl,f135,Option.getD_some]at hc0;subst hc0;go_upto_region 6 with fail;go_cut [58] (fun s58 wx=>s58=.bool (!z)/\wx=wy)
 case first=>
  go_wp2_with fail;refine(HI3.out _).mono ?_;rintro e w1 ⟨rfl,rfl⟩;go_wp2;go_meet;exact⟨rfl,rfl⟩
 case rest=>
 obtain⟨rfl,rfl⟩:=hcut;refine(‹∀(a:Act) (w_1:World),Code.wp prog _ _ a w_1->_›) _ _ ?_;go_cut [] (fun wz=>z=true/\wz=wc)
 case first=>
  obtain⟨q0,q1,q2,q3,q4,q5,q6,q7,q8,q9,q10,q11⟩:=zaf HB.out.1;have xb:∀j,wc.cell? ⟨gb+1,j,none⟩=(#[.bool false,.bool false,.bool false,.int .i64 0,.int .i64 0,.int .i64 0,.int .i64 0,.int .i64 0,.int .i64 0,.int .i64 0,.int .i64 0,.bool false]:Array Value)[j]? :=fun j=>HB.out.2.1.cell j
  have xf:∀j,wc.frozen? ⟨gb+1,j,none⟩=false:=HB.out.2.1.frozen;cases z with
  |false=>
   go_wp2_with fail;have HSB:Hid (Blk ((((((((((((wc.setCell ⟨gb+1,0,none⟩ (.bool date)).setCell ⟨gb+1,1,none⟩ (.bool true)).setCell ⟨gb+1,2,none⟩ (.bool false)).setCell ⟨gb+1,3,none⟩ (.int .i64 Y)).setCell ⟨gb+1,4,none⟩ (.int .i64 M)).setCell ⟨gb+1,5,none⟩ (.int .i64 D)).setCell ⟨gb+1,6,none⟩ (.int .i64 H)).setCell ⟨gb+1,7,none⟩ (.int .i64 N0)).setCell ⟨gb+1,8,none⟩ (.int .i64 C)).setCell ⟨gb+1,9,none⟩ (.int .i64 0)).setCell ⟨gb+1,10,none⟩ (.int .i64 0)).setCell ⟨gb+1,11,none⟩ (.bool false)) (gb+1) 111 (T12 date true false Y M D H N0 C 0 0 false)):=Lib.hid (za1 HB.out.2.1);have HSH:Hid (Below gb w ((((((((((((wc.setCell ⟨gb+1,0,none⟩ (.bool date)).setCell ⟨gb+1,1,none⟩ (.bool true)).setCell ⟨gb+1,2,none⟩ (.bool false)).setCell ⟨gb+1,3,none⟩ (.int .i64 Y)).setCell ⟨gb+1,4,none⟩ (.int .i64 M)).setCell ⟨gb+1,5,none⟩ (.int .i64 D)).setCell ⟨gb+1,6,none⟩ (.int .i64 H)).setCell ⟨gb+1,7,none⟩ (.int .i64 N0)).setCell ⟨gb+1,8,none⟩ (.int .i64 C)).setCell ⟨gb+1,9,none⟩ (.int .i64 0)).setCell ⟨gb+1,10,none⟩ (.int .i64 0)).setCell ⟨gb+1,11,none⟩ (.bool false))):=Lib.hid (zbr HB.out.2.2 (Nat.le_succ gb));obtain⟨e0,e1,e2,e3,e4,e5,e6,e7,e8,e9,e10,e11⟩:=zaf HSB.out;refine bodyPost_ret (v:=.tuple #[.agg #[.bool date,.bool true,.bool false,.int .i64 Y,.int .i64 M,.int .i64 D,.int .i64 H,.int .i64 N0,.int .i64 C,.int .i64 0,.int .i64 0,.bool false],.int .i64 ((a:Int)+8)]) (by rw[results_cell_tmp rfl];go_simp) rfl ?_;refine HGO.out _ _ _ _ (by rw[HGB.out];exact HSH.out) (.inr ?_);obtain⟨h,m,c,h1,h2,h3,h4,h5,h6⟩:=HF.out;exact⟨h,m,c,0,a+8,zh2 h1 h2 h3 HP.out.1 HP.out.2.1 HP.out.2.2,by omega,rfl,h4,h5,h6,rfl⟩
  |true=>
   go_wp2;go_meet
   first|exact⟨rfl,rfl⟩|exact⟨trivial,rfl⟩
 case rest=>
  obtain⟨rfl,rfl⟩:=hcut;have HA8:Hid (a+9<=s.length):=Lib.hid (by
   have:=HP.out.2.2;unfold isAt at this;rcases Nat.lt_or_ge (a+8) s.length with h|h
   ·omega
   ·rw[List.getElem?_eq_none h]at this;cases this)
  refine(‹∀(a:Act) (w_1:World),Code.wp prog _ _ a w_1->_›) _ _ ?_;exact zkg s hl a ha date Y M D H N0 C w _ gb HGO HF HP HA8 HGB HB
end Go.Proofs.YtoigpackhninoaaGreatDoor
