import Derived.Test.YtoigpackhninoaaGreatDoorGrDecE
import Derived.Test.YtoigpackhninoaaGreatDoorGrCheck
namespace Go.Proofs.YtoigpackhninoaaGreatDoor
open _root_.Go.Proofs.Tryz
open Lib (hid)
set_option maxRecDepth 100000
set_option maxHeartbeats 16000000
open Go.RowKit Go.Sort
theorem tz64_core (x k idx:Nat) (w:World) (hx0:((x:Int)==0)=false)
 (key:IntKind.u64.wrap (bits BinOp.and IntKind.u64 (x:Int) (IntKind.u64.wrap (-(x:Int)))*285870213051353865) /288230376151711744=(idx:Int))
 (hi:idx<64) (hk:k<64) (hcell:w.cell? ⟨6,idx,none⟩=some (.int .u8 k)):
 Calls prog 181 #[.int .u64 x] w fun e w'=>e=.returned (.int .i64 k)/\w'=w:=by
 go_enter func181,ntmps181;go_wp2_with (simp only[key]);go_ret;exact⟨rfl,rfl⟩
theorem zsz (x:Nat) (hx0:x≠0) (hx:x<18446744073709551616) (w:World) (hT:UT w):
 Calls prog 181 #[.int .u64 x] w fun e w'=>e=.returned (.int .i64 (Lib.ctz 64 x))/\w'=w:=by
 obtain⟨hlow,hk⟩:=Lib.lowest_bit 64 x hx0 hx;obtain⟨hi,htab⟩:=Lib.deBruijn64_at _ hk;have hcell:=hT.bru _ hi;rw[htab]at hcell;exact tz64_core x _ _ w (by simp;omega) (tz64_key x _ hx hx0 hlow) hi hk hcell
open Flt in
theorem zp1 (m L:Nat) (e:Int) (h:Flt.Fits m L e) (f:Nat) (hf:fw m L e=f) (w:World) (hT:UT w):Calls prog 155 #[.float .f64 f] w fun r w'=>r=.returned (.tuple #[.int .u64 (m:Int),.int .i64 e])/\w=w':=by
 have hlt:=h.fw_lt.2;obtain⟨z,hz,hsg,_,hcase⟩:=h.fields;have hsb:=h.sig_bd;have hmz:m*2 ^ z<9007199254740992:=by rw[<-hsg];exact hsb.2.1
 have hm0:0<m*2 ^ z:=by rw[<-hsg];exact hsb.1
 have hmb:m<9007199254740992:=by have:=h.hi;have h2:=zfe (L+1) h.len;omega
 rw[hf]at hcase hlt;have HA:=hid (fun W=>zg9 f (by omega) W);have c1:=fun W=>zck f W
 have i1:=zss f (by omega);have HTZ:=hid (zsz (m*2 ^ z) (by omega) (by omega) w hT);rw[zxu m z h.odd (by omega)]at HTZ;obtain⟨M,hM⟩:=ex (m*2 ^ z)
 have hdiv:(M:Int) /2 ^ z=(m:Int):=by rw[<-hM];push_cast;exact Int.mul_ediv_cancel _ (by have:=Int.pow_pos (n:=2) (m:=z) (by omega);omega)
 rw[hM]at HTZ hcase hmz hm0;have hz0:(0:Int)<=(z:Int):=by omega
 have hz1:(z:Int)<=52:=by omega
 have hzn:((z:Int)).toNat=z:=by omega
 rcases hcase with⟨k0,kq,ke⟩|⟨k,k0,kl,kq,ke⟩
 ·have i2:(f:Int) /4503599627370496=0:=by omega
  have HE:=hid ke;rw[kq]at i1;clear h hsb hf hT hsg hM k0 kq ke hlt hmz hm0 hmb;go_enter func155,ntmps155;go_wp2_with fail;refine(HA.out _).mono ?_;rintro _ w1 ⟨rfl,rfl⟩;go_wp2_with fail;refine HTZ.out.mono ?_;rintro _ w1 ⟨rfl,rfl⟩;go_wp2;go_ret2;refine⟨?_,rfl⟩;rw[HE.out];rfl
 ·have i2:(f:Int) /4503599627370496=(k:Int)+1:=by omega
  have i3:IntKind.i64.wrap ((k:Int)+1)=(k:Int)+1:=IntWalk.i64_in _ (by omega);have i5:((k:Int)+1==0)=false:=by simp;omega
  have i6:=or_one (f%4503599627370496) (by omega);rw[kq]at i6;obtain⟨Q,hQ⟩:=ex (f%4503599627370496)
  rw[hQ]at i1 i6;have HE:Hid (e=(k:Int)+1-1075+z):=hid (by omega);have hk0:(0:Int)<=(k:Int):=by omega
  have hk1:(k:Int)<=2045:=by omega
  clear h hsb hf hT hsg hM k0 kq ke hlt hmz hm0 hmb hQ kl;go_enter func155,ntmps155;go_wp2_with fail;refine(HA.out _).mono ?_;rintro _ w1 ⟨rfl,rfl⟩;go_wp2_with fail;refine HTZ.out.mono ?_;rintro _ w1 ⟨rfl,rfl⟩;go_wp2;go_ret2;refine⟨?_,rfl⟩;rw[HE.out];rfl
theorem zxz (u:Nat) (hu64:u<18446744073709551616) (w:World) (hT:UT w):
 Calls prog 182 #[.int .u64 u,.int .i64 10] w fun e w'=>e=.returned (.string ⟨(Lib.decDigits u).toArray⟩)/\Below w.heap.size w w':=by
 by_cases hs:u<100
 ·have hsI:(u:Int)<100:=by omega
  have hw:IntKind.i64.wrap (u:Int)=(u:Int):=IntWalk.i64_in _ (by omega);have HS:=hid (fun W=>internal_strconv_small u hs W);go_enter func182,ntmps182;go_wp2_with fail;refine(HS.out _).mono ?_;rintro e w1 ⟨rfl,rfl⟩;go_wp2;go_ret;exact⟨rfl,Below.refl _ _⟩
 ·have hsI:¬(u:Int)<100:=by omega
  have hu1:1<=u:=by omega
  have hnd20:Lib.nDigits u<=20:=by have:=Lib.numDigits_eq u hu1 hu64;split at this<;>omega
  have hal:prog.arrayLen 229=24:=by kernel_rfl
  have hel:prog.underlying 229=some (.array 24 5):=underlying229;have hsl1:∀W,(Instr.sliceAt 229 (.pointer (some ⟨w.heap.size,0,none⟩)) none (some (.int .i64 (Lib.nDigits u:Int))) none).run prog W=.ok (.slice (some ⟨w.heap.size,0,none⟩) (Lib.nDigits u) 24) W:=fun W=>by
   rw[run_sliceAt_array_h W 229 ⟨w.heap.size,0,none⟩ (by simp[Program.arrayLen,Program.elem,hel]) .i64 (Lib.nDigits u:Int) (by omega) (by rw[hal];omega)];go_simp
  have hH0:=Lib.holds_zero0 w 229 (Lib.nDigits u) (by omega);have hfmt:=internal_strconv_formatBase10 w.heap.size 0 24 u (Array.replicate (Lib.nDigits u) 0) (w.alloc (.cells Lib.zeros24 229)) hH0 (by rw[Array.size_replicate];exact Lib.lt_pow_nDigits u) hu64 (by rw[Array.size_replicate];omega);rw[Array.size_replicate]at hfmt;have HF:=hid hfmt;have HH0:=hid hH0;have HND:=hid (fun W (hW:UT W)=>internal_strconv_numDigits u hu1 hu64 W hW.pow);have HUT:Hid (UT (w.alloc (.cells Lib.zeros24 229))):=hid (UT.stays _ _ hT ((Below.refl _ _).alloc (Nat.le_refl _) _));clear hH0 hfmt hal hel hT hs hu1;go_enter func182,ntmps182;go_wp2_with fail;refine(HND.out _ HUT.out).mono ?_;rintro e w1 ⟨rfl,rfl⟩;go_wp2_with fail;refine HF.out.mono ?_;rintro e w1 ⟨rfl,k,v',dk,rfl,hF⟩;have hcv:(convert 119 9 (.slice (some ⟨w.heap.size,0,none⟩) (Lib.nDigits u) 24)).run prog ((putRow (fun(b:UInt8)=>Value.int .u8 (b.toNat:Int)) (w.alloc (.cells Lib.zeros24 229)) w.heap.size 0 dk).drewN k)=.ok (.string ⟨(Lib.decDigits u).toArray⟩) ((putRow (fun(b:UInt8)=>Value.int .u8 (b.toNat:Int)) (w.alloc (.cells Lib.zeros24 229)) w.heap.size 0 dk).drewN k):=by
   have h:=run_convert_bytes_back (P:=prog) ((putRow (fun(b:UInt8)=>Value.int .u8 (b.toNat:Int)) (w.alloc (.cells Lib.zeros24 229)) w.heap.size 0 dk).drewN k) 119 9 5 ⟨w.heap.size,0,none⟩ 24 (Lib.decDigits u) underlying119 underlying5 underlying9 (fun j hj=>by
    rw[Lib.row_is_numeral hF j hj,Lib.add_plain,World.cell?_drewN];exact cell?_putRow (fun(b:UInt8)=>Value.int .u8 (b.toNat:Int)) _ w.heap.size 0 _ dk HH0.out (by rw[hF.size,Array.size_replicate]) j (by rw[hF.size];rw[Lib.decDigits_length]at hj;exact hj))
   rw[Lib.decDigits_length]at h;exact h
  obtain⟨os,eo⟩:=Lib.fin_at w (.cells Lib.zeros24 229) dk k 0;have HEO:=hid eo;clear hF eo;go_wp2;go_ret;refine⟨rfl,?_⟩;rw[HEO.out];exact Lib.below_grow _ _ (Nat.le_refl _) _ _
theorem zvu (u:Nat) (hu64:u<18446744073709551616) (w:World) (hT:UT w):
 Calls prog 156 #[.int .u64 u,.int .i64 10] w fun e w'=>e=.returned (.string ⟨(Lib.decDigits u).toArray⟩)/\Below w.heap.size w w':=by
 have HF:=hid (zxz u hu64 w hT);clear hT;go_enter func156,ntmps156;go_wp2_with fail;refine HF.out.mono ?_;rintro e w1 ⟨rfl,hb⟩;have HB:=hid hb;clear hb;go_wp2;go_ret;exact⟨rfl,HB.out⟩
open Flt in
theorem zp2 (m L:Nat) (e:Int) (h:Flt.Fits m L e) (f:Nat) (hf:fw m L e=f) (w:World) (hT:UT w):Calls prog 121 #[.float .f64 f] w fun r w'=>r=.returned (.string ⟨(Lib.decDigits m++112::Lib.itoa e).toArray⟩)/\Below w.heap.size w w':=by
 have hlt:=h.fw_lt.2;have o1:=h.o_zero;have o2:=h.o_self;have hmb:m<9007199254740992:=by have:=h.hi;have h2:=zfe (L+1) h.len;omega
 have HI:=hid (fun W=>zla f (by omega) (by rw[<-hf];exact h.o_max) W);have HS:=hid (fun W=>zpr f (by omega) W);have HSP:=hid (fun W hW=>zp1 m L e h f hf W hW);have he0:=h.e0;have he1:=h.e1;have HF:=hid (fun W hW=>zvu m (by omega) W hW);have HIT:=hid (fun W hW=>zhd e (by omega) (by omega) W hW);have dl:(Lib.decDigits m).length<=20:=by
  have h2:=congrArg List.length (Gr.zpc 20 m (by omega) (by omega));rw[List.length_append,List.length_replicate,Gr.za4]at h2;omega
 have il:=zhe e (by omega) (by omega);obtain⟨D,hD⟩:∃D:Gr.Str,Lib.decDigits m=D:=⟨_,rfl⟩
 obtain⟨I,hI⟩:∃I:Gr.Str,Lib.itoa e=I:=⟨_,rfl⟩
 rw[hD]at HF dl;rw[hI]at HIT il;obtain⟨s1,hs1⟩:∃x:Gr.Str,[]++D=x:=⟨_,rfl⟩
 have Ls1:s1.length<=30:=by rw[<-hs1];simp;omega
 have as1:=fun W=>zab [] D (by simp;omega) W
 rw[hs1]at as1;obtain⟨s2,hs2⟩:∃x:Gr.Str,s1++[112]=x:=⟨_,rfl⟩
 have Ls2:s2.length<=40:=by rw[<-hs2];simp;omega
 have as2:=fun W=>zab s1 [112] (by simp;omega) W
 rw[hs2]at as2;obtain⟨s3,hs3⟩:∃x:Gr.Str,s2++I=x:=⟨_,rfl⟩
 have as3:=fun W=>zab s2 I (by omega) W
 rw[hs3]at as3;have HE:Hid (D++112::I=s3):=hid (by rw[<-hs3,<-hs2,<-hs1];simp);have HUT:=hid hT;rw[hf]at o1 o2;rw[hD,hI];clear h hf hT hD hI hs1 hs2 hs3;go_enter func121,ntmps121;go_wp2_with fail;refine(HS.out _).mono ?_;rintro r w1 ⟨rfl,rfl⟩;go_wp2_with fail;refine(HI.out _).mono ?_;rintro r w1 ⟨rfl,rfl⟩;go_wp2_with fail;refine(HSP.out _ HUT.out).mono ?_;rintro r w1 ⟨rfl,rfl⟩;go_wp2_with fail;refine(HF.out _ HUT.out).mono ?_;rintro r w2 ⟨rfl,hb2⟩;have HB2:=hid hb2;clear hb2;go_wp2_with fail;refine(HIT.out _ (UT.stays _ _ HUT.out HB2.out)).mono ?_;rintro r w3 ⟨rfl,hb3⟩;have HB3:=hid (HB2.out.trans (hb3.mono HB2.out.size));clear hb3;go_wp2;go_ret;rw[HE.out];exact⟨rfl,HB3.out⟩
open Gr
open Go.RowKit
theorem zmx (m:Nat) (h0:m≠0) (h:m<18446744073709551616):Lib.bitLen m=m.log2+1/\2 ^ m.log2<=m/\m<2 ^ (m.log2+1):=by
 have h1:=Nat.log2_self_le h0;have h2:m<2 ^ (m.log2+1):=Nat.lt_log2_self;refine⟨?_,h1,h2⟩;rw[Lib.bitLen_shift m.log2 m h1 h];have:m /2 ^ m.log2=1:=by
  apply Nat.div_eq_of_lt_le
  ·simpa using h1
  ·rw[Nat.pow_succ]at h2;omega
 rw[this];rfl
theorem zvw (m:Nat) (e:Int) (hm:m<18446744073709551616) (h:fitsB m e=true):∃L,Flt.Fits m L e:=by
 unfold fitsB at h;simp only[Bool.and_eq_true,decide_eq_true_eq,beq_iff_eq]at h;obtain⟨⟨⟨⟨h1,h2⟩,h3⟩,h4⟩,h5⟩:=h;obtain⟨b1,b2,b3⟩:=zmx m (by omega) hm;exact⟨m.log2,h1,b2,b3,by omega,h3,by rw[b1]at h5;omega⟩
theorem zs3 (m:Nat) (hm:m<18446744073709551616) (e:Int) (h0:-9223372036854775808<=e) (h1:e<=9223372036854775807) (w:World):Calls prog 119 #[.int .u64 m,.int .i64 e] w fun r w'=>r=.returned (.bool (fitsB m e))/\w=w':=by
 have HL:=hid (fun W=>bits_Len64 (m:Int) W (by omega) (by omega));have hbl:Lib.bitLen m<=64:=Lib.bitLen_le m 64 (by omega) (by omega);have ht:((m:Int)).toNat=m:=by omega
 rw[ht]at HL;obtain⟨b,hb⟩:=ex (Lib.bitLen m)
 have HB:Hid (fitsB m e=(decide (m%2=1) && decide (b<=53) && decide (-1074<=e) && decide (e<=1023) && decide (e+b<=1024))):=hid (by unfold fitsB;rw[hb];rfl);rw[hb]at HL hbl;clear hb ht;obtain⟨r,hr⟩:=ex (fitsB m e)
 rw[hr]at HB ⊢;clear hr;by_cases k1:m%2=1
 ·have i1:(m:Int)%2=1:=by omega
  have i1b:((m:Int)%2==1)=true:=by simpa using i1
  by_cases k2:b<=53
  ·have i2:(b:Int)<=53:=by omega
   by_cases k3:-1074<=e
   ·by_cases k4:e<=1023
    ·by_cases k5:e+b<=1024
     ·have HF:Hid (r=true):=hid (by rw[HB.out];simp[k1,k2,k3,k4,k5]);clear k1 k2;go_enter func119,ntmps119;go_wp2_with fail;refine(HL.out _).mono ?_;rintro _ w1 ⟨rfl,rfl⟩;go_wp2;go_ret;rw[HF.out];exact⟨by first|rfl|simp[*],rfl⟩
     ·have HF:Hid (r=false):=hid (by rw[HB.out];simp[k5]);clear k1 k2;go_enter func119,ntmps119;go_wp2_with fail;refine(HL.out _).mono ?_;rintro _ w1 ⟨rfl,rfl⟩;go_wp2;go_ret;rw[HF.out];exact⟨by first|rfl|simp[*],rfl⟩
    ·have HF:Hid (r=false):=hid (by rw[HB.out];simp[k4]);clear k1 k2;go_enter func119,ntmps119;go_wp2_with fail;refine(HL.out _).mono ?_;rintro _ w1 ⟨rfl,rfl⟩;go_wp2;go_ret;rw[HF.out];exact⟨by first|rfl|simp[*],rfl⟩
   ·have HF:Hid (r=false):=hid (by rw[HB.out];simp[k3]);clear k1 k2;go_enter func119,ntmps119;go_wp2_with fail;refine(HL.out _).mono ?_;rintro _ w1 ⟨rfl,rfl⟩;go_wp2;go_ret;rw[HF.out];exact⟨by first|rfl|simp[*],rfl⟩
  ·have i2:¬(b:Int)<=53:=by omega
   have HF:Hid (r=false):=hid (by rw[HB.out];simp[k2]);clear k1 k2;go_enter func119,ntmps119;go_wp2_with fail;refine(HL.out _).mono ?_;rintro _ w1 ⟨rfl,rfl⟩;go_wp2;go_ret;rw[HF.out];exact⟨by first|rfl|simp[*],rfl⟩
 ·have i1:¬(m:Int)%2=1:=by omega
  have i1b:((m:Int)%2==1)=false:=by simpa using i1
  have HF:Hid (r=false):=hid (by rw[HB.out];simp[k1]);clear k1;go_enter func119,ntmps119;go_wp2_with fail;refine(HL.out _).mono ?_;rintro _ w1 ⟨rfl,rfl⟩;go_wp2;go_ret;rw[HF.out];exact⟨by first|rfl|simp[*],rfl⟩
theorem zs4 (s:Gr.Str) (w:World):(callFunc 165 #[.string ⟨s.toArray⟩,.int .u8 112]).run prog w=.ok (.value (.int .i64 (Lib.indexByte s 112))) w:=by
 rw[run_callFunc_extern func165 (by kernel_rfl) (by kernel_rfl) (by kernel_rfl) (e:=Extern.BytealgIndexByte.indexByte) (by kernel_rfl),Lib.run_indexByteString];rfl
theorem zs5 (s:Gr.Str) (w:World):Calls prog 140 #[.string ⟨s.toArray⟩,.int .u8 112] w fun e w'=>e=.returned (.int .i64 (Lib.indexByte s 112))/\w=w':=by
 have c1:=fun W=>zs4 s W
 go_enter func140,ntmps140;go_wp2;go_ret;exact⟨rfl,rfl⟩
theorem zvx (s:Gr.Str) (w:World):Calls prog 175 #[.string ⟨s.toArray⟩,.string ⟨#[112]⟩] w fun e w'=>e=.returned (.int .i64 (Lib.indexByte s 112))/\w=w':=by
 by_cases hs:[112]=s
 ·subst hs;go_enter func175,ntmps175;go_wp2;go_ret;exact⟨rfl,rfl⟩
 ·have h1:(([112]:List UInt8)==s)=false:=by rw[beq_eq_false_iff_ne];exact hs
  have h2:(s==([112]:List UInt8))=false:=by rw[beq_eq_false_iff_ne];exact fun e=>hs e.symm
  have HI:=hid (fun W=>zs5 s W);obtain⟨i,hi⟩:=ex (Lib.indexByte s 112)
  rw[hi]at HI ⊢;clear hi;go_enter func175,ntmps175;go_wp2_with fail;refine(HI.out _).mono ?_;rintro _ w1 ⟨rfl,rfl⟩;go_wp2;go_ret;exact⟨rfl,rfl⟩
def cutV (t:Gr.Str):Value:=match t.dropWhile (fun c=>c != 112)with
 | []=>.tuple #[.string ⟨t.toArray⟩,.string ⟨#[]⟩,.bool false]
 |_::b=>.tuple #[.string ⟨(Gr.fA t).toArray⟩,.string ⟨b.toArray⟩,.bool true]
theorem zld (t:Gr.Str) {c:UInt8} {b:Gr.Str} (h:t.dropWhile (fun c=>c != 112)=c::b):t=Gr.fA t++c::b:=by
 have:=List.takeWhile_append_dropWhile (p:=fun c:UInt8=>c != 112) (l:=t);rw[h]at this;exact this.symm
theorem zx0 (t:Gr.Str) (hl:t.length<=1073741823) (w:World):Calls prog 148 #[.string ⟨t.toArray⟩,.string ⟨#[112]⟩] w fun e w'=>e=.returned (cutV t)/\Below w.heap.size w w':=by
 have HI:=hid (fun W=>zvx t W);have hix:=zj5 t 112;unfold cutV;cases hd:t.dropWhile (fun c=>c != 112)with
 |nil=>
  rw[if_pos hd]at hix;rw[hix]at HI;clear hix hd;go_enter func148,ntmps148;go_wp2_with fail;refine(HI.out _).mono ?_;rintro _ w1 ⟨rfl,rfl⟩;go_wp2_with fail;exact bodyPost_ret (v:=.tuple #[.string ⟨t.toArray⟩,.string ⟨#[]⟩,.bool false]) (by simp[results,go_sem]) rfl ⟨rfl,Below.refl _ _⟩
 |cons c b=>
  rw[if_neg (by rw[hd];exact List.cons_ne_nil _ _)]at hix;have hsp:=zld t hd;obtain⟨a,ha⟩:=ex (Gr.fA t)
  have hix:Lib.indexByte t 112=((Gr.fA t).length:Int):=hix;rw[hix,ha]at HI;rw[ha]at hsp;simp only;rw[ha];have hla:a.length+1<=t.length:=by rw[hsp];simp
  have hlaI:(a.length:Int)+1<=(t.length:Int):=by omega
  have e1:(⟨t.toArray⟩:ByteArray).extract 0 a.length=⟨a.toArray⟩:=by rw[zas,hsp];simp
  have e2:(⟨t.toArray⟩:ByteArray).extract (a.length+1) t.length=⟨b.toArray⟩:=by rw[zas,List.take_of_length_le (by simp),hsp];simp
  clear hix hd ha hsp;have i1:IntKind.i64.wrap ((a.length:Int)+1)=(a.length:Int)+1:=IntWalk.i64_in _ (by omega);have i2:((a.length:Int)+1).toNat=a.length+1:=by omega
  have i3:(0:Int)<=(a.length:Int)+1:=by omega
  go_enter func148,ntmps148;go_wp2_with fail;refine(HI.out _).mono ?_;rintro _ w1 ⟨rfl,rfl⟩;go_wp2_with fail;go_quiet (fail);go_wp2_with fail;exact bodyPost_ret (v:=.tuple #[.string ⟨a.toArray⟩,.string ⟨b.toArray⟩,.bool true]) (by simp[results,go_sem]) rfl ⟨rfl,below_drewN (Below.refl _ _) _⟩
theorem zvy (t:Gr.Str) (hl:t.length<=1073741823) (w:World):Calls prog 117 #[.string ⟨t.toArray⟩,.string ⟨#[112]⟩] w fun e w'=>e=.returned (cutV t)/\Below w.heap.size w w':=by
 have HC:=hid (zx0 t hl w);unfold cutV at HC ⊢;cases hd:t.dropWhile (fun c=>c != 112)with
 |nil=>
  rw[hd]at HC;simp only at HC;clear hd;go_enter func117,ntmps117;go_wp2_with fail;refine HC.out.mono ?_;rintro _ w1 ⟨rfl,hb⟩;have HB:=hid hb;clear hb;go_wp2_with fail;exact bodyPost_ret (v:=.tuple #[.string ⟨t.toArray⟩,.string ⟨#[]⟩,.bool false]) (by simp[results,go_sem]) rfl ⟨rfl,HB.out⟩
 |cons c b=>
  rw[hd]at HC;simp only at HC ⊢;obtain⟨a,ha⟩:=ex (Gr.fA t)
  rw[ha]at HC ⊢;clear hd ha;go_enter func117,ntmps117;go_wp2_with fail;refine HC.out.mono ?_;rintro _ w1 ⟨rfl,hb⟩;have HB:=hid hb;clear hb;go_wp2_with fail;exact bodyPost_ret (v:=.tuple #[.string ⟨a.toArray⟩,.string ⟨b.toArray⟩,.bool true]) (by simp[results,go_sem]) rfl ⟨rfl,HB.out⟩
def FPost (b:Bool) (w:World) (e:Ending) (w':World):Prop:=(∃g:Nat,e=.returned (.tuple #[.float .f64 g,.bool b]))/\Below w.heap.size w w'
theorem zx1 (a:Gr.Str) (hl:a.length<=1073741823) (w:World) (hT:UT w):Calls prog 118 #[.string ⟨a.toArray⟩,.int .i64 10,.int .i64 64] w fun e w'=>(∃(v:Int) (er:Value),e=.returned (.tuple #[.int .u64 v,er]))/\Below w.heap.size w w':=by
 have hs:(⟨a.toArray⟩:ByteArray).size=a.length:=by simp[ByteArray.size]
 cases h:Lib.parseUintB 64 (⟨a.toArray⟩:ByteArray).data.toList with
 |ok u=>
  refine(strconv_ParseUint_10_at64_ok ⟨a.toArray⟩ (by omega) u h w).mono ?_;rintro e w' ⟨rfl,hw⟩;refine⟨⟨_,_,rfl⟩,?_⟩;rcases hw with rfl|rfl
  ·exact Below.refl _ _
  ·exact Lib.bytesWorld_below _ _ _
 |range=>
  obtain⟨te,p,hes⟩:=hT.er;refine(strconv_ParseUint_10_at64_range ⟨a.toArray⟩ (by omega) h _ w hes (.inr ⟨te,p,rfl⟩)).mono ?_;rintro e w' ⟨N,rfl,_,_,hb⟩;exact⟨⟨_,_,rfl⟩,hb⟩
 |_=>
  obtain⟨te,p,hes⟩:=hT.es;refine(strconv_ParseUint_10_at64_syntax ⟨a.toArray⟩ (by omega) h _ w hes (.inr ⟨te,p,rfl⟩)).mono ?_;rintro e w' ⟨N,rfl,_,_,hb⟩;exact⟨⟨_,_,rfl⟩,hb⟩
theorem zyn (a:Gr.Str) (hl:a.length<=1073741823) (u:Nat) (h:Lib.parseUintB 64 a=.ok u) (w:World):Calls prog 118 #[.string ⟨a.toArray⟩,.int .i64 10,.int .i64 64] w fun e w'=>e=.returned (.tuple #[.int .u64 u,.nilIface])/\Below w.heap.size w w':=by
 have hs:(⟨a.toArray⟩:ByteArray).size=a.length:=by simp[ByteArray.size]
 refine(strconv_ParseUint_10_at64_ok ⟨a.toArray⟩ (by omega) u h w).mono ?_;rintro e w' ⟨rfl,hw⟩;refine⟨rfl,?_⟩;rcases hw with rfl|rfl
 ·exact Below.refl _ _
 ·exact Lib.bytesWorld_below _ _ _
theorem zyo (a:Gr.Str) (hl:a.length<=1073741823) (h:∀u,Lib.parseUintB 64 a≠.ok u) (w:World) (hT:UT w):Calls prog 118 #[.string ⟨a.toArray⟩,.int .i64 10,.int .i64 64] w fun e w'=>(∃(v:Int) (te:TypeId) (p:Value),e=.returned (.tuple #[.int .u64 v,.iface te p]))/\Below w.heap.size w w':=by
 have hs:(⟨a.toArray⟩:ByteArray).size=a.length:=by simp[ByteArray.size]
 cases h2:Lib.parseUintB 64 (⟨a.toArray⟩:ByteArray).data.toList with
 |ok u=>exact absurd h2 (h u)
 |range=>
  obtain⟨te,p,hes⟩:=hT.er;refine(strconv_ParseUint_10_at64_range ⟨a.toArray⟩ (by omega) h2 _ w hes (.inr ⟨te,p,rfl⟩)).mono ?_;rintro e w' ⟨N,rfl,_,_,hb⟩;exact⟨⟨_,_,_,rfl⟩,hb⟩
 |_=>
  obtain⟨te,p,hes⟩:=hT.es;refine(strconv_ParseUint_10_at64_syntax ⟨a.toArray⟩ (by omega) h2 _ w hes (.inr ⟨te,p,rfl⟩)).mono ?_;rintro e w' ⟨N,rfl,_,_,hb⟩;exact⟨⟨_,_,_,rfl⟩,hb⟩
theorem zp9 (a:Gr.Str) (hl:a.length<=1073741823) (w:World) (hT:UT w):Calls prog 108 #[.string ⟨a.toArray⟩] w fun e w'=>(∃(v:Int) (er:Value),e=.returned (.tuple #[.int .i64 v,er]))/\Below w.heap.size w w':=by
 have hs:(⟨a.toArray⟩:ByteArray).size=a.length:=by simp[ByteArray.size]
 cases h:Lib.atoiAll (⟨a.toArray⟩:ByteArray).data.toList with
 |ok u=>
  refine(strconv_Atoi_ok ⟨a.toArray⟩ (by omega) u h w).mono ?_;rintro e w' ⟨rfl,hw⟩;refine⟨⟨_,_,rfl⟩,?_⟩;rcases hw with rfl|⟨t,rfl⟩
  ·exact Below.refl _ _
  ·exact Lib.bytesWorld_below _ _ _
 |range=>
  obtain⟨te,p,hes⟩:=hT.er;refine(strconv_Atoi_range ⟨a.toArray⟩ (by omega) h _ w hes (.inr ⟨te,p,rfl⟩)).mono ?_;rintro e w' ⟨N,rfl,_,_,hb⟩;exact⟨⟨_,_,rfl⟩,hb⟩
 |_=>
  obtain⟨te,p,hes⟩:=hT.es;refine(strconv_Atoi_syntax ⟨a.toArray⟩ (by omega) h _ w hes (.inr ⟨te,p,rfl⟩)).mono ?_;rintro e w' ⟨N,rfl,_,_,hb⟩;exact⟨⟨_,_,rfl⟩,hb⟩
theorem zyp (a:Gr.Str) (hl:a.length<=1073741823) (u:Int) (h:Lib.atoiAll a=.ok u) (w:World):Calls prog 108 #[.string ⟨a.toArray⟩] w fun e w'=>e=.returned (.tuple #[.int .i64 u,.nilIface])/\Below w.heap.size w w':=by
 have hs:(⟨a.toArray⟩:ByteArray).size=a.length:=by simp[ByteArray.size]
 refine(strconv_Atoi_ok ⟨a.toArray⟩ (by omega) u h w).mono ?_;rintro e w' ⟨rfl,hw⟩;refine⟨rfl,?_⟩;rcases hw with rfl|⟨t,rfl⟩
 ·exact Below.refl _ _
 ·exact Lib.bytesWorld_below _ _ _
theorem zyq (a:Gr.Str) (hl:a.length<=1073741823) (h:∀u,Lib.atoiAll a≠.ok u) (w:World) (hT:UT w):Calls prog 108 #[.string ⟨a.toArray⟩] w fun e w'=>(∃(v:Int) (te:TypeId) (p:Value),e=.returned (.tuple #[.int .i64 v,.iface te p]))/\Below w.heap.size w w':=by
 have hs:(⟨a.toArray⟩:ByteArray).size=a.length:=by simp[ByteArray.size]
 cases h2:Lib.atoiAll (⟨a.toArray⟩:ByteArray).data.toList with
 |ok u=>exact absurd h2 (h u)
 |range=>
  obtain⟨te,p,hes⟩:=hT.er;refine(strconv_Atoi_range ⟨a.toArray⟩ (by omega) h2 _ w hes (.inr ⟨te,p,rfl⟩)).mono ?_;rintro e w' ⟨N,rfl,_,_,hb⟩;exact⟨⟨_,_,_,rfl⟩,hb⟩
 |_=>
  obtain⟨te,p,hes⟩:=hT.es;refine(strconv_Atoi_syntax ⟨a.toArray⟩ (by omega) h2 _ w hes (.inr ⟨te,p,rfl⟩)).mono ?_;rintro e w' ⟨N,rfl,_,_,hb⟩;exact⟨⟨_,_,_,rfl⟩,hb⟩
theorem zs6 {l:List UInt8} {v:Int} (h:Lib.atoiAll l=.ok v):-9223372036854775808<=v/\v<=9223372036854775807:=Lib.atoiAll_bounds h
theorem zx2 {l:List UInt8} {v:Nat} (h:Lib.parseUintB 64 l=.ok v):v<18446744073709551616:=by
 have:=Lib.parseUintB_le h;omega
theorem zqa (f g:Nat) (w:World):Calls prog 122 #[.float .f64 f,.float .f64 g] w fun e w'=>(∃x:Nat,e=.returned (.float .f64 x))/\w=w':=by
 have c1:=fun(n:Nat) W=>zck n W
 have c2:=fun(n:Int) W=>zay n W
 go_enter func122,ntmps122;go_wp2;go_ret;exact⟨⟨_,rfl⟩,rfl⟩
theorem zvz (w:World):Calls prog 115 #[] w fun e w'=>(∃x:Nat,e=.returned (.float .f64 x))/\w=w':=by
 have c2:=fun W=>zay 9221120237041090561 W
 go_enter func115,ntmps115;go_wp2;go_ret;exact⟨⟨_,rfl⟩,rfl⟩
theorem zv0 (w:World):Calls prog 116 #[.int .i64 1] w fun e w'=>(∃x:Nat,e=.returned (.float .f64 x))/\w=w':=by
 have c2:=fun(n:Int) W=>zay n W
 go_enter func116,ntmps116;go_wp2;go_ret;exact⟨⟨_,rfl⟩,rfl⟩
theorem zqb (m L:Nat) (e:Int) (h:Flt.Fits m L e) (f:Nat) (hf:Flt.fw m L 0=f) (w:World):Calls prog 120 #[.float .f64 f,.int .i64 e] w fun r w'=>r=.returned (.float .f64 (Flt.fw m L e))/\w=w':=by
 have HL:=hid (fun W=>zpt m L e h f hf W);clear h hf;go_enter func120,ntmps120;go_wp2_with fail;refine(HL.out _).mono ?_;rintro _ w1 ⟨rfl,rfl⟩;go_wp2;go_ret;exact⟨rfl,rfl⟩
theorem zyr (s:Gr.Str):Lib.trimPrefix s [45]=Gr.fT s:=by
 unfold Lib.trimPrefix Lib.hasPrefix Gr.fT;cases s with
 |nil=>rfl
 |cons c r=>
  by_cases h:c=45
  ·subst h;simp
  ·have:((45:UInt8)==c)=false:=by rw[beq_eq_false_iff_ne];exact fun e=>h e.symm
   simp[h];exact fun e=>h e.symm
theorem zs7 (s:Gr.Str) (w:World):Calls prog 114 #[.string ⟨s.toArray⟩,.string ⟨#[45]⟩] w fun e w'=>e=.returned (.tuple #[.string ⟨(Gr.fT s).toArray⟩,.bool (Lib.hasPrefix s [45])])/\w'=w:=by
 have:=strings_CutPrefix ⟨s.toArray⟩ ⟨#[45]⟩ w;have e1:Lib.trimPrefix (⟨s.toArray⟩:ByteArray).data.toList (⟨#[45]⟩:ByteArray).data.toList=Gr.fT s:=by rw[<-zyr]
 rw[e1]at this;exact this
theorem zx3 (s:Gr.Str):(Gr.fT s).length<=s.length:=by
 unfold Gr.fT;split
 ·simp
 ·omega
theorem zmy (s:Gr.Str) (hl:s.length<=1073741823) (w:World) (hT:UT w):Calls prog 90 #[.string ⟨s.toArray⟩] w (FPost (fltP s) w):=by
 have HT:=hid hT;have HCP:=hid (fun W=>zs7 s W);have htl:=zx3 s;obtain⟨neg,hneg⟩:=ex (Lib.hasPrefix s [45])
 obtain⟨t,ht⟩:=ex (Gr.fT s)
 rw[hneg,ht]at HCP;rw[ht]at htl;have HP:Hid (fltP s=if s=[110,97,110]then true else if t=[105,110,102]then true else if t=[48,112,48]then true else fltN t):=hid (by rw[<-ht];rfl);have HCS:=hid (fun f g W=>zqa f g W);obtain⟨r,hr⟩:=ex (fltP s)
 rw[hr]at HP ⊢;clear hT hneg ht hr;by_cases hnan:s=[110,97,110]
 ·have h1:(s==([110,97,110]:List UInt8))=true:=by rw[beq_iff_eq];exact hnan
  have HF:Hid (r=true):=hid (by rw[HP.out,if_pos hnan]);have HN:=hid (fun W=>zvz W);clear hnan HP;go_enter func90,ntmps90;go_wp2_with fail;refine(HCP.out _).mono ?_;rintro _ w1 ⟨rfl,rfl⟩;go_wp2_with fail;refine(HN.out _).mono ?_;rintro _ w1 ⟨⟨x,rfl⟩,rfl⟩;go_wp2;go_ret2;rw[HF.out];exact⟨⟨x,rfl⟩,Below.refl _ _⟩
 ·have h1:(s==([110,97,110]:List UInt8))=false:=by rw[beq_eq_false_iff_ne];exact hnan
  have HP1:Hid (r=if t=[105,110,102]then true else if t=[48,112,48]then true else fltN t):=hid (by rw[HP.out,if_neg hnan]);clear hnan HP;by_cases hinf:t=[105,110,102]
  ·have h2:(t==([105,110,102]:List UInt8))=true:=by rw[beq_iff_eq];exact hinf
   have HF:Hid (r=true):=hid (by rw[HP1.out,if_pos hinf]);have HN:=hid (fun W=>zv0 W);clear hinf HP1;cases neg
   all_goals
    go_enter func90,ntmps90;go_wp2_with fail;refine(HCP.out _).mono ?_;rintro _ w1 ⟨rfl,rfl⟩;go_wp2_with fail;refine(HN.out _).mono ?_;rintro _ w1 ⟨⟨x,rfl⟩,rfl⟩;go_wp2_with fail
   ·go_ret2;rw[HF.out];exact⟨⟨_,rfl⟩,Below.refl _ _⟩
   ·refine(HCS.out _ _ _).mono ?_;rintro _ w1 ⟨⟨y,rfl⟩,rfl⟩;go_wp2;go_ret2;rw[HF.out];exact⟨⟨_,rfl⟩,Below.refl _ _⟩
  ·have h2:(t==([105,110,102]:List UInt8))=false:=by rw[beq_eq_false_iff_ne];exact hinf
   have HP2:Hid (r=if t=[48,112,48]then true else fltN t):=hid (by rw[HP1.out,if_neg hinf]);clear hinf HP1;by_cases hz:t=[48,112,48]
   ·have h3:(t==([48,112,48]:List UInt8))=true:=by rw[beq_iff_eq];exact hz
    have HF:Hid (r=true):=hid (by rw[HP2.out,if_pos hz]);clear hz HP2;cases neg
    all_goals
     go_enter func90,ntmps90;go_wp2_with fail;refine(HCP.out _).mono ?_;rintro _ w1 ⟨rfl,rfl⟩;go_wp2_with fail
    ·go_ret2;rw[HF.out];exact⟨⟨_,rfl⟩,Below.refl _ _⟩
    ·refine(HCS.out _ _ _).mono ?_;rintro _ w1 ⟨⟨y,rfl⟩,rfl⟩;go_wp2;go_ret2;rw[HF.out];exact⟨⟨_,rfl⟩,Below.refl _ _⟩
   ·have h3:(t==([48,112,48]:List UInt8))=false:=by rw[beq_eq_false_iff_ne];exact hz
    have HP3:Hid (r=fltN t):=hid (by rw[HP2.out,if_neg hz]);have HC:=hid (fun W=>zvy t (by omega) W);clear hz HP2;unfold cutV at HC;have HPD:Hid (r=match t.dropWhile (fun c=>c != 112)with| []=>false|_::b=>match Lib.parseUintB 64 (Gr.fA t)with| .ok m=>(match Lib.atoiAll b with| .ok e=>fitsB m e && decide (Lib.decDigits m++112::Lib.itoa e=t)|_=>false)|_=>false):=hid HP3.out;clear HP3;cases hd:t.dropWhile (fun c=>c != 112)with
    |nil=>
     rw[hd]at HC;simp only at HC;have HF:Hid (r=false):=hid (by rw[HPD.out,hd]);have HPU:=hid (fun W hW=>zx1 t (by omega) W hW);have HAT:=hid (fun W hW=>zp9 [] (by simp) W hW);clear hd HPD;go_enter func90,ntmps90;go_wp2_with fail;refine(HCP.out _).mono ?_;rintro _ w1 ⟨rfl,rfl⟩;go_wp2_with fail;refine(HC.out _).mono ?_;rintro _ w2 ⟨rfl,hb2⟩;have HB2:=hid (And.intro hb2 (UT.stays _ _ HT.out hb2));clear hb2;go_wp2_with fail;refine(HPU.out _ HB2.out.2).mono ?_;rintro _ w3 ⟨⟨v,er,rfl⟩,hb3⟩;have HB3:=hid (And.intro (HB2.out.1.trans (hb3.mono HB2.out.1.size)) (UT.stays _ _ HB2.out.2 hb3));clear hb3;go_wp2_with fail;refine(HAT.out _ HB3.out.2).mono ?_;rintro _ w4 ⟨⟨v2,er2,rfl⟩,hb4⟩;have HB4:=hid (HB3.out.1.trans (hb4.mono HB3.out.1.size));clear hb4;go_wp2;go_ret2;rw[HF.out];exact⟨⟨_,rfl⟩,HB4.out⟩
    |cons c b=>
     have hsp:=zld t hd;have hbl:b.length<=t.length:=by rw[hsp];simp;omega
     have hal:(Gr.fA t).length<=t.length:=by unfold Gr.fA;exact(List.takeWhile_sublist _).length_le
     rw[hd]at HC;simp only at HC;have HPE:Hid (r=match Lib.parseUintB 64 (Gr.fA t)with| .ok m=>(match Lib.atoiAll b with| .ok e=>fitsB m e && decide (Lib.decDigits m++112::Lib.itoa e=t)|_=>false)|_=>false):=hid (by rw[HPD.out,hd]);obtain⟨a,ha⟩:=ex (Gr.fA t)
     rw[ha]at HC HPE hal;clear hd HPD hsp ha;by_cases hpu:∃m,Lib.parseUintB 64 a=.ok m
     ·obtain⟨m,hm⟩:=hpu;have hm64:=zx2 hm;have HPU:=hid (fun W=>zyn a (by omega) m hm W);rw[hm]at HPE;by_cases hat:∃e,Lib.atoiAll b=.ok e
      ·obtain⟨e,he⟩:=hat;have heb:=zs6 he;have HAT:=hid (fun W=>zyp b (by omega) e he W);have HFI:=hid (fun W=>zs3 m hm64 e heb.1 heb.2 W);rw[he]at HPE;simp only at HPE;cases hfit:fitsB m e with
       |false=>
        have HF:Hid (r=false):=hid (by rw[HPE.out,hfit];rfl);rw[hfit]at HFI;clear hm he HPE hfit hm64 heb;go_enter func90,ntmps90;go_wp2_with fail;refine(HCP.out _).mono ?_;rintro _ w1 ⟨rfl,rfl⟩;go_wp2_with fail;refine(HC.out _).mono ?_;rintro _ w2 ⟨rfl,hb2⟩;have HB2:=hid (And.intro hb2 (UT.stays _ _ HT.out hb2));clear hb2;go_wp2_with fail;refine(HPU.out _).mono ?_;rintro _ w3 ⟨rfl,hb3⟩;have HB3:=hid (And.intro (HB2.out.1.trans (hb3.mono HB2.out.1.size)) (UT.stays _ _ HB2.out.2 hb3));clear hb3;go_wp2_with fail;refine(HAT.out _).mono ?_;rintro _ w4 ⟨rfl,hb4⟩;have HB4:=hid (And.intro (HB3.out.1.trans (hb4.mono HB3.out.1.size)) (UT.stays _ _ HB3.out.2 hb4));clear hb4;go_wp2_with fail;refine(HFI.out _).mono ?_;rintro _ w5 ⟨rfl,rfl⟩;go_wp2;go_ret2;rw[HF.out];exact⟨⟨_,rfl⟩,HB4.out.1⟩
       |true=>
        obtain⟨L,hL⟩:=zvw m e hm64 hfit;obtain⟨f,hf⟩:=ex (Flt.fw m L 0)
        obtain⟨F,hFw⟩:=ex (Flt.fw m L e)
        have HLD:=hid (fun W=>zqb m L e hL f hf W);have HTX:=hid (fun W hW=>zp2 m L e hL F hFw W hW);have hcv:floatOfInt .f64 (m:Int)=f:=by rw[hL.ofNat,<-hf,hL.at0.fw0]
        obtain⟨T,hTx⟩:∃T:Gr.Str,Lib.decDigits m++112::Lib.itoa e=T:=⟨_,rfl⟩
        rw[hTx]at HTX;rw[hFw]at HLD;have HFR:Hid (r=decide (T=t)):=hid (by rw[HPE.out,hfit,hTx];rfl);rw[hfit]at HFI;clear hm he HPE hfit hm64 heb hL hf hFw hTx;by_cases hTt:T=t
        ·have q1:(T==t)=true:=by rw[beq_iff_eq];exact hTt
         have q2:(T != t)=false:=by rw[bne,q1];rfl
         have HF:Hid (r=true):=hid (by rw[HFR.out,decide_eq_true hTt]);clear hTt HFR;cases neg
         all_goals
          go_enter func90,ntmps90;go_wp2_with fail;refine(HCP.out _).mono ?_;rintro _ w1 ⟨rfl,rfl⟩;go_wp2_with fail;refine(HC.out _).mono ?_;rintro _ w2 ⟨rfl,hb2⟩;have HB2:=hid (And.intro hb2 (UT.stays _ _ HT.out hb2));clear hb2;go_wp2_with fail;refine(HPU.out _).mono ?_;rintro _ w3 ⟨rfl,hb3⟩;have HB3:=hid (And.intro (HB2.out.1.trans (hb3.mono HB2.out.1.size)) (UT.stays _ _ HB2.out.2 hb3));clear hb3;go_wp2_with fail;refine(HAT.out _).mono ?_;rintro _ w4 ⟨rfl,hb4⟩;have HB4:=hid (And.intro (HB3.out.1.trans (hb4.mono HB3.out.1.size)) (UT.stays _ _ HB3.out.2 hb4));clear hb4;go_wp2_with fail;refine(HFI.out _).mono ?_;rintro _ w5 ⟨rfl,rfl⟩;go_wp2_with fail;refine(HLD.out _).mono ?_;rintro _ w6 ⟨rfl,rfl⟩;go_wp2_with fail;refine(HTX.out _ HB4.out.2).mono ?_;rintro _ w7 ⟨rfl,hb7⟩;have HB5:=hid (HB4.out.1.trans (hb7.mono HB4.out.1.size));clear hb7;go_wp2_with fail
         ·go_ret2;rw[HF.out];exact⟨⟨_,rfl⟩,HB5.out⟩
         ·refine(HCS.out _ _ _).mono ?_;rintro _ w1 ⟨⟨y,rfl⟩,rfl⟩;go_wp2;go_ret2;rw[HF.out];exact⟨⟨_,rfl⟩,HB5.out⟩
        ·have q1:(T==t)=false:=by rw[beq_eq_false_iff_ne];exact hTt
         have q2:(T != t)=true:=by rw[bne,q1];rfl
         have HF:Hid (r=false):=hid (by rw[HFR.out,decide_eq_false hTt]);clear hTt HFR;go_enter func90,ntmps90;go_wp2_with fail;refine(HCP.out _).mono ?_;rintro _ w1 ⟨rfl,rfl⟩;go_wp2_with fail;refine(HC.out _).mono ?_;rintro _ w2 ⟨rfl,hb2⟩;have HB2:=hid (And.intro hb2 (UT.stays _ _ HT.out hb2));clear hb2;go_wp2_with fail;refine(HPU.out _).mono ?_;rintro _ w3 ⟨rfl,hb3⟩;have HB3:=hid (And.intro (HB2.out.1.trans (hb3.mono HB2.out.1.size)) (UT.stays _ _ HB2.out.2 hb3));clear hb3;go_wp2_with fail;refine(HAT.out _).mono ?_;rintro _ w4 ⟨rfl,hb4⟩;have HB4:=hid (And.intro (HB3.out.1.trans (hb4.mono HB3.out.1.size)) (UT.stays _ _ HB3.out.2 hb4));clear hb4;go_wp2_with fail;refine(HFI.out _).mono ?_;rintro _ w5 ⟨rfl,rfl⟩;go_wp2_with fail;refine(HLD.out _).mono ?_;rintro _ w6 ⟨rfl,rfl⟩;go_wp2_with fail;refine(HTX.out _ HB4.out.2).mono ?_;rintro _ w7 ⟨rfl,hb7⟩;have HB5:=hid (HB4.out.1.trans (hb7.mono HB4.out.1.size));clear hb7;go_wp2;go_ret2;rw[HF.out];exact⟨⟨_,rfl⟩,HB5.out⟩
      ·have HF:Hid (r=false):=hid (by
        rw[HPE.out];simp only;split
        ·rename_i e he;exact absurd ⟨e,he⟩ hat
        ·rfl)
       have HAT:=hid (fun W hW=>zyq b (by omega) (fun u hu=>hat ⟨u,hu⟩) W hW);clear hm hat HPE hm64;go_enter func90,ntmps90;go_wp2_with fail;refine(HCP.out _).mono ?_;rintro _ w1 ⟨rfl,rfl⟩;go_wp2_with fail;refine(HC.out _).mono ?_;rintro _ w2 ⟨rfl,hb2⟩;have HB2:=hid (And.intro hb2 (UT.stays _ _ HT.out hb2));clear hb2;go_wp2_with fail;refine(HPU.out _).mono ?_;rintro _ w3 ⟨rfl,hb3⟩;have HB3:=hid (And.intro (HB2.out.1.trans (hb3.mono HB2.out.1.size)) (UT.stays _ _ HB2.out.2 hb3));clear hb3;go_wp2_with fail;refine(HAT.out _ HB3.out.2).mono ?_;rintro _ w4 ⟨⟨v2,te,pe,rfl⟩,hb4⟩;have HB4:=hid (HB3.out.1.trans (hb4.mono HB3.out.1.size));clear hb4;go_wp2;go_ret2;rw[HF.out];exact⟨⟨_,rfl⟩,HB4.out⟩
     ·have HF:Hid (r=false):=hid (by
       rw[HPE.out];split
       ·rename_i m hm;exact absurd ⟨m,hm⟩ hpu
       ·rfl)
      have HPU:=hid (fun W hW=>zyo a (by omega) (fun u hu=>hpu ⟨u,hu⟩) W hW);have HAT:=hid (fun W hW=>zp9 b (by omega) W hW);clear hpu HPE;go_enter func90,ntmps90;go_wp2_with fail;refine(HCP.out _).mono ?_;rintro _ w1 ⟨rfl,rfl⟩;go_wp2_with fail;refine(HC.out _).mono ?_;rintro _ w2 ⟨rfl,hb2⟩;have HB2:=hid (And.intro hb2 (UT.stays _ _ HT.out hb2));clear hb2;go_wp2_with fail;refine(HPU.out _ HB2.out.2).mono ?_;rintro _ w3 ⟨⟨v,te,pe,rfl⟩,hb3⟩;have HB3:=hid (And.intro (HB2.out.1.trans (hb3.mono HB2.out.1.size)) (UT.stays _ _ HB2.out.2 hb3));clear hb3;go_wp2_with fail;refine(HAT.out _ HB3.out.2).mono ?_;rintro _ w4 ⟨⟨v2,er2,rfl⟩,hb4⟩;have HB4:=hid (HB3.out.1.trans (hb4.mono HB3.out.1.size));clear hb4;go_wp2;go_ret2;rw[HF.out];exact⟨⟨_,rfl⟩,HB4.out⟩
theorem zmz (s:Gr.Str) (hl:s.length<=1073741823) (w:World) (hT:UT w):Calls prog 71 #[.string ⟨s.toArray⟩] w fun e w'=>e=.returned (.bool (fltP s))/\Below w.heap.size w w':=by
 have HP:=hid (zmy s hl w hT);obtain⟨r,hr⟩:=ex (fltP s)
 rw[hr]at HP ⊢;clear hr hT;go_enter func71,ntmps71;go_wp2_with fail;refine HP.out.mono ?_;rintro _ w1 ⟨⟨g,rfl⟩,hb⟩;have HB:=hid hb;clear hb;go_wp2;go_ret;exact⟨rfl,HB.out⟩
theorem zs8 (text:Gr.Str) (hl:text.length<=1073741823):ScalOk UT 4 text (fltP text):=by
 intro w hw;have HC:=hid (zmz text hl w hw);obtain⟨r,hr⟩:=ex (fltP text)
 rw[hr]at HC ⊢;clear hr hw;go_enter func42,ntmps42;go_wp2_with fail;refine HC.out.mono ?_;rintro e w2 ⟨rfl,hb⟩;have HB:=hid hb;clear hb;go_wp2;go_ret;exact⟨rfl,HB.out⟩
end Go.Proofs.YtoigpackhninoaaGreatDoor
