import Derived.Test.YtoigpackhninoaaGreatDoorZ18
import Derived.Test.YtoigpackhninoaaGreatDoorGrDecE
import Derived.Test.YtoigpackhninoaaGreatDoorZ11
namespace Go.Proofs.YtoigpackhninoaaGreatDoor
open Gr
open _root_.Go.Proofs.Tryz
open _root_.Go.Lib (hid)
set_option maxRecDepth 100000
set_option maxHeartbeats 16000000
open Go.RowKit
theorem zj5 (m:Nat) (h0:m≠0) (h:m<18446744073709551616):Lib.bitLen m=m.log2+1/\2 ^ m.log2<=m/\m<2 ^ (m.log2+1):=by
 have h1:=Nat.log2_self_le h0;have h2:m<2 ^ (m.log2+1):=Nat.lt_log2_self;refine⟨?_,h1,h2⟩;rw[Lib.bitLen_shift m.log2 m h1 h];have:m /2 ^ m.log2=1:=by
  apply Nat.div_eq_of_lt_le
  ·simpa using h1
  ·rw[Nat.pow_succ]at h2;omega
 rw[this];rfl
theorem zrm (m:Nat) (e:Int) (hm:m<18446744073709551616) (h:fitsB m e=true):∃L,Flt.Fits m L e:=by
 unfold fitsB at h;simp only[Bool.and_eq_true,decide_eq_true_eq,beq_iff_eq]at h;obtain⟨⟨⟨⟨h1,h2⟩,h3⟩,h4⟩,h5⟩:=h;obtain⟨b1,b2,b3⟩:=zj5 m (by omega) hm;exact⟨m.log2,h1,b2,b3,by omega,h3,by rw[b1]at h5;omega⟩
theorem zo0 (m:Nat) (hm:m<18446744073709551616) (e:Int) (h0:-9223372036854775808<=e) (h1:e<=9223372036854775807) (w:World):Calls prog 119 #[.int .u64 m,.int .i64 e] w fun r w'=>r=.returned (.bool (fitsB m e))/\w=w':=by
 have HL:=hid (fun W=>bits_Len64 (m:Int) W (by omega) (by omega));have hbl:Lib.bitLen m<=64:=Lib.bitLen_le m 64 (by omega) (by omega);have ht:((m:Int)).toNat=m:=by omega
 rw[ht]at HL;obtain⟨b,hb⟩:=ex (Lib.bitLen m)
 have HB:Hid (fitsB m e=(decide (m%2=1) && decide (b<=53) && decide (-1074<=e) && decide (e<=1023) && decide (e+b<=1024))):=hid (by unfold fitsB;rw[hb];rfl);rw[hb]at HL hbl;clear hb ht;obtain⟨r,hr⟩:=ex (fitsB m e)
 rw[hr]at HB ⊢;clear hr;by_cases k1:m%2=1
 ·have i1:(m:Int)%2=1:=by omega
  have i1b:((m:Int)%2==1)=true:=by simpa using i1
  by_cases k2:b<=53
  ·have i2:(b:Int)<=53:=by omega
   by_cases k3:-1074<=e
   ·by_cases k4:e<=1023
    ·by_cases k5:e+b<=1024
     ·have HF:Hid (r=true):=hid (by rw[HB.out];simp[k1,k2,k3,k4,k5]);clear k1 k2;go_enter func119,ntmps119;go_wp2_with fail;refine(HL.out _).mono ?_;rintro _ w1 ⟨rfl,rfl⟩;go_wp2;go_ret;rw[HF.out];exact⟨by first|rfl|simp[*],rfl⟩
     ·have HF:Hid (r=false):=hid (by rw[HB.out];simp[k5]);clear k1 k2;go_enter func119,ntmps119;go_wp2_with fail;refine(HL.out _).mono ?_;rintro _ w1 ⟨rfl,rfl⟩;go_wp2;go_ret;rw[HF.out];exact⟨by first|rfl|simp[*],rfl⟩
    ·have HF:Hid (r=false):=hid (by rw[HB.out];simp[k4]);clear k1 k2;go_enter func119,ntmps119;go_wp2_with fail;refine(HL.out _).mono ?_;rintro _ w1 ⟨rfl,rfl⟩;go_wp2;go_ret;rw[HF.out];exact⟨by first|rfl|simp[*],rfl⟩
   ·have HF:Hid (r=false):=hid (by rw[HB.out];simp[k3]);clear k1 k2;go_enter func119,ntmps119;go_wp2_with fail;refine(HL.out _).mono ?_;rintro _ w1 ⟨rfl,rfl⟩;go_wp2;go_ret;rw[HF.out];exact⟨by first|rfl|simp[*],rfl⟩
  ·have i2:¬(b:Int)<=53:=by omega
   have HF:Hid (r=false):=hid (by rw[HB.out];simp[k2]);clear k1 k2;go_enter func119,ntmps119;go_wp2_with fail;refine(HL.out _).mono ?_;rintro _ w1 ⟨rfl,rfl⟩;go_wp2;go_ret;rw[HF.out];exact⟨by first|rfl|simp[*],rfl⟩
 ·have i1:¬(m:Int)%2=1:=by omega
  have i1b:((m:Int)%2==1)=false:=by simpa using i1
  have HF:Hid (r=false):=hid (by rw[HB.out];simp[k1]);clear k1;go_enter func119,ntmps119;go_wp2_with fail;refine(HL.out _).mono ?_;rintro _ w1 ⟨rfl,rfl⟩;go_wp2;go_ret;rw[HF.out];exact⟨by first|rfl|simp[*],rfl⟩
theorem zo1 (s:Gr.Str) (w:World):(callFunc 165 #[.string ⟨s.toArray⟩,.int .u8 112]).run prog w=.ok (.value (.int .i64 (Lib.indexByte s 112))) w:=by
 rw[run_callFunc_extern func165 (by kernel_rfl) (by kernel_rfl) (by kernel_rfl) (e:=Extern.BytealgIndexByte.indexByte) (by kernel_rfl),Lib.run_indexByteString];rfl
theorem zo2 (s:Gr.Str) (w:World):Calls prog 140 #[.string ⟨s.toArray⟩,.int .u8 112] w fun e w'=>e=.returned (.int .i64 (Lib.indexByte s 112))/\w=w':=by
 have c1:=fun W=>zo1 s W
 go_enter func140,ntmps140;go_wp2;go_ret;exact⟨rfl,rfl⟩
theorem zrn (s:Gr.Str) (w:World):Calls prog 175 #[.string ⟨s.toArray⟩,.string ⟨#[112]⟩] w fun e w'=>e=.returned (.int .i64 (Lib.indexByte s 112))/\w=w':=by
 by_cases hs:[112]=s
 ·subst hs;go_enter func175,ntmps175;go_wp2;go_ret;exact⟨rfl,rfl⟩
 ·have h1:(([112]:List UInt8)==s)=false:=by rw[beq_eq_false_iff_ne];exact hs
  have h2:(s==([112]:List UInt8))=false:=by rw[beq_eq_false_iff_ne];exact fun e=>hs e.symm
  have HI:=hid (fun W=>zo2 s W);obtain⟨i,hi⟩:=ex (Lib.indexByte s 112)
  rw[hi]at HI ⊢;clear hi;go_enter func175,ntmps175;go_wp2_with fail;refine(HI.out _).mono ?_;rintro _ w1 ⟨rfl,rfl⟩;go_wp2;go_ret;exact⟨rfl,rfl⟩
def cutV (t:Gr.Str):Value:=match t.dropWhile (fun c=>c != 112)with
 | []=>.tuple #[.string ⟨t.toArray⟩,.string ⟨#[]⟩,.bool false]
 |_::b=>.tuple #[.string ⟨(Gr.fA t).toArray⟩,.string ⟨b.toArray⟩,.bool true]
theorem ziz (t:Gr.Str) {c:UInt8} {b:Gr.Str} (h:t.dropWhile (fun c=>c != 112)=c::b):t=Gr.fA t++c::b:=by
 have:=List.takeWhile_append_dropWhile (p:=fun c:UInt8=>c != 112) (l:=t);rw[h]at this;exact this.symm
theorem zth (t:Gr.Str) (hl:t.length<=1073741823) (w:World):Calls prog 148 #[.string ⟨t.toArray⟩,.string ⟨#[112]⟩] w fun e w'=>e=.returned (cutV t)/\Below w.heap.size w w':=by
 have HI:=hid (fun W=>zrn t W);have hix:=zhz t 112;unfold cutV;cases hd:t.dropWhile (fun c=>c != 112)with
 |nil=>
  rw[if_pos hd]at hix;rw[hix]at HI;clear hix hd;go_enter func148,ntmps148;go_wp2_with fail;refine(HI.out _).mono ?_;rintro _ w1 ⟨rfl,rfl⟩;go_wp2_with fail;exact bodyPost_ret (v:=.tuple #[.string ⟨t.toArray⟩,.string ⟨#[]⟩,.bool false]) (by simp[results,go_sem]) rfl ⟨rfl,Below.refl _ _⟩
 |cons c b=>
  rw[if_neg (by rw[hd];exact List.cons_ne_nil _ _)]at hix;have hsp:=ziz t hd;obtain⟨a,ha⟩:=ex (Gr.fA t)
  have hix:Lib.indexByte t 112=((Gr.fA t).length:Int):=hix;rw[hix,ha]at HI;rw[ha]at hsp;simp only;rw[ha];have hla:a.length+1<=t.length:=by rw[hsp];simp
  have hlaI:(a.length:Int)+1<=(t.length:Int):=by omega
  have e1:(⟨t.toArray⟩:ByteArray).extract 0 a.length=⟨a.toArray⟩:=by rw[zan,hsp];simp
  have e2:(⟨t.toArray⟩:ByteArray).extract (a.length+1) t.length=⟨b.toArray⟩:=by rw[zan,List.take_of_length_le (by simp),hsp];simp
  clear hix hd ha hsp;have i1:IntKind.i64.wrap ((a.length:Int)+1)=(a.length:Int)+1:=IntWalk.i64_in _ (by omega);have i2:((a.length:Int)+1).toNat=a.length+1:=by omega
  have i3:(0:Int)<=(a.length:Int)+1:=by omega
  go_enter func148,ntmps148;go_wp2_with fail;refine(HI.out _).mono ?_;rintro _ w1 ⟨rfl,rfl⟩;go_wp2_with fail;go_quiet (fail);go_wp2_with fail;exact bodyPost_ret (v:=.tuple #[.string ⟨a.toArray⟩,.string ⟨b.toArray⟩,.bool true]) (by simp[results,go_sem]) rfl ⟨rfl,below_drewN (Below.refl _ _) _⟩
theorem zro (t:Gr.Str) (hl:t.length<=1073741823) (w:World):Calls prog 117 #[.string ⟨t.toArray⟩,.string ⟨#[112]⟩] w fun e w'=>e=.returned (cutV t)/\Below w.heap.size w w':=by
 have HC:=hid (zth t hl w);unfold cutV at HC ⊢;cases hd:t.dropWhile (fun c=>c != 112)with
 |nil=>
  rw[hd]at HC;simp only at HC;clear hd;go_enter func117,ntmps117;go_wp2_with fail;refine HC.out.mono ?_;rintro _ w1 ⟨rfl,hb⟩;have HB:=hid hb;clear hb;go_wp2_with fail;exact bodyPost_ret (v:=.tuple #[.string ⟨t.toArray⟩,.string ⟨#[]⟩,.bool false]) (by simp[results,go_sem]) rfl ⟨rfl,HB.out⟩
 |cons c b=>
  rw[hd]at HC;simp only at HC ⊢;obtain⟨a,ha⟩:=ex (Gr.fA t)
  rw[ha]at HC ⊢;clear hd ha;go_enter func117,ntmps117;go_wp2_with fail;refine HC.out.mono ?_;rintro _ w1 ⟨rfl,hb⟩;have HB:=hid hb;clear hb;go_wp2_with fail;exact bodyPost_ret (v:=.tuple #[.string ⟨a.toArray⟩,.string ⟨b.toArray⟩,.bool true]) (by simp[results,go_sem]) rfl ⟨rfl,HB.out⟩
def FPost (b:Bool) (w:World) (e:Ending) (w':World):Prop:=(∃g:Nat,e=.returned (.tuple #[.float .f64 g,.bool b]))/\Below w.heap.size w w'
theorem zti (a:Gr.Str) (hl:a.length<=1073741823) (w:World) (hT:UT w):Calls prog 118 #[.string ⟨a.toArray⟩,.int .i64 10,.int .i64 64] w fun e w'=>(∃(v:Int) (er:Value),e=.returned (.tuple #[.int .u64 v,er]))/\Below w.heap.size w w':=by
 have hs:(⟨a.toArray⟩:ByteArray).size=a.length:=by simp[ByteArray.size]
 cases h:Lib.parseUintB 64 (⟨a.toArray⟩:ByteArray).data.toList with
 |ok u=>
  refine(strconv_ParseUint_10_at64_ok ⟨a.toArray⟩ (by omega) u h w).mono ?_;rintro e w' ⟨rfl,hw⟩;refine⟨⟨_,_,rfl⟩,?_⟩;rcases hw with rfl|rfl
  ·exact Below.refl _ _
  ·exact Lib.bytesWorld_below _ _ _
 |range=>
  obtain⟨te,p,hes⟩:=hT.er;refine(strconv_ParseUint_10_at64_range ⟨a.toArray⟩ (by omega) h _ w hes (.inr ⟨te,p,rfl⟩)).mono ?_;rintro e w' ⟨N,rfl,_,_,hb⟩;exact⟨⟨_,_,rfl⟩,hb⟩
 |_=>
  obtain⟨te,p,hes⟩:=hT.es;refine(strconv_ParseUint_10_at64_syntax ⟨a.toArray⟩ (by omega) h _ w hes (.inr ⟨te,p,rfl⟩)).mono ?_;rintro e w' ⟨N,rfl,_,_,hb⟩;exact⟨⟨_,_,rfl⟩,hb⟩
theorem zt3 (a:Gr.Str) (hl:a.length<=1073741823) (u:Nat) (h:Lib.parseUintB 64 a=.ok u) (w:World):Calls prog 118 #[.string ⟨a.toArray⟩,.int .i64 10,.int .i64 64] w fun e w'=>e=.returned (.tuple #[.int .u64 u,.nilIface])/\Below w.heap.size w w':=by
 have hs:(⟨a.toArray⟩:ByteArray).size=a.length:=by simp[ByteArray.size]
 refine(strconv_ParseUint_10_at64_ok ⟨a.toArray⟩ (by omega) u h w).mono ?_;rintro e w' ⟨rfl,hw⟩;refine⟨rfl,?_⟩;rcases hw with rfl|rfl
 ·exact Below.refl _ _
 ·exact Lib.bytesWorld_below _ _ _
theorem zt4 (a:Gr.Str) (hl:a.length<=1073741823) (h:∀u,Lib.parseUintB 64 a≠.ok u) (w:World) (hT:UT w):Calls prog 118 #[.string ⟨a.toArray⟩,.int .i64 10,.int .i64 64] w fun e w'=>(∃(v:Int) (te:TypeId) (p:Value),e=.returned (.tuple #[.int .u64 v,.iface te p]))/\Below w.heap.size w w':=by
 have hs:(⟨a.toArray⟩:ByteArray).size=a.length:=by simp[ByteArray.size]
 cases h2:Lib.parseUintB 64 (⟨a.toArray⟩:ByteArray).data.toList with
 |ok u=>exact absurd h2 (h u)
 |range=>
  obtain⟨te,p,hes⟩:=hT.er;refine(strconv_ParseUint_10_at64_range ⟨a.toArray⟩ (by omega) h2 _ w hes (.inr ⟨te,p,rfl⟩)).mono ?_;rintro e w' ⟨N,rfl,_,_,hb⟩;exact⟨⟨_,_,_,rfl⟩,hb⟩
 |_=>
  obtain⟨te,p,hes⟩:=hT.es;refine(strconv_ParseUint_10_at64_syntax ⟨a.toArray⟩ (by omega) h2 _ w hes (.inr ⟨te,p,rfl⟩)).mono ?_;rintro e w' ⟨N,rfl,_,_,hb⟩;exact⟨⟨_,_,_,rfl⟩,hb⟩
theorem zmn (a:Gr.Str) (hl:a.length<=1073741823) (w:World) (hT:UT w):Calls prog 108 #[.string ⟨a.toArray⟩] w fun e w'=>(∃(v:Int) (er:Value),e=.returned (.tuple #[.int .i64 v,er]))/\Below w.heap.size w w':=by
 have hs:(⟨a.toArray⟩:ByteArray).size=a.length:=by simp[ByteArray.size]
 cases h:Lib.atoiAll (⟨a.toArray⟩:ByteArray).data.toList with
 |ok u=>
  refine(strconv_Atoi_ok ⟨a.toArray⟩ (by omega) u h w).mono ?_;rintro e w' ⟨rfl,hw⟩;refine⟨⟨_,_,rfl⟩,?_⟩;rcases hw with rfl|⟨t,rfl⟩
  ·exact Below.refl _ _
  ·exact Lib.bytesWorld_below _ _ _
 |range=>
  obtain⟨te,p,hes⟩:=hT.er;refine(strconv_Atoi_range ⟨a.toArray⟩ (by omega) h _ w hes (.inr ⟨te,p,rfl⟩)).mono ?_;rintro e w' ⟨N,rfl,_,_,hb⟩;exact⟨⟨_,_,rfl⟩,hb⟩
 |_=>
  obtain⟨te,p,hes⟩:=hT.es;refine(strconv_Atoi_syntax ⟨a.toArray⟩ (by omega) h _ w hes (.inr ⟨te,p,rfl⟩)).mono ?_;rintro e w' ⟨N,rfl,_,_,hb⟩;exact⟨⟨_,_,rfl⟩,hb⟩
theorem zt5 (a:Gr.Str) (hl:a.length<=1073741823) (u:Int) (h:Lib.atoiAll a=.ok u) (w:World):Calls prog 108 #[.string ⟨a.toArray⟩] w fun e w'=>e=.returned (.tuple #[.int .i64 u,.nilIface])/\Below w.heap.size w w':=by
 have hs:(⟨a.toArray⟩:ByteArray).size=a.length:=by simp[ByteArray.size]
 refine(strconv_Atoi_ok ⟨a.toArray⟩ (by omega) u h w).mono ?_;rintro e w' ⟨rfl,hw⟩;refine⟨rfl,?_⟩;rcases hw with rfl|⟨t,rfl⟩
 ·exact Below.refl _ _
 ·exact Lib.bytesWorld_below _ _ _
theorem zt6 (a:Gr.Str) (hl:a.length<=1073741823) (h:∀u,Lib.atoiAll a≠.ok u) (w:World) (hT:UT w):Calls prog 108 #[.string ⟨a.toArray⟩] w fun e w'=>(∃(v:Int) (te:TypeId) (p:Value),e=.returned (.tuple #[.int .i64 v,.iface te p]))/\Below w.heap.size w w':=by
 have hs:(⟨a.toArray⟩:ByteArray).size=a.length:=by simp[ByteArray.size]
 cases h2:Lib.atoiAll (⟨a.toArray⟩:ByteArray).data.toList with
 |ok u=>exact absurd h2 (h u)
 |range=>
  obtain⟨te,p,hes⟩:=hT.er;refine(strconv_Atoi_range ⟨a.toArray⟩ (by omega) h2 _ w hes (.inr ⟨te,p,rfl⟩)).mono ?_;rintro e w' ⟨N,rfl,_,_,hb⟩;exact⟨⟨_,_,_,rfl⟩,hb⟩
 |_=>
  obtain⟨te,p,hes⟩:=hT.es;refine(strconv_Atoi_syntax ⟨a.toArray⟩ (by omega) h2 _ w hes (.inr ⟨te,p,rfl⟩)).mono ?_;rintro e w' ⟨N,rfl,_,_,hb⟩;exact⟨⟨_,_,_,rfl⟩,hb⟩
theorem zo3 {l:List UInt8} {v:Int} (h:Lib.atoiAll l=.ok v):-9223372036854775808<=v/\v<=9223372036854775807:=Lib.atoiAll_bounds h
theorem ztj {l:List UInt8} {v:Nat} (h:Lib.parseUintB 64 l=.ok v):v<18446744073709551616:=by
 have:=Lib.parseUintB_le h;omega
theorem zmo (f g:Nat) (w:World):Calls prog 122 #[.float .f64 f,.float .f64 g] w fun e w'=>(∃x:Nat,e=.returned (.float .f64 x))/\w=w':=by
 have c1:=fun(n:Nat) W=>zb0 n W
 have c2:=fun(n:Int) W=>zat n W
 go_enter func122,ntmps122;go_wp2;go_ret;exact⟨⟨_,rfl⟩,rfl⟩
theorem zrp (w:World):Calls prog 115 #[] w fun e w'=>(∃x:Nat,e=.returned (.float .f64 x))/\w=w':=by
 have c2:=fun W=>zat 9221120237041090561 W
 go_enter func115,ntmps115;go_wp2;go_ret;exact⟨⟨_,rfl⟩,rfl⟩
theorem zrq (w:World):Calls prog 116 #[.int .i64 1] w fun e w'=>(∃x:Nat,e=.returned (.float .f64 x))/\w=w':=by
 have c2:=fun(n:Int) W=>zat n W
 go_enter func116,ntmps116;go_wp2;go_ret;exact⟨⟨_,rfl⟩,rfl⟩
theorem zmp (m L:Nat) (e:Int) (h:Flt.Fits m L e) (f:Nat) (hf:Flt.fw m L 0=f) (w:World):Calls prog 120 #[.float .f64 f,.int .i64 e] w fun r w'=>r=.returned (.float .f64 (Flt.fw m L e))/\w=w':=by
 have HL:=hid (fun W=>zl3 m L e h f hf W);clear h hf;go_enter func120,ntmps120;go_wp2_with fail;refine(HL.out _).mono ?_;rintro _ w1 ⟨rfl,rfl⟩;go_wp2;go_ret;exact⟨rfl,rfl⟩
theorem zt8 (s:Gr.Str):Lib.trimPrefix s [45]=Gr.fT s:=by
 unfold Lib.trimPrefix Lib.hasPrefix Gr.fT;cases s with
 |nil=>rfl
 |cons c r=>
  by_cases h:c=45
  ·subst h;simp
  ·have:((45:UInt8)==c)=false:=by rw[beq_eq_false_iff_ne];exact fun e=>h e.symm
   simp[h];exact fun e=>h e.symm
theorem zo6 (s:Gr.Str) (w:World):Calls prog 114 #[.string ⟨s.toArray⟩,.string ⟨#[45]⟩] w fun e w'=>e=.returned (.tuple #[.string ⟨(Gr.fT s).toArray⟩,.bool (Lib.hasPrefix s [45])])/\w'=w:=by
 have:=strings_CutPrefix ⟨s.toArray⟩ ⟨#[45]⟩ w;have e1:Lib.trimPrefix (⟨s.toArray⟩:ByteArray).data.toList (⟨#[45]⟩:ByteArray).data.toList=Gr.fT s:=by rw[<-zt8]
 rw[e1]at this;exact this
theorem ztk (s:Gr.Str):(Gr.fT s).length<=s.length:=by
 unfold Gr.fT;split
 ·simp
 ·omega
theorem zj8 (s:Gr.Str) (hl:s.length<=1073741823) (w:World) (hT:UT w):Calls prog 90 #[.string ⟨s.toArray⟩] w (FPost (fltP s) w):=by
 have HT:=hid hT;have HCP:=hid (fun W=>zo6 s W);have htl:=ztk s;obtain⟨neg,hneg⟩:=ex (Lib.hasPrefix s [45])
 obtain⟨t,ht⟩:=ex (Gr.fT s)
 rw[hneg,ht]at HCP;rw[ht]at htl;have HP:Hid (fltP s=if s=[110,97,110]then true else if t=[105,110,102]then true else if t=[48,112,48]then true else fltN t):=hid (by rw[<-ht];rfl);have HCS:=hid (fun f g W=>zmo f g W);obtain⟨r,hr⟩:=ex (fltP s)
 rw[hr]at HP ⊢;clear hT hneg ht hr;by_cases hnan:s=[110,97,110]
 ·have h1:(s==([110,97,110]:List UInt8))=true:=by rw[beq_iff_eq];exact hnan
  have HF:Hid (r=true):=hid (by rw[HP.out,if_pos hnan]);have HN:=hid (fun W=>zrp W);clear hnan HP;go_enter func90,ntmps90;go_wp2_with fail;refine(HCP.out _).mono ?_;rintro _ w1 ⟨rfl,rfl⟩;go_wp2_with fail;refine(HN.out _).mono ?_;rintro _ w1 ⟨⟨x,rfl⟩,rfl⟩;go_wp2;go_ret2;rw[HF.out];exact⟨⟨x,rfl⟩,Below.refl _ _⟩
 ·have h1:(s==([110,97,110]:List UInt8))=false:=by rw[beq_eq_false_iff_ne];exact hnan
  have HP1:Hid (r=if t=[105,110,102]then true else if t=[48,112,48]then true else fltN t):=hid (by rw[HP.out,if_neg hnan]);clear hnan HP;by_cases hinf:t=[105,110,102]
  ·have h2:(t==([105,110,102]:List UInt8))=true:=by rw[beq_iff_eq];exact hinf
   have HF:Hid (r=true):=hid (by rw[HP1.out,if_pos hinf]);have HN:=hid (fun W=>zrq W);clear hinf HP1;cases neg
   all_goals
    go_enter func90,ntmps90;go_wp2_with fail;refine(HCP.out _).mono ?_;rintro _ w1 ⟨rfl,rfl⟩;go_wp2_with fail;refine(HN.out _).mono ?_;rintro _ w1 ⟨⟨x,rfl⟩,rfl⟩;go_wp2_with fail
   ·go_ret2;rw[HF.out];exact⟨⟨_,rfl⟩,Below.refl _ _⟩
   ·refine(HCS.out _ _ _).mono ?_;rintro _ w1 ⟨⟨y,rfl⟩,rfl⟩;go_wp2;go_ret2;rw[HF.out];exact⟨⟨_,rfl⟩,Below.refl _ _⟩
  ·have h2:(t==([105,110,102]:List UInt8))=false:=by rw[beq_eq_false_iff_ne];exact hinf
   have HP2:Hid (r=if t=[48,112,48]then true else fltN t):=hid (by rw[HP1.out,if_neg hinf]);clear hinf HP1;by_cases hz:t=[48,112,48]
   ·have h3:(t==([48,112,48]:List UInt8))=true:=by rw[beq_iff_eq];exact hz
    have HF:Hid (r=true):=hid (by rw[HP2.out,if_pos hz]);clear hz HP2;cases neg
    all_goals
     go_enter func90,ntmps90;go_wp2_with fail;refine(HCP.out _).mono ?_;rintro _ w1 ⟨rfl,rfl⟩;go_wp2_with fail
    ·go_ret2;rw[HF.out];exact⟨⟨_,rfl⟩,Below.refl _ _⟩
    ·refine(HCS.out _ _ _).mono ?_;rintro _ w1 ⟨⟨y,rfl⟩,rfl⟩;go_wp2;go_ret2;rw[HF.out];exact⟨⟨_,rfl⟩,Below.refl _ _⟩
   ·have h3:(t==([48,112,48]:List UInt8))=false:=by rw[beq_eq_false_iff_ne];exact hz
    have HP3:Hid (r=fltN t):=hid (by rw[HP2.out,if_neg hz]);have HC:=hid (fun W=>zro t (by omega) W);clear hz HP2;unfold cutV at HC;have HPD:Hid (r=match t.dropWhile (fun c=>c != 112)with| []=>false|_::b=>match Lib.parseUintB 64 (Gr.fA t)with| .ok m=>(match Lib.atoiAll b with| .ok e=>fitsB m e && decide (Lib.decDigits m++112::Lib.itoa e=t)|_=>false)|_=>false):=hid HP3.out;clear HP3;cases hd:t.dropWhile (fun c=>c != 112)with
    |nil=>
     rw[hd]at HC;simp only at HC;have HF:Hid (r=false):=hid (by rw[HPD.out,hd]);have HPU:=hid (fun W hW=>zti t (by omega) W hW);have HAT:=hid (fun W hW=>zmn [] (by simp) W hW);clear hd HPD;go_enter func90,ntmps90;go_wp2_with fail;refine(HCP.out _).mono ?_;rintro _ w1 ⟨rfl,rfl⟩;go_wp2_with fail;refine(HC.out _).mono ?_;rintro _ w2 ⟨rfl,hb2⟩;have HB2:=hid (And.intro hb2 (UT.stays _ _ HT.out hb2));clear hb2;go_wp2_with fail;refine(HPU.out _ HB2.out.2).mono ?_;rintro _ w3 ⟨⟨v,er,rfl⟩,hb3⟩;have HB3:=hid (And.intro (HB2.out.1.trans (hb3.mono HB2.out.1.size)) (UT.stays _ _ HB2.out.2 hb3));clear hb3;go_wp2_with fail;refine(HAT.out _ HB3.out.2).mono ?_;rintro _ w4 ⟨⟨v2,er2,rfl⟩,hb4⟩;have HB4:=hid (HB3.out.1.trans (hb4.mono HB3.out.1.size));clear hb4;go_wp2;go_ret2;rw[HF.out];exact⟨⟨_,rfl⟩,HB4.out⟩
    |cons c b=>
     have hsp:=ziz t hd;have hbl:b.length<=t.length:=by rw[hsp];simp;omega
     have hal:(Gr.fA t).length<=t.length:=by unfold Gr.fA;exact(List.takeWhile_sublist _).length_le
     rw[hd]at HC;simp only at HC;have HPE:Hid (r=match Lib.parseUintB 64 (Gr.fA t)with| .ok m=>(match Lib.atoiAll b with| .ok e=>fitsB m e && decide (Lib.decDigits m++112::Lib.itoa e=t)|_=>false)|_=>false):=hid (by rw[HPD.out,hd]);obtain⟨a,ha⟩:=ex (Gr.fA t)
     rw[ha]at HC HPE hal;clear hd HPD hsp ha;by_cases hpu:∃m,Lib.parseUintB 64 a=.ok m
     ·obtain⟨m,hm⟩:=hpu;have hm64:=ztj hm;have HPU:=hid (fun W=>zt3 a (by omega) m hm W);rw[hm]at HPE;by_cases hat:∃e,Lib.atoiAll b=.ok e
      ·obtain⟨e,he⟩:=hat;have heb:=zo3 he;have HAT:=hid (fun W=>zt5 b (by omega) e he W);have HFI:=hid (fun W=>zo0 m hm64 e heb.1 heb.2 W);rw[he]at HPE;simp only at HPE;cases hfit:fitsB m e with
       |false=>
        have HF:Hid (r=false):=hid (by rw[HPE.out,hfit];rfl);rw[hfit]at HFI;clear hm he HPE hfit hm64 heb;go_enter func90,ntmps90;go_wp2_with fail;refine(HCP.out _).mono ?_;rintro _ w1 ⟨rfl,rfl⟩;go_wp2_with fail;refine(HC.out _).mono ?_;rintro _ w2 ⟨rfl,hb2⟩;have HB2:=hid (And.intro hb2 (UT.stays _ _ HT.out hb2));clear hb2;go_wp2_with fail;refine(HPU.out _).mono ?_;rintro _ w3 ⟨rfl,hb3⟩;have HB3:=hid (And.intro (HB2.out.1.trans (hb3.mono HB2.out.1.size)) (UT.stays _ _ HB2.out.2 hb3));clear hb3;go_wp2_with fail;refine(HAT.out _).mono ?_;rintro _ w4 ⟨rfl,hb4⟩;have HB4:=hid (And.intro (HB3.out.1.trans (hb4.mono HB3.out.1.size)) (UT.stays _ _ HB3.out.2 hb4));clear hb4;go_wp2_with fail;refine(HFI.out _).mono ?_;rintro _ w5 ⟨rfl,rfl⟩;go_wp2;go_ret2;rw[HF.out];exact⟨⟨_,rfl⟩,HB4.out.1⟩
       |true=>
        obtain⟨L,hL⟩:=zrm m e hm64 hfit;obtain⟨f,hf⟩:=ex (Flt.fw m L 0)
        obtain⟨F,hFw⟩:=ex (Flt.fw m L e)
        have HLD:=hid (fun W=>zmp m L e hL f hf W);have HTX:=hid (fun W hW=>zmg m L e hL F hFw W hW);have hcv:floatOfInt .f64 (m:Int)=f:=by rw[hL.ofNat,<-hf,hL.at0.fw0]
        obtain⟨T,hTx⟩:∃T:Gr.Str,Lib.decDigits m++112::Lib.itoa e=T:=⟨_,rfl⟩
        rw[hTx]at HTX;rw[hFw]at HLD;have HFR:Hid (r=decide (T=t)):=hid (by rw[HPE.out,hfit,hTx];rfl);rw[hfit]at HFI;clear hm he HPE hfit hm64 heb hL hf hFw hTx;by_cases hTt:T=t
        ·have q1:(T==t)=true:=by rw[beq_iff_eq];exact hTt
         have q2:(T != t)=false:=by rw[bne,q1];rfl
         have HF:Hid (r=true):=hid (by rw[HFR.out,decide_eq_true hTt]);clear hTt HFR;cases neg
         all_goals
          go_enter func90,ntmps90;go_wp2_with fail;refine(HCP.out _).mono ?_;rintro _ w1 ⟨rfl,rfl⟩;go_wp2_with fail;refine(HC.out _).mono ?_;rintro _ w2 ⟨rfl,hb2⟩;have HB2:=hid (And.intro hb2 (UT.stays _ _ HT.out hb2));clear hb2;go_wp2_with fail;refine(HPU.out _).mono ?_;rintro _ w3 ⟨rfl,hb3⟩;have HB3:=hid (And.intro (HB2.out.1.trans (hb3.mono HB2.out.1.size)) (UT.stays _ _ HB2.out.2 hb3));clear hb3;go_wp2_with fail;refine(HAT.out _).mono ?_;rintro _ w4 ⟨rfl,hb4⟩;have HB4:=hid (And.intro (HB3.out.1.trans (hb4.mono HB3.out.1.size)) (UT.stays _ _ HB3.out.2 hb4));clear hb4;go_wp2_with fail;refine(HFI.out _).mono ?_;rintro _ w5 ⟨rfl,rfl⟩;go_wp2_with fail;refine(HLD.out _).mono ?_;rintro _ w6 ⟨rfl,rfl⟩;go_wp2_with fail;refine(HTX.out _ HB4.out.2).mono ?_;rintro _ w7 ⟨rfl,hb7⟩;have HB5:=hid (HB4.out.1.trans (hb7.mono HB4.out.1.size));clear hb7;go_wp2_with fail
         ·go_ret2;rw[HF.out];exact⟨⟨_,rfl⟩,HB5.out⟩
         ·refine(HCS.out _ _ _).mono ?_;rintro _ w1 ⟨⟨y,rfl⟩,rfl⟩;go_wp2;go_ret2;rw[HF.out];exact⟨⟨_,rfl⟩,HB5.out⟩
        ·have q1:(T==t)=false:=by rw[beq_eq_false_iff_ne];exact hTt
         have q2:(T != t)=true:=by rw[bne,q1];rfl
         have HF:Hid (r=false):=hid (by rw[HFR.out,decide_eq_false hTt]);clear hTt HFR;go_enter func90,ntmps90;go_wp2_with fail;refine(HCP.out _).mono ?_;rintro _ w1 ⟨rfl,rfl⟩;go_wp2_with fail;refine(HC.out _).mono ?_;rintro _ w2 ⟨rfl,hb2⟩;have HB2:=hid (And.intro hb2 (UT.stays _ _ HT.out hb2));clear hb2;go_wp2_with fail;refine(HPU.out _).mono ?_;rintro _ w3 ⟨rfl,hb3⟩;have HB3:=hid (And.intro (HB2.out.1.trans (hb3.mono HB2.out.1.size)) (UT.stays _ _ HB2.out.2 hb3));clear hb3;go_wp2_with fail;refine(HAT.out _).mono ?_;rintro _ w4 ⟨rfl,hb4⟩;have HB4:=hid (And.intro (HB3.out.1.trans (hb4.mono HB3.out.1.size)) (UT.stays _ _ HB3.out.2 hb4));clear hb4;go_wp2_with fail;refine(HFI.out _).mono ?_;rintro _ w5 ⟨rfl,rfl⟩;go_wp2_with fail;refine(HLD.out _).mono ?_;rintro _ w6 ⟨rfl,rfl⟩;go_wp2_with fail;refine(HTX.out _ HB4.out.2).mono ?_;rintro _ w7 ⟨rfl,hb7⟩;have HB5:=hid (HB4.out.1.trans (hb7.mono HB4.out.1.size));clear hb7;go_wp2;go_ret2;rw[HF.out];exact⟨⟨_,rfl⟩,HB5.out⟩
      ·have HF:Hid (r=false):=hid (by
        rw[HPE.out];simp only;split
        ·rename_i e he;exact absurd ⟨e,he⟩ hat
        ·rfl)
       have HAT:=hid (fun W hW=>zt6 b (by omega) (fun u hu=>hat ⟨u,hu⟩) W hW);clear hm hat HPE hm64;go_enter func90,ntmps90;go_wp2_with fail;refine(HCP.out _).mono ?_;rintro _ w1 ⟨rfl,rfl⟩;go_wp2_with fail;refine(HC.out _).mono ?_;rintro _ w2 ⟨rfl,hb2⟩;have HB2:=hid (And.intro hb2 (UT.stays _ _ HT.out hb2));clear hb2;go_wp2_with fail;refine(HPU.out _).mono ?_;rintro _ w3 ⟨rfl,hb3⟩;have HB3:=hid (And.intro (HB2.out.1.trans (hb3.mono HB2.out.1.size)) (UT.stays _ _ HB2.out.2 hb3));clear hb3;go_wp2_with fail;refine(HAT.out _ HB3.out.2).mono ?_;rintro _ w4 ⟨⟨v2,te,pe,rfl⟩,hb4⟩;have HB4:=hid (HB3.out.1.trans (hb4.mono HB3.out.1.size));clear hb4;go_wp2;go_ret2;rw[HF.out];exact⟨⟨_,rfl⟩,HB4.out⟩
     ·have HF:Hid (r=false):=hid (by
       rw[HPE.out];split
       ·rename_i m hm;exact absurd ⟨m,hm⟩ hpu
       ·rfl)
      have HPU:=hid (fun W hW=>zt4 a (by omega) (fun u hu=>hpu ⟨u,hu⟩) W hW);have HAT:=hid (fun W hW=>zmn b (by omega) W hW);clear hpu HPE;go_enter func90,ntmps90;go_wp2_with fail;refine(HCP.out _).mono ?_;rintro _ w1 ⟨rfl,rfl⟩;go_wp2_with fail;refine(HC.out _).mono ?_;rintro _ w2 ⟨rfl,hb2⟩;have HB2:=hid (And.intro hb2 (UT.stays _ _ HT.out hb2));clear hb2;go_wp2_with fail;refine(HPU.out _ HB2.out.2).mono ?_;rintro _ w3 ⟨⟨v,te,pe,rfl⟩,hb3⟩;have HB3:=hid (And.intro (HB2.out.1.trans (hb3.mono HB2.out.1.size)) (UT.stays _ _ HB2.out.2 hb3));clear hb3;go_wp2_with fail;refine(HAT.out _ HB3.out.2).mono ?_;rintro _ w4 ⟨⟨v2,er2,rfl⟩,hb4⟩;have HB4:=hid (HB3.out.1.trans (hb4.mono HB3.out.1.size));clear hb4;go_wp2;go_ret2;rw[HF.out];exact⟨⟨_,rfl⟩,HB4.out⟩
theorem zj9 (s:Gr.Str) (hl:s.length<=1073741823) (w:World) (hT:UT w):Calls prog 71 #[.string ⟨s.toArray⟩] w fun e w'=>e=.returned (.bool (fltP s))/\Below w.heap.size w w':=by
 have HP:=hid (zj8 s hl w hT);obtain⟨r,hr⟩:=ex (fltP s)
 rw[hr]at HP ⊢;clear hr hT;go_enter func71,ntmps71;go_wp2_with fail;refine HP.out.mono ?_;rintro _ w1 ⟨⟨g,rfl⟩,hb⟩;have HB:=hid hb;clear hb;go_wp2;go_ret;exact⟨rfl,HB.out⟩
theorem zo7 (text:Gr.Str) (hl:text.length<=1073741823):ScalOk UT 4 text (fltP text):=by
 intro w hw;have HC:=hid (zj9 text hl w hw);obtain⟨r,hr⟩:=ex (fltP text)
 rw[hr]at HC ⊢;clear hr hw;go_enter func42,ntmps42;go_wp2_with fail;refine HC.out.mono ?_;rintro e w2 ⟨rfl,hb⟩;have HB:=hid hb;clear hb;go_wp2;go_ret;exact⟨rfl,HB.out⟩
end Go.Proofs.YtoigpackhninoaaGreatDoor
