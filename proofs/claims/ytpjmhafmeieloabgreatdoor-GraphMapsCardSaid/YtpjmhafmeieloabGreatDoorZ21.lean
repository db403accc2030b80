import Derived.Test.YtpjmhafmeieloabGreatDoorGrDecE
import Derived.Test.YtpjmhafmeieloabGreatDoorZ12
namespace Go.Proofs.YtpjmhafmeieloabGreatDoor
open Gr
open _root_.Go.Proofs.Tryz
open _root_.Go.Lib (hid)
set_option maxRecDepth 100000
set_option maxHeartbeats 16000000
open Go.RowKit
theorem zl3 (m:Nat) (h0:m≠0) (h:m<18446744073709551616):Lib.bitLen m=m.log2+1/\2 ^ m.log2<=m/\m<2 ^ (m.log2+1):=by
 have a:=Nat.log2_self_le h0;have b:m<2 ^ (m.log2+1):=Nat.lt_log2_self;refine⟨?_,a,b⟩;rw[Lib.bitLen_shift m.log2 m a h];have:m /2 ^ m.log2=1:=by
  apply Nat.div_eq_of_lt_le
  .simpa using a
  .rw[Nat.pow_succ]at b;omega
 rw[this];rfl
theorem zvt (m:Nat) (e:Int) (hm:m<18446744073709551616) (h:fitsB m e=true):∃L,Flt.Fits m L e:=by
 unfold fitsB at h;simp only[Bool.and_eq_true,decide_eq_true_eq,beq_iff_eq]at h;obtain⟨⟨⟨⟨a,h2⟩,f⟩,h4⟩,c⟩:=h;obtain⟨d,g,b⟩:=zl3 m (by omega) hm;exact⟨m.log2,a,g,b,by omega,f,by rw[d]at c;omega⟩
theorem zsp (m:Nat) (hm:m<18446744073709551616) (e:Int) (h0:-9223372036854775808<=e) (h1:e<=9223372036854775807) (w:World):Calls prog 78 #[.int .u64 m,.int .i64 e] w fun r w'=>r=.returned (.bool (fitsB m e))/\w=w':=by
 have c:=hid (fun W=>bits_Len64 (m:Int) W (by omega) (by omega));have i:Lib.bitLen m<=64:=Lib.bitLen_le m 64 (by omega) (by omega);have l:((m:Int)).toNat=m:=by omega
 rw[l]at c;obtain⟨b,g⟩:=ex (Lib.bitLen m)
 have d:Hid (fitsB m e=(decide (m%2=1) && decide (b<=53) && decide (-1074<=e) && decide (e<=1023) && decide (e+b<=1024))):=hid (by unfold fitsB;rw[g];rfl);rw[g]at c i;clear g l;obtain⟨r,k⟩:=ex (fitsB m e)
 rw[k]at d ⊢;clear k;by_cases k1:m%2=1
 .have j:(m:Int)%2=1:=by omega
  have h:((m:Int)%2==1)=true:=by simpa using j
  by_cases k2:b<=53
  .have n:(b:Int)<=53:=by omega
   by_cases k3:-1074<=e
   .by_cases k4:e<=1023
    .by_cases k5:e+b<=1024
     .have a:Hid (r=true):=hid (by rw[d.out];simp[k1,k2,k3,k4,k5]);clear k1 k2;go_enter func78,ntmps78;go_wp2_with fail;refine(c.out _).mono ?_;rintro _ f ⟨rfl,rfl⟩;go_wp2;go_ret;rw[a.out];exact⟨by first|rfl|simp[*],rfl⟩
     .have a:Hid (r=false):=hid (by rw[d.out];simp[k5]);clear k1 k2;go_enter func78,ntmps78;go_wp2_with fail;refine(c.out _).mono ?_;rintro _ f ⟨rfl,rfl⟩;go_wp2;go_ret;rw[a.out];exact⟨by first|rfl|simp[*],rfl⟩
    .have a:Hid (r=false):=hid (by rw[d.out];simp[k4]);clear k1 k2;go_enter func78,ntmps78;go_wp2_with fail;refine(c.out _).mono ?_;rintro _ f ⟨rfl,rfl⟩;go_wp2;go_ret;rw[a.out];exact⟨by first|rfl|simp[*],rfl⟩
   .have a:Hid (r=false):=hid (by rw[d.out];simp[k3]);clear k1 k2;go_enter func78,ntmps78;go_wp2_with fail;refine(c.out _).mono ?_;rintro _ f ⟨rfl,rfl⟩;go_wp2;go_ret;rw[a.out];exact⟨by first|rfl|simp[*],rfl⟩
  .have n:¬(b:Int)<=53:=by omega
   have a:Hid (r=false):=hid (by rw[d.out];simp[k2]);clear k1 k2;go_enter func78,ntmps78;go_wp2_with fail;refine(c.out _).mono ?_;rintro _ f ⟨rfl,rfl⟩;go_wp2;go_ret;rw[a.out];exact⟨by first|rfl|simp[*],rfl⟩
 .have j:¬(m:Int)%2=1:=by omega
  have h:((m:Int)%2==1)=false:=by simpa using j
  have a:Hid (r=false):=hid (by rw[d.out];simp[k1]);clear k1;go_enter func78,ntmps78;go_wp2_with fail;refine(c.out _).mono ?_;rintro _ f ⟨rfl,rfl⟩;go_wp2;go_ret;rw[a.out];exact⟨by first|rfl|simp[*],rfl⟩
theorem zsq (s:Gr.Str) (w:World):(callFunc 124 #[.string ⟨s.toArray⟩,.int .u8 112]).run prog w=.ok (.value (.int .i64 (Lib.indexByte s 112))) w:=by
 rw[run_callFunc_extern func124 (by kernel_rfl) (by kernel_rfl) (by kernel_rfl) (e:=Extern.BytealgIndexByte.indexByte) (by kernel_rfl),Lib.run_indexByteString];rfl
theorem zsr (s:Gr.Str) (w:World):Calls prog 94 #[.string ⟨s.toArray⟩,.int .u8 112] w fun e w'=>e=.returned (.int .i64 (Lib.indexByte s 112))/\w=w':=by
 have c1:=fun W=>zsq s W
 go_enter func94,ntmps94;go_wp2;go_ret;exact⟨rfl,rfl⟩
theorem zvu (s:Gr.Str) (w:World):Calls prog 134 #[.string ⟨s.toArray⟩,.string ⟨#[112]⟩] w fun e w'=>e=.returned (.int .i64 (Lib.indexByte s 112))/\w=w':=by
 by_cases hs:[112]=s
 .subst hs;go_enter func134,ntmps134;go_wp2;go_ret;exact⟨rfl,rfl⟩
 .have h1:(([112]:List UInt8)==s)=false:=by rw[beq_eq_false_iff_ne];exact hs
  have h2:(s==([112]:List UInt8))=false:=by rw[beq_eq_false_iff_ne];exact fun e=>hs e.symm
  have b:=hid (fun W=>zsr s W);obtain⟨i,a⟩:=ex (Lib.indexByte s 112)
  rw[a]at b ⊢;clear a;go_enter func134,ntmps134;go_wp2_with fail;refine(b.out _).mono ?_;rintro _ w1 ⟨rfl,rfl⟩;go_wp2;go_ret;exact⟨rfl,rfl⟩
def cutV (t:Gr.Str):Value:=match t.dropWhile (fun c=>c != 112)with
 | []=>.tuple #[.string ⟨t.toArray⟩,.string ⟨#[]⟩,.bool false]
 |_::b=>.tuple #[.string ⟨(Gr.fA t).toArray⟩,.string ⟨b.toArray⟩,.bool true]
theorem zkw (t:Gr.Str) {c:UInt8} {b:Gr.Str} (h:t.dropWhile (fun c=>c != 112)=c::b):t=Gr.fA t++c::b:=by
 have:=List.takeWhile_append_dropWhile (p:=fun c:UInt8=>c != 112) (l:=t);rw[h]at this;exact this.symm
theorem zxz (t:Gr.Str) (hl:t.length<=1073741823) (w:World):Calls prog 102 #[.string ⟨t.toArray⟩,.string ⟨#[112]⟩] w fun e w'=>e=.returned (cutV t)/\Below w.heap.size w w':=by
 have g:=hid (fun W=>zvu t W);have d:=zjq t 112;unfold cutV;cases hd:t.dropWhile (fun c=>c != 112)with
 |nil=>
  rw[if_pos hd]at d;rw[d]at g;clear d hd;go_enter func102,ntmps102;go_wp2_with fail;refine(g.out _).mono ?_;rintro _ i ⟨rfl,rfl⟩;go_wp2_with fail;exact bodyPost_ret (v:=.tuple #[.string ⟨t.toArray⟩,.string ⟨#[]⟩,.bool false]) (by simp[results,go_sem]) rfl ⟨rfl,Below.refl _ _⟩
 |cons c b=>
  rw[if_neg (by rw[hd];exact List.cons_ne_nil _ _)]at d;have f:=zkw t hd;obtain⟨a,h⟩:=ex (Gr.fA t)
  have d:Lib.indexByte t 112=((Gr.fA t).length:Int):=d;rw[d,h]at g;rw[h]at f;simp only;rw[h];have hla:a.length+1<=t.length:=by rw[f];simp
  have hlaI:(a.length:Int)+1<=(t.length:Int):=by omega
  have e1:(⟨t.toArray⟩:ByteArray).extract 0 a.length=⟨a.toArray⟩:=by rw[zat,f];simp
  have e2:(⟨t.toArray⟩:ByteArray).extract (a.length+1) t.length=⟨b.toArray⟩:=by rw[zat,List.take_of_length_le (by simp),f];simp
  clear d hd h f;have i1:IntKind.i64.wrap ((a.length:Int)+1)=(a.length:Int)+1:=IntWalk.i64_in _ (by omega);have i2:((a.length:Int)+1).toNat=a.length+1:=by omega
  have i3:(0:Int)<=(a.length:Int)+1:=by omega
  go_enter func102,ntmps102;go_wp2_with fail;refine(g.out _).mono ?_;rintro _ i ⟨rfl,rfl⟩;go_wp2_with fail;go_quiet (fail);go_wp2_with fail;exact bodyPost_ret (v:=.tuple #[.string ⟨a.toArray⟩,.string ⟨b.toArray⟩,.bool true]) (by simp[results,go_sem]) rfl ⟨rfl,below_drewN (Below.refl _ _) _⟩
theorem zvv (t:Gr.Str) (hl:t.length<=1073741823) (w:World):Calls prog 76 #[.string ⟨t.toArray⟩,.string ⟨#[112]⟩] w fun e w'=>e=.returned (cutV t)/\Below w.heap.size w w':=by
 have d:=hid (zxz t hl w);unfold cutV at d ⊢;cases hd:t.dropWhile (fun c=>c != 112)with
 |nil=>
  rw[hd]at d;simp only at d;clear hd;go_enter func76,ntmps76;go_wp2_with fail;refine d.out.mono ?_;rintro _ i ⟨rfl,f⟩;have g:=hid f;clear f;go_wp2_with fail;exact bodyPost_ret (v:=.tuple #[.string ⟨t.toArray⟩,.string ⟨#[]⟩,.bool false]) (by simp[results,go_sem]) rfl ⟨rfl,g.out⟩
 |cons c b=>
  rw[hd]at d;simp only at d ⊢;obtain⟨a,h⟩:=ex (Gr.fA t)
  rw[h]at d ⊢;clear hd h;go_enter func76,ntmps76;go_wp2_with fail;refine d.out.mono ?_;rintro _ i ⟨rfl,f⟩;have g:=hid f;clear f;go_wp2_with fail;exact bodyPost_ret (v:=.tuple #[.string ⟨a.toArray⟩,.string ⟨b.toArray⟩,.bool true]) (by simp[results,go_sem]) rfl ⟨rfl,g.out⟩
def FPost (b:Bool) (w:World) (e:Ending) (w':World):Prop:=(∃g:Nat,e=.returned (.tuple #[.float .f64 g,.bool b]))/\Below w.heap.size w w'
theorem zx0 (a:Gr.Str) (hl:a.length<=1073741823) (w:World) (hT:UT w):Calls prog 77 #[.string ⟨a.toArray⟩,.int .i64 10,.int .i64 64] w fun e w'=>(∃(v:Int) (er:Value),e=.returned (.tuple #[.int .u64 v,er]))/\Below w.heap.size w w':=by
 have hs:(⟨a.toArray⟩:ByteArray).size=a.length:=by simp[ByteArray.size]
 cases h:Lib.parseUintB 64 (⟨a.toArray⟩:ByteArray).data.toList with
 |ok u=>
  refine(strconv_ParseUint_10_at64_ok ⟨a.toArray⟩ (by omega) u h w).mono ?_;rintro e w' ⟨rfl,f⟩;refine⟨⟨_,_,rfl⟩,?_⟩;rcases f with rfl|rfl
  .exact Below.refl _ _
  .exact Lib.bytesWorld_below _ _ _
 |range=>
  obtain⟨d,p,b⟩:=hT.er;refine(strconv_ParseUint_10_at64_range ⟨a.toArray⟩ (by omega) h _ w b (.inr ⟨d,p,rfl⟩)).mono ?_;rintro e w' ⟨N,rfl,_,_,c⟩;exact⟨⟨_,_,rfl⟩,c⟩
 |_=>
  obtain⟨d,p,b⟩:=hT.es;refine(strconv_ParseUint_10_at64_syntax ⟨a.toArray⟩ (by omega) h _ w b (.inr ⟨d,p,rfl⟩)).mono ?_;rintro e w' ⟨N,rfl,_,_,c⟩;exact⟨⟨_,_,rfl⟩,c⟩
theorem zyt (a:Gr.Str) (hl:a.length<=1073741823) (u:Nat) (h:Lib.parseUintB 64 a=.ok u) (w:World):Calls prog 77 #[.string ⟨a.toArray⟩,.int .i64 10,.int .i64 64] w fun e w'=>e=.returned (.tuple #[.int .u64 u,.nilIface])/\Below w.heap.size w w':=by
 have hs:(⟨a.toArray⟩:ByteArray).size=a.length:=by simp[ByteArray.size]
 refine(strconv_ParseUint_10_at64_ok ⟨a.toArray⟩ (by omega) u h w).mono ?_;rintro e w' ⟨rfl,b⟩;refine⟨rfl,?_⟩;rcases b with rfl|rfl
 .exact Below.refl _ _
 .exact Lib.bytesWorld_below _ _ _
theorem zyu (a:Gr.Str) (hl:a.length<=1073741823) (h:∀u,Lib.parseUintB 64 a≠.ok u) (w:World) (hT:UT w):Calls prog 77 #[.string ⟨a.toArray⟩,.int .i64 10,.int .i64 64] w fun e w'=>(∃(v:Int) (te:TypeId) (p:Value),e=.returned (.tuple #[.int .u64 v,.iface te p]))/\Below w.heap.size w w':=by
 have hs:(⟨a.toArray⟩:ByteArray).size=a.length:=by simp[ByteArray.size]
 cases h2:Lib.parseUintB 64 (⟨a.toArray⟩:ByteArray).data.toList with
 |ok u=>exact absurd h2 (h u)
 |range=>
  obtain⟨te,p,b⟩:=hT.er;refine(strconv_ParseUint_10_at64_range ⟨a.toArray⟩ (by omega) h2 _ w b (.inr ⟨te,p,rfl⟩)).mono ?_;rintro e w' ⟨N,rfl,_,_,c⟩;exact⟨⟨_,_,_,rfl⟩,c⟩
 |_=>
  obtain⟨te,p,b⟩:=hT.es;refine(strconv_ParseUint_10_at64_syntax ⟨a.toArray⟩ (by omega) h2 _ w b (.inr ⟨te,p,rfl⟩)).mono ?_;rintro e w' ⟨N,rfl,_,_,c⟩;exact⟨⟨_,_,_,rfl⟩,c⟩
theorem zpb (a:Gr.Str) (hl:a.length<=1073741823) (w:World) (hT:UT w):Calls prog 67 #[.string ⟨a.toArray⟩] w fun e w'=>(∃(v:Int) (er:Value),e=.returned (.tuple #[.int .i64 v,er]))/\Below w.heap.size w w':=by
 have hs:(⟨a.toArray⟩:ByteArray).size=a.length:=by simp[ByteArray.size]
 cases h:Lib.atoiAll (⟨a.toArray⟩:ByteArray).data.toList with
 |ok u=>
  refine(strconv_Atoi_ok ⟨a.toArray⟩ (by omega) u h w).mono ?_;rintro e w' ⟨rfl,f⟩;refine⟨⟨_,_,rfl⟩,?_⟩;rcases f with rfl|⟨t,rfl⟩
  .exact Below.refl _ _
  .exact Lib.bytesWorld_below _ _ _
 |range=>
  obtain⟨d,p,b⟩:=hT.er;refine(strconv_Atoi_range ⟨a.toArray⟩ (by omega) h _ w b (.inr ⟨d,p,rfl⟩)).mono ?_;rintro e w' ⟨N,rfl,_,_,c⟩;exact⟨⟨_,_,rfl⟩,c⟩
 |_=>
  obtain⟨d,p,b⟩:=hT.es;refine(strconv_Atoi_syntax ⟨a.toArray⟩ (by omega) h _ w b (.inr ⟨d,p,rfl⟩)).mono ?_;rintro e w' ⟨N,rfl,_,_,c⟩;exact⟨⟨_,_,rfl⟩,c⟩
theorem zyv (a:Gr.Str) (hl:a.length<=1073741823) (u:Int) (h:Lib.atoiAll a=.ok u) (w:World):Calls prog 67 #[.string ⟨a.toArray⟩] w fun e w'=>e=.returned (.tuple #[.int .i64 u,.nilIface])/\Below w.heap.size w w':=by
 have hs:(⟨a.toArray⟩:ByteArray).size=a.length:=by simp[ByteArray.size]
 refine(strconv_Atoi_ok ⟨a.toArray⟩ (by omega) u h w).mono ?_;rintro e w' ⟨rfl,b⟩;refine⟨rfl,?_⟩;rcases b with rfl|⟨t,rfl⟩
 .exact Below.refl _ _
 .exact Lib.bytesWorld_below _ _ _
theorem zyw (a:Gr.Str) (hl:a.length<=1073741823) (h:∀u,Lib.atoiAll a≠.ok u) (w:World) (hT:UT w):Calls prog 67 #[.string ⟨a.toArray⟩] w fun e w'=>(∃(v:Int) (te:TypeId) (p:Value),e=.returned (.tuple #[.int .i64 v,.iface te p]))/\Below w.heap.size w w':=by
 have hs:(⟨a.toArray⟩:ByteArray).size=a.length:=by simp[ByteArray.size]
 cases h2:Lib.atoiAll (⟨a.toArray⟩:ByteArray).data.toList with
 |ok u=>exact absurd h2 (h u)
 |range=>
  obtain⟨te,p,b⟩:=hT.er;refine(strconv_Atoi_range ⟨a.toArray⟩ (by omega) h2 _ w b (.inr ⟨te,p,rfl⟩)).mono ?_;rintro e w' ⟨N,rfl,_,_,c⟩;exact⟨⟨_,_,_,rfl⟩,c⟩
 |_=>
  obtain⟨te,p,b⟩:=hT.es;refine(strconv_Atoi_syntax ⟨a.toArray⟩ (by omega) h2 _ w b (.inr ⟨te,p,rfl⟩)).mono ?_;rintro e w' ⟨N,rfl,_,_,c⟩;exact⟨⟨_,_,_,rfl⟩,c⟩
theorem zss {l:List UInt8} {v:Int} (h:Lib.atoiAll l=.ok v):-9223372036854775808<=v/\v<=9223372036854775807:=Lib.atoiAll_bounds h
theorem zx1 {l:List UInt8} {v:Nat} (h:Lib.parseUintB 64 l=.ok v):v<18446744073709551616:=by
 have:=Lib.parseUintB_le h;omega
theorem zpc (f g:Nat) (w:World):Calls prog 81 #[.float .f64 f,.float .f64 g] w fun e w'=>(∃x:Nat,e=.returned (.float .f64 x))/\w=w':=by
 have c1:=fun(n:Nat) W=>zcg n W
 have c2:=fun(n:Int) W=>zaz n W
 go_enter func81,ntmps81;go_wp2;go_ret;exact⟨⟨_,rfl⟩,rfl⟩
theorem zvw (w:World):Calls prog 74 #[] w fun e w'=>(∃x:Nat,e=.returned (.float .f64 x))/\w=w':=by
 have c2:=fun W=>zaz 9221120237041090561 W
 go_enter func74,ntmps74;go_wp2;go_ret;exact⟨⟨_,rfl⟩,rfl⟩
theorem zvx (w:World):Calls prog 75 #[.int .i64 1] w fun e w'=>(∃x:Nat,e=.returned (.float .f64 x))/\w=w':=by
 have c2:=fun(n:Int) W=>zaz n W
 go_enter func75,ntmps75;go_wp2;go_ret;exact⟨⟨_,rfl⟩,rfl⟩
theorem zpd (m L:Nat) (e:Int) (h:Flt.Fits m L e) (f:Nat) (hf:Flt.fw m L 0=f) (w:World):Calls prog 79 #[.float .f64 f,.int .i64 e] w fun r w'=>r=.returned (.float .f64 (Flt.fw m L e))/\w=w':=by
 have a:=hid (fun W=>zoo m L e h f hf W);clear h hf;go_enter func79,ntmps79;go_wp2_with fail;refine(a.out _).mono ?_;rintro _ w1 ⟨rfl,rfl⟩;go_wp2;go_ret;exact⟨rfl,rfl⟩
theorem zyy (s:Gr.Str):Lib.trimPrefix s [45]=Gr.fT s:=by
 unfold Lib.trimPrefix Lib.hasPrefix Gr.fT;cases s with
 |nil=>rfl
 |cons c r=>
  by_cases h:c=45
  .subst h;simp
  .have:((45:UInt8)==c)=false:=by rw[beq_eq_false_iff_ne];exact fun e=>h e.symm
   simp[h];exact fun e=>h e.symm
theorem zs2 (s:Gr.Str) (w:World):Calls prog 73 #[.string ⟨s.toArray⟩,.string ⟨#[45]⟩] w fun e w'=>e=.returned (.tuple #[.string ⟨(Gr.fT s).toArray⟩,.bool (Lib.hasPrefix s [45])])/\w'=w:=by
 have:=strings_CutPrefix ⟨s.toArray⟩ ⟨#[45]⟩ w;have a:Lib.trimPrefix (⟨s.toArray⟩:ByteArray).data.toList (⟨#[45]⟩:ByteArray).data.toList=Gr.fT s:=by rw[<-zyy]
 rw[a]at this;exact this
theorem zx4 (s:Gr.Str):(Gr.fT s).length<=s.length:=by
 unfold Gr.fT;split
 .simp
 .omega
theorem zme (s:Gr.Str) (hl:s.length<=1073741823) (w:World) (hT:UT w):Calls prog 53 #[.string ⟨s.toArray⟩] w (FPost (fltP s) w):=by
 have Z:=hid hT;have o:=hid (fun W=>zs2 s W);have ac:=zx4 s;obtain⟨U,O⟩:=ex (Lib.hasPrefix s [45])
 obtain⟨t,ht⟩:=ex (Gr.fT s)
 rw[O,ht]at o;rw[ht]at ac;have HP:Hid (fltP s=if s=[110,97,110]then true else if t=[105,110,102]then true else if t=[48,112,48]then true else fltN t):=hid (by rw[<-ht];rfl);have Y:=hid (fun f g W=>zpc f g W);obtain⟨r,hr⟩:=ex (fltP s)
 rw[hr]at HP ⊢;clear hT O ht hr;by_cases hnan:s=[110,97,110]
 .have h1:(s==([110,97,110]:List UInt8))=true:=by rw[beq_iff_eq];exact hnan
  have p:Hid (r=true):=hid (by rw[HP.out,if_pos hnan]);have HN:=hid (fun W=>zvw W);clear hnan HP;go_enter func53,ntmps53;go_wp2_with fail;refine(o.out _).mono ?_;rintro _ B ⟨rfl,rfl⟩;go_wp2_with fail;refine(HN.out _).mono ?_;rintro _ B ⟨⟨x,rfl⟩,rfl⟩;go_wp2;go_ret2;rw[p.out];exact⟨⟨x,rfl⟩,Below.refl _ _⟩
 .have h1:(s==([110,97,110]:List UInt8))=false:=by rw[beq_eq_false_iff_ne];exact hnan
  have M:Hid (r=if t=[105,110,102]then true else if t=[48,112,48]then true else fltN t):=hid (by rw[HP.out,if_neg hnan]);clear hnan HP;by_cases hinf:t=[105,110,102]
  .have h2:(t==([105,110,102]:List UInt8))=true:=by rw[beq_iff_eq];exact hinf
   have p:Hid (r=true):=hid (by rw[M.out,if_pos hinf]);have HN:=hid (fun W=>zvx W);clear hinf M;cases U
   all_goals
    go_enter func53,ntmps53;go_wp2_with fail;refine(o.out _).mono ?_;rintro _ B ⟨rfl,rfl⟩;go_wp2_with fail;refine(HN.out _).mono ?_;rintro _ B ⟨⟨x,rfl⟩,rfl⟩;go_wp2_with fail
   .go_ret2;rw[p.out];exact⟨⟨_,rfl⟩,Below.refl _ _⟩
   .refine(Y.out _ _ _).mono ?_;rintro _ B ⟨⟨y,rfl⟩,rfl⟩;go_wp2;go_ret2;rw[p.out];exact⟨⟨_,rfl⟩,Below.refl _ _⟩
  .have h2:(t==([105,110,102]:List UInt8))=false:=by rw[beq_eq_false_iff_ne];exact hinf
   have J:Hid (r=if t=[48,112,48]then true else fltN t):=hid (by rw[M.out,if_neg hinf]);clear hinf M;by_cases hz:t=[48,112,48]
   .have h3:(t==([48,112,48]:List UInt8))=true:=by rw[beq_iff_eq];exact hz
    have p:Hid (r=true):=hid (by rw[J.out,if_pos hz]);clear hz J;cases U
    all_goals
     go_enter func53,ntmps53;go_wp2_with fail;refine(o.out _).mono ?_;rintro _ B ⟨rfl,rfl⟩;go_wp2_with fail
    .go_ret2;rw[p.out];exact⟨⟨_,rfl⟩,Below.refl _ _⟩
    .refine(Y.out _ _ _).mono ?_;rintro _ B ⟨⟨y,rfl⟩,rfl⟩;go_wp2;go_ret2;rw[p.out];exact⟨⟨_,rfl⟩,Below.refl _ _⟩
   .have h3:(t==([48,112,48]:List UInt8))=false:=by rw[beq_eq_false_iff_ne];exact hz
    have ab:Hid (r=fltN t):=hid (by rw[J.out,if_neg hz]);have C:=hid (fun W=>zvv t (by omega) W);clear hz J;unfold cutV at C;have H:Hid (r=match t.dropWhile (fun c=>c != 112)with| []=>false|_::b=>match Lib.parseUintB 64 (Gr.fA t)with| .ok m=>(match Lib.atoiAll b with| .ok e=>fitsB m e && decide (Lib.decDigits m++112::Lib.itoa e=t)|_=>false)|_=>false):=hid ab.out;clear ab;cases hd:t.dropWhile (fun c=>c != 112)with
    |nil=>
     rw[hd]at C;simp only at C;have p:Hid (r=false):=hid (by rw[H.out,hd]);have z:=hid (fun W D=>zx0 t (by omega) W D);have q:=hid (fun W D=>zpb [] (by simp) W D);clear hd H;go_enter func53,ntmps53;go_wp2_with fail;refine(o.out _).mono ?_;rintro _ B ⟨rfl,rfl⟩;go_wp2_with fail;refine(C.out _).mono ?_;rintro _ w2 ⟨rfl,j⟩;have d:=hid (And.intro j (UT.stays _ _ Z.out j));clear j;go_wp2_with fail;refine(z.out _ d.out.2).mono ?_;rintro _ w3 ⟨⟨v,er,rfl⟩,i⟩;have h:=hid (And.intro (d.out.1.trans (i.mono d.out.1.size)) (UT.stays _ _ d.out.2 i));clear i;go_wp2_with fail;refine(q.out _ h.out.2).mono ?_;rintro _ w4 ⟨⟨v2,ae,rfl⟩,k⟩;have l:=hid (h.out.1.trans (k.mono h.out.1.size));clear k;go_wp2;go_ret2;rw[p.out];exact⟨⟨_,rfl⟩,l.out⟩
    |cons c b=>
     have aa:=zkw t hd;have hbl:b.length<=t.length:=by rw[aa];simp;omega
     have ad:(Gr.fA t).length<=t.length:=by unfold Gr.fA;exact(List.takeWhile_sublist _).length_le
     rw[hd]at C;simp only at C;have n:Hid (r=match Lib.parseUintB 64 (Gr.fA t)with| .ok m=>(match Lib.atoiAll b with| .ok e=>fitsB m e && decide (Lib.decDigits m++112::Lib.itoa e=t)|_=>false)|_=>false):=hid (by rw[H.out,hd]);obtain⟨a,ha⟩:=ex (Gr.fA t)
     rw[ha]at C n ad;clear hd H aa ha;by_cases hpu:∃m,Lib.parseUintB 64 a=.ok m
     .obtain⟨m,P⟩:=hpu;have A:=zx1 P;have z:=hid (fun W=>zyt a (by omega) m P W);rw[P]at n;by_cases hat:∃e,Lib.atoiAll b=.ok e
      .obtain⟨e,Q⟩:=hat;have K:=zss Q;have q:=hid (fun W=>zyv b (by omega) e Q W);have E:=hid (fun W=>zsp m A e K.1 K.2 W);rw[Q]at n;simp only at n;cases hfit:fitsB m e with
       |false=>
        have p:Hid (r=false):=hid (by rw[n.out,hfit];rfl);rw[hfit]at E;clear P Q n hfit A K;go_enter func53,ntmps53;go_wp2_with fail;refine(o.out _).mono ?_;rintro _ B ⟨rfl,rfl⟩;go_wp2_with fail;refine(C.out _).mono ?_;rintro _ w2 ⟨rfl,j⟩;have d:=hid (And.intro j (UT.stays _ _ Z.out j));clear j;go_wp2_with fail;refine(z.out _).mono ?_;rintro _ w3 ⟨rfl,i⟩;have h:=hid (And.intro (d.out.1.trans (i.mono d.out.1.size)) (UT.stays _ _ d.out.2 i));clear i;go_wp2_with fail;refine(q.out _).mono ?_;rintro _ w4 ⟨rfl,k⟩;have l:=hid (And.intro (h.out.1.trans (k.mono h.out.1.size)) (UT.stays _ _ h.out.2 k));clear k;go_wp2_with fail;refine(E.out _).mono ?_;rintro _ w5 ⟨rfl,rfl⟩;go_wp2;go_ret2;rw[p.out];exact⟨⟨_,rfl⟩,l.out.1⟩
       |true=>
        obtain⟨L,hL⟩:=zvt m e A hfit;obtain⟨f,hf⟩:=ex (Flt.fw m L 0)
        obtain⟨F,S⟩:=ex (Flt.fw m L e)
        have R:=hid (fun W=>zpd m L e hL f hf W);have V:=hid (fun W D=>zo4 m L e hL F S W D);have hcv:floatOfInt .f64 (m:Int)=f:=by rw[hL.ofNat,<-hf,hL.at0.fw0]
        obtain⟨T,X⟩:∃T:Gr.Str,Lib.decDigits m++112::Lib.itoa e=T:=⟨_,rfl⟩
        rw[X]at V;rw[S]at R;have I:Hid (r=decide (T=t)):=hid (by rw[n.out,hfit,X];rfl);rw[hfit]at E;clear P Q n hfit A K hL hf S X;by_cases hTt:T=t
        .have q1:(T==t)=true:=by rw[beq_iff_eq];exact hTt
         have q2:(T != t)=false:=by rw[bne,q1];rfl
         have p:Hid (r=true):=hid (by rw[I.out,decide_eq_true hTt]);clear hTt I;cases U
         all_goals
          go_enter func53,ntmps53;go_wp2_with fail;refine(o.out _).mono ?_;rintro _ B ⟨rfl,rfl⟩;go_wp2_with fail;refine(C.out _).mono ?_;rintro _ w2 ⟨rfl,j⟩;have d:=hid (And.intro j (UT.stays _ _ Z.out j));clear j;go_wp2_with fail;refine(z.out _).mono ?_;rintro _ w3 ⟨rfl,i⟩;have h:=hid (And.intro (d.out.1.trans (i.mono d.out.1.size)) (UT.stays _ _ d.out.2 i));clear i;go_wp2_with fail;refine(q.out _).mono ?_;rintro _ w4 ⟨rfl,k⟩;have l:=hid (And.intro (h.out.1.trans (k.mono h.out.1.size)) (UT.stays _ _ h.out.2 k));clear k;go_wp2_with fail;refine(E.out _).mono ?_;rintro _ w5 ⟨rfl,rfl⟩;go_wp2_with fail;refine(R.out _).mono ?_;rintro _ w6 ⟨rfl,rfl⟩;go_wp2_with fail;refine(V.out _ l.out.2).mono ?_;rintro _ w7 ⟨rfl,G⟩;have N:=hid (l.out.1.trans (G.mono l.out.1.size));clear G;go_wp2_with fail
         .go_ret2;rw[p.out];exact⟨⟨_,rfl⟩,N.out⟩
         .refine(Y.out _ _ _).mono ?_;rintro _ B ⟨⟨y,rfl⟩,rfl⟩;go_wp2;go_ret2;rw[p.out];exact⟨⟨_,rfl⟩,N.out⟩
        .have q1:(T==t)=false:=by rw[beq_eq_false_iff_ne];exact hTt
         have q2:(T != t)=true:=by rw[bne,q1];rfl
         have p:Hid (r=false):=hid (by rw[I.out,decide_eq_false hTt]);clear hTt I;go_enter func53,ntmps53;go_wp2_with fail;refine(o.out _).mono ?_;rintro _ B ⟨rfl,rfl⟩;go_wp2_with fail;refine(C.out _).mono ?_;rintro _ w2 ⟨rfl,j⟩;have d:=hid (And.intro j (UT.stays _ _ Z.out j));clear j;go_wp2_with fail;refine(z.out _).mono ?_;rintro _ w3 ⟨rfl,i⟩;have h:=hid (And.intro (d.out.1.trans (i.mono d.out.1.size)) (UT.stays _ _ d.out.2 i));clear i;go_wp2_with fail;refine(q.out _).mono ?_;rintro _ w4 ⟨rfl,k⟩;have l:=hid (And.intro (h.out.1.trans (k.mono h.out.1.size)) (UT.stays _ _ h.out.2 k));clear k;go_wp2_with fail;refine(E.out _).mono ?_;rintro _ w5 ⟨rfl,rfl⟩;go_wp2_with fail;refine(R.out _).mono ?_;rintro _ w6 ⟨rfl,rfl⟩;go_wp2_with fail;refine(V.out _ l.out.2).mono ?_;rintro _ w7 ⟨rfl,G⟩;have N:=hid (l.out.1.trans (G.mono l.out.1.size));clear G;go_wp2;go_ret2;rw[p.out];exact⟨⟨_,rfl⟩,N.out⟩
      .have p:Hid (r=false):=hid (by
        rw[n.out];simp only;split
        .rename_i e Q;exact absurd ⟨e,Q⟩ hat
        .rfl)
       have q:=hid (fun W D=>zyw b (by omega) (fun u hu=>hat ⟨u,hu⟩) W D);clear P hat n A;go_enter func53,ntmps53;go_wp2_with fail;refine(o.out _).mono ?_;rintro _ B ⟨rfl,rfl⟩;go_wp2_with fail;refine(C.out _).mono ?_;rintro _ w2 ⟨rfl,j⟩;have d:=hid (And.intro j (UT.stays _ _ Z.out j));clear j;go_wp2_with fail;refine(z.out _).mono ?_;rintro _ w3 ⟨rfl,i⟩;have h:=hid (And.intro (d.out.1.trans (i.mono d.out.1.size)) (UT.stays _ _ d.out.2 i));clear i;go_wp2_with fail;refine(q.out _ h.out.2).mono ?_;rintro _ w4 ⟨⟨v2,te,pe,rfl⟩,k⟩;have l:=hid (h.out.1.trans (k.mono h.out.1.size));clear k;go_wp2;go_ret2;rw[p.out];exact⟨⟨_,rfl⟩,l.out⟩
     .have p:Hid (r=false):=hid (by
       rw[n.out];split
       .rename_i m P;exact absurd ⟨m,P⟩ hpu
       .rfl)
      have z:=hid (fun W D=>zyu a (by omega) (fun u hu=>hpu ⟨u,hu⟩) W D);have q:=hid (fun W D=>zpb b (by omega) W D);clear hpu n;go_enter func53,ntmps53;go_wp2_with fail;refine(o.out _).mono ?_;rintro _ B ⟨rfl,rfl⟩;go_wp2_with fail;refine(C.out _).mono ?_;rintro _ w2 ⟨rfl,j⟩;have d:=hid (And.intro j (UT.stays _ _ Z.out j));clear j;go_wp2_with fail;refine(z.out _ d.out.2).mono ?_;rintro _ w3 ⟨⟨v,te,pe,rfl⟩,i⟩;have h:=hid (And.intro (d.out.1.trans (i.mono d.out.1.size)) (UT.stays _ _ d.out.2 i));clear i;go_wp2_with fail;refine(q.out _ h.out.2).mono ?_;rintro _ w4 ⟨⟨v2,ae,rfl⟩,k⟩;have l:=hid (h.out.1.trans (k.mono h.out.1.size));clear k;go_wp2;go_ret2;rw[p.out];exact⟨⟨_,rfl⟩,l.out⟩
theorem zmf (s:Gr.Str) (hl:s.length<=1073741823) (w:World) (hT:UT w):Calls prog 38 #[.string ⟨s.toArray⟩] w fun e w'=>e=.returned (.bool (fltP s))/\Below w.heap.size w w':=by
 have c:=hid (zme s hl w hT);obtain⟨r,a⟩:=ex (fltP s)
 rw[a]at c ⊢;clear a hT;go_enter func38,ntmps38;go_wp2_with fail;refine c.out.mono ?_;rintro _ w1 ⟨⟨g,rfl⟩,b⟩;have d:=hid b;clear b;go_wp2;go_ret;exact⟨rfl,d.out⟩
theorem zs3 (text:Gr.Str) (hl:text.length<=1073741823):ScalOk UT 4 text (fltP text):=by
 intro w c;have d:=hid (zmf text hl w c);obtain⟨r,a⟩:=ex (fltP text)
 rw[a]at d ⊢;clear a c;go_enter func22,ntmps22;go_wp2_with fail;refine d.out.mono ?_;rintro e w2 ⟨rfl,b⟩;have f:=hid b;clear b;go_wp2;go_ret;exact⟨rfl,f.out⟩
end Go.Proofs.YtpjmhafmeieloabGreatDoor
