import Derived.Test.YtpjmhafmeieloaaGreatDoorGrDecE
import Derived.Test.YtpjmhafmeieloaaGreatDoorZ10
namespace Go.Proofs.YtpjmhafmeieloaaGreatDoor
open Gr
open _root_.Go.Proofs.Tryz
open _root_.Go.Lib (hid)
set_option maxRecDepth 100000
set_option maxHeartbeats 16000000
open Go.RowKit
theorem zm0 (m:Nat) (h0:m≠0) (h:m<18446744073709551616):Lib.bitLen m=m.log2+1/\2 ^ m.log2<=m/\m<2 ^ (m.log2+1):=by
 have a:=Nat.log2_self_le h0;have b:m<2 ^ (m.log2+1):=Nat.lt_log2_self;refine⟨?_,a,b⟩;rw[Lib.bitLen_shift m.log2 m a h];have:m /2 ^ m.log2=1:=by
  apply Nat.div_eq_of_lt_le
  .simpa using a
  .rw[Nat.pow_succ]at b;omega
 rw[this];rfl
theorem zwe (m:Nat) (e:Int) (hm:m<18446744073709551616) (h:fitsB m e=true):∃L,Flt.Fits m L e:=by
 unfold fitsB at h;simp only[Bool.and_eq_true,decide_eq_true_eq,beq_iff_eq]at h;obtain⟨⟨⟨⟨a,h2⟩,d⟩,h4⟩,f⟩:=h;obtain⟨g,c,b⟩:=zm0 m (by omega) hm;exact⟨m.log2,a,c,b,by omega,d,by rw[g]at f;omega⟩
theorem zs7 (m:Nat) (hm:m<18446744073709551616) (e:Int) (h0:-9223372036854775808<=e) (h1:e<=9223372036854775807) (w:World):Calls prog 76 #[.int .u64 m,.int .i64 e] w fun r w'=>r=.returned (.bool (fitsB m e))/\w=w':=by
 have c:=hid (fun W=>bits_Len64 (m:Int) W (by omega) (by omega));have h:Lib.bitLen m<=64:=Lib.bitLen_le m 64 (by omega) (by omega);have k:((m:Int)).toNat=m:=by omega
 rw[k]at c;obtain⟨b,j⟩:=ex (Lib.bitLen m)
 have d:Hid (fitsB m e=(decide (m%2=1) && decide (b<=53) && decide (-1074<=e) && decide (e<=1023) && decide (e+b<=1024))):=hid (by unfold fitsB;rw[j];rfl);rw[j]at c h;clear j k;obtain⟨r,l⟩:=ex (fitsB m e)
 rw[l]at d ⊢;clear l;by_cases k1:m%2=1
 .have i:(m:Int)%2=1:=by omega
  have g:((m:Int)%2==1)=true:=by simpa using i
  by_cases k2:b<=53
  .have n:(b:Int)<=53:=by omega
   by_cases k3:-1074<=e
   .by_cases k4:e<=1023
    .by_cases k5:e+b<=1024
     .have a:Hid (r=true):=hid (by rw[d.out];simp[k1,k2,k3,k4,k5]);clear k1 k2;go_enter func76,ntmps76;go_wp2_with fail;refine(c.out _).mono ?_;rintro _ f ⟨rfl,rfl⟩;go_wp2;go_ret;rw[a.out];exact⟨by first|rfl|simp[*],rfl⟩
     .have a:Hid (r=false):=hid (by rw[d.out];simp[k5]);clear k1 k2;go_enter func76,ntmps76;go_wp2_with fail;refine(c.out _).mono ?_;rintro _ f ⟨rfl,rfl⟩;go_wp2;go_ret;rw[a.out];exact⟨by first|rfl|simp[*],rfl⟩
    .have a:Hid (r=false):=hid (by rw[d.out];simp[k4]);clear k1 k2;go_enter func76,ntmps76;go_wp2_with fail;refine(c.out _).mono ?_;rintro _ f ⟨rfl,rfl⟩;go_wp2;go_ret;rw[a.out];exact⟨by first|rfl|simp[*],rfl⟩
   .have a:Hid (r=false):=hid (by rw[d.out];simp[k3]);clear k1 k2;go_enter func76,ntmps76;go_wp2_with fail;refine(c.out _).mono ?_;rintro _ f ⟨rfl,rfl⟩;go_wp2;go_ret;rw[a.out];exact⟨by first|rfl|simp[*],rfl⟩
  .have n:¬(b:Int)<=53:=by omega
   have a:Hid (r=false):=hid (by rw[d.out];simp[k2]);clear k1 k2;go_enter func76,ntmps76;go_wp2_with fail;refine(c.out _).mono ?_;rintro _ f ⟨rfl,rfl⟩;go_wp2;go_ret;rw[a.out];exact⟨by first|rfl|simp[*],rfl⟩
 .have i:¬(m:Int)%2=1:=by omega
  have g:((m:Int)%2==1)=false:=by simpa using i
  have a:Hid (r=false):=hid (by rw[d.out];simp[k1]);clear k1;go_enter func76,ntmps76;go_wp2_with fail;refine(c.out _).mono ?_;rintro _ f ⟨rfl,rfl⟩;go_wp2;go_ret;rw[a.out];exact⟨by first|rfl|simp[*],rfl⟩
theorem zs8 (s:Gr.Str) (w:World):(callFunc 122 #[.string ⟨s.toArray⟩,.int .u8 112]).run prog w=.ok (.value (.int .i64 (Lib.indexByte s 112))) w:=by
 rw[run_callFunc_extern func122 (by kernel_rfl) (by kernel_rfl) (by kernel_rfl) (e:=Extern.BytealgIndexByte.indexByte) (by kernel_rfl),Lib.run_indexByteString];rfl
theorem zs9 (s:Gr.Str) (w:World):Calls prog 92 #[.string ⟨s.toArray⟩,.int .u8 112] w fun e w'=>e=.returned (.int .i64 (Lib.indexByte s 112))/\w=w':=by
 have c1:=fun W=>zs8 s W
 go_enter func92,ntmps92;go_wp2;go_ret;exact⟨rfl,rfl⟩
theorem zwf (s:Gr.Str) (w:World):Calls prog 132 #[.string ⟨s.toArray⟩,.string ⟨#[112]⟩] w fun e w'=>e=.returned (.int .i64 (Lib.indexByte s 112))/\w=w':=by
 by_cases hs:[112]=s
 .subst hs;go_enter func132,ntmps132;go_wp2;go_ret;exact⟨rfl,rfl⟩
 .have h1:(([112]:List UInt8)==s)=false:=by rw[beq_eq_false_iff_ne];exact hs
  have h2:(s==([112]:List UInt8))=false:=by rw[beq_eq_false_iff_ne];exact fun e=>hs e.symm
  have a:=hid (fun W=>zs9 s W);obtain⟨i,b⟩:=ex (Lib.indexByte s 112)
  rw[b]at a ⊢;clear b;go_enter func132,ntmps132;go_wp2_with fail;refine(a.out _).mono ?_;rintro _ w1 ⟨rfl,rfl⟩;go_wp2;go_ret;exact⟨rfl,rfl⟩
def cutV (t:Gr.Str):Value:=match t.dropWhile (fun c=>c != 112)with
 | []=>.tuple #[.string ⟨t.toArray⟩,.string ⟨#[]⟩,.bool false]
 |_::b=>.tuple #[.string ⟨(Gr.fA t).toArray⟩,.string ⟨b.toArray⟩,.bool true]
theorem zlc (t:Gr.Str) {c:UInt8} {b:Gr.Str} (h:t.dropWhile (fun c=>c != 112)=c::b):t=Gr.fA t++c::b:=by
 have:=List.takeWhile_append_dropWhile (p:=fun c:UInt8=>c != 112) (l:=t);rw[h]at this;exact this.symm
theorem zyd (t:Gr.Str) (hl:t.length<=1073741823) (w:World):Calls prog 100 #[.string ⟨t.toArray⟩,.string ⟨#[112]⟩] w fun e w'=>e=.returned (cutV t)/\Below w.heap.size w w':=by
 have h:=hid (fun W=>zwf t W);have d:=zj4 t 112;unfold cutV;cases hd:t.dropWhile (fun c=>c != 112)with
 |nil=>
  rw[if_pos hd]at d;rw[d]at h;clear d hd;go_enter func100,ntmps100;go_wp2_with fail;refine(h.out _).mono ?_;rintro _ i ⟨rfl,rfl⟩;go_wp2_with fail;exact bodyPost_ret (v:=.tuple #[.string ⟨t.toArray⟩,.string ⟨#[]⟩,.bool false]) (by simp[results,go_sem]) rfl ⟨rfl,Below.refl _ _⟩
 |cons c b=>
  rw[if_neg (by rw[hd];exact List.cons_ne_nil _ _)]at d;have f:=zlc t hd;obtain⟨a,g⟩:=ex (Gr.fA t)
  have d:Lib.indexByte t 112=((Gr.fA t).length:Int):=d;rw[d,g]at h;rw[g]at f;simp only;rw[g];have hla:a.length+1<=t.length:=by rw[f];simp
  have hlaI:(a.length:Int)+1<=(t.length:Int):=by omega
  have e1:(⟨t.toArray⟩:ByteArray).extract 0 a.length=⟨a.toArray⟩:=by rw[zat,f];simp
  have e2:(⟨t.toArray⟩:ByteArray).extract (a.length+1) t.length=⟨b.toArray⟩:=by rw[zat,List.take_of_length_le (by simp),f];simp
  clear d hd g f;have i1:IntKind.i64.wrap ((a.length:Int)+1)=(a.length:Int)+1:=IntWalk.i64_in _ (by omega);have i2:((a.length:Int)+1).toNat=a.length+1:=by omega
  have i3:(0:Int)<=(a.length:Int)+1:=by omega
  go_enter func100,ntmps100;go_wp2_with fail;refine(h.out _).mono ?_;rintro _ i ⟨rfl,rfl⟩;go_wp2_with fail;go_quiet (fail);go_wp2_with fail;exact bodyPost_ret (v:=.tuple #[.string ⟨a.toArray⟩,.string ⟨b.toArray⟩,.bool true]) (by simp[results,go_sem]) rfl ⟨rfl,below_drewN (Below.refl _ _) _⟩
theorem zwg (t:Gr.Str) (hl:t.length<=1073741823) (w:World):Calls prog 74 #[.string ⟨t.toArray⟩,.string ⟨#[112]⟩] w fun e w'=>e=.returned (cutV t)/\Below w.heap.size w w':=by
 have d:=hid (zyd t hl w);unfold cutV at d ⊢;cases hd:t.dropWhile (fun c=>c != 112)with
 |nil=>
  rw[hd]at d;simp only at d;clear hd;go_enter func74,ntmps74;go_wp2_with fail;refine d.out.mono ?_;rintro _ i ⟨rfl,f⟩;have g:=hid f;clear f;go_wp2_with fail;exact bodyPost_ret (v:=.tuple #[.string ⟨t.toArray⟩,.string ⟨#[]⟩,.bool false]) (by simp[results,go_sem]) rfl ⟨rfl,g.out⟩
 |cons c b=>
  rw[hd]at d;simp only at d ⊢;obtain⟨a,h⟩:=ex (Gr.fA t)
  rw[h]at d ⊢;clear hd h;go_enter func74,ntmps74;go_wp2_with fail;refine d.out.mono ?_;rintro _ i ⟨rfl,f⟩;have g:=hid f;clear f;go_wp2_with fail;exact bodyPost_ret (v:=.tuple #[.string ⟨a.toArray⟩,.string ⟨b.toArray⟩,.bool true]) (by simp[results,go_sem]) rfl ⟨rfl,g.out⟩
def FPost (b:Bool) (w:World) (e:Ending) (w':World):Prop:=(∃g:Nat,e=.returned (.tuple #[.float .f64 g,.bool b]))/\Below w.heap.size w w'
theorem zye (a:Gr.Str) (hl:a.length<=1073741823) (w:World) (hT:UT w):Calls prog 75 #[.string ⟨a.toArray⟩,.int .i64 10,.int .i64 64] w fun e w'=>(∃(v:Int) (er:Value),e=.returned (.tuple #[.int .u64 v,er]))/\Below w.heap.size w w':=by
 have hs:(⟨a.toArray⟩:ByteArray).size=a.length:=by simp[ByteArray.size]
 cases h:Lib.parseUintB 64 (⟨a.toArray⟩:ByteArray).data.toList with
 |ok u=>
  refine(strconv_ParseUint_10_at64_ok ⟨a.toArray⟩ (by omega) u h w).mono ?_;rintro e w' ⟨rfl,f⟩;refine⟨⟨_,_,rfl⟩,?_⟩;rcases f with rfl|rfl
  .exact Below.refl _ _
  .exact Lib.bytesWorld_below _ _ _
 |range=>
  obtain⟨d,p,b⟩:=hT.er;refine(strconv_ParseUint_10_at64_range ⟨a.toArray⟩ (by omega) h _ w b (.inr ⟨d,p,rfl⟩)).mono ?_;rintro e w' ⟨N,rfl,_,_,c⟩;exact⟨⟨_,_,rfl⟩,c⟩
 |_=>
  obtain⟨d,p,b⟩:=hT.es;refine(strconv_ParseUint_10_at64_syntax ⟨a.toArray⟩ (by omega) h _ w b (.inr ⟨d,p,rfl⟩)).mono ?_;rintro e w' ⟨N,rfl,_,_,c⟩;exact⟨⟨_,_,rfl⟩,c⟩
theorem zy1 (a:Gr.Str) (hl:a.length<=1073741823) (u:Nat) (h:Lib.parseUintB 64 a=.ok u) (w:World):Calls prog 75 #[.string ⟨a.toArray⟩,.int .i64 10,.int .i64 64] w fun e w'=>e=.returned (.tuple #[.int .u64 u,.nilIface])/\Below w.heap.size w w':=by
 have hs:(⟨a.toArray⟩:ByteArray).size=a.length:=by simp[ByteArray.size]
 refine(strconv_ParseUint_10_at64_ok ⟨a.toArray⟩ (by omega) u h w).mono ?_;rintro e w' ⟨rfl,b⟩;refine⟨rfl,?_⟩;rcases b with rfl|rfl
 .exact Below.refl _ _
 .exact Lib.bytesWorld_below _ _ _
theorem zy2 (a:Gr.Str) (hl:a.length<=1073741823) (h:∀u,Lib.parseUintB 64 a≠.ok u) (w:World) (hT:UT w):Calls prog 75 #[.string ⟨a.toArray⟩,.int .i64 10,.int .i64 64] w fun e w'=>(∃(v:Int) (te:TypeId) (p:Value),e=.returned (.tuple #[.int .u64 v,.iface te p]))/\Below w.heap.size w w':=by
 have hs:(⟨a.toArray⟩:ByteArray).size=a.length:=by simp[ByteArray.size]
 cases h2:Lib.parseUintB 64 (⟨a.toArray⟩:ByteArray).data.toList with
 |ok u=>exact absurd h2 (h u)
 |range=>
  obtain⟨te,p,b⟩:=hT.er;refine(strconv_ParseUint_10_at64_range ⟨a.toArray⟩ (by omega) h2 _ w b (.inr ⟨te,p,rfl⟩)).mono ?_;rintro e w' ⟨N,rfl,_,_,c⟩;exact⟨⟨_,_,_,rfl⟩,c⟩
 |_=>
  obtain⟨te,p,b⟩:=hT.es;refine(strconv_ParseUint_10_at64_syntax ⟨a.toArray⟩ (by omega) h2 _ w b (.inr ⟨te,p,rfl⟩)).mono ?_;rintro e w' ⟨N,rfl,_,_,c⟩;exact⟨⟨_,_,_,rfl⟩,c⟩
theorem zqh (a:Gr.Str) (hl:a.length<=1073741823) (w:World) (hT:UT w):Calls prog 65 #[.string ⟨a.toArray⟩] w fun e w'=>(∃(v:Int) (er:Value),e=.returned (.tuple #[.int .i64 v,er]))/\Below w.heap.size w w':=by
 have hs:(⟨a.toArray⟩:ByteArray).size=a.length:=by simp[ByteArray.size]
 cases h:Lib.atoiAll (⟨a.toArray⟩:ByteArray).data.toList with
 |ok u=>
  refine(strconv_Atoi_ok ⟨a.toArray⟩ (by omega) u h w).mono ?_;rintro e w' ⟨rfl,f⟩;refine⟨⟨_,_,rfl⟩,?_⟩;rcases f with rfl|⟨t,rfl⟩
  .exact Below.refl _ _
  .exact Lib.bytesWorld_below _ _ _
 |range=>
  obtain⟨d,p,b⟩:=hT.er;refine(strconv_Atoi_range ⟨a.toArray⟩ (by omega) h _ w b (.inr ⟨d,p,rfl⟩)).mono ?_;rintro e w' ⟨N,rfl,_,_,c⟩;exact⟨⟨_,_,rfl⟩,c⟩
 |_=>
  obtain⟨d,p,b⟩:=hT.es;refine(strconv_Atoi_syntax ⟨a.toArray⟩ (by omega) h _ w b (.inr ⟨d,p,rfl⟩)).mono ?_;rintro e w' ⟨N,rfl,_,_,c⟩;exact⟨⟨_,_,rfl⟩,c⟩
theorem zy3 (a:Gr.Str) (hl:a.length<=1073741823) (u:Int) (h:Lib.atoiAll a=.ok u) (w:World):Calls prog 65 #[.string ⟨a.toArray⟩] w fun e w'=>e=.returned (.tuple #[.int .i64 u,.nilIface])/\Below w.heap.size w w':=by
 have hs:(⟨a.toArray⟩:ByteArray).size=a.length:=by simp[ByteArray.size]
 refine(strconv_Atoi_ok ⟨a.toArray⟩ (by omega) u h w).mono ?_;rintro e w' ⟨rfl,b⟩;refine⟨rfl,?_⟩;rcases b with rfl|⟨t,rfl⟩
 .exact Below.refl _ _
 .exact Lib.bytesWorld_below _ _ _
theorem zy4 (a:Gr.Str) (hl:a.length<=1073741823) (h:∀u,Lib.atoiAll a≠.ok u) (w:World) (hT:UT w):Calls prog 65 #[.string ⟨a.toArray⟩] w fun e w'=>(∃(v:Int) (te:TypeId) (p:Value),e=.returned (.tuple #[.int .i64 v,.iface te p]))/\Below w.heap.size w w':=by
 have hs:(⟨a.toArray⟩:ByteArray).size=a.length:=by simp[ByteArray.size]
 cases h2:Lib.atoiAll (⟨a.toArray⟩:ByteArray).data.toList with
 |ok u=>exact absurd h2 (h u)
 |range=>
  obtain⟨te,p,b⟩:=hT.er;refine(strconv_Atoi_range ⟨a.toArray⟩ (by omega) h2 _ w b (.inr ⟨te,p,rfl⟩)).mono ?_;rintro e w' ⟨N,rfl,_,_,c⟩;exact⟨⟨_,_,_,rfl⟩,c⟩
 |_=>
  obtain⟨te,p,b⟩:=hT.es;refine(strconv_Atoi_syntax ⟨a.toArray⟩ (by omega) h2 _ w b (.inr ⟨te,p,rfl⟩)).mono ?_;rintro e w' ⟨N,rfl,_,_,c⟩;exact⟨⟨_,_,_,rfl⟩,c⟩
theorem zta {l:List UInt8} {v:Int} (h:Lib.atoiAll l=.ok v):-9223372036854775808<=v/\v<=9223372036854775807:=Lib.atoiAll_bounds h
theorem zyf {l:List UInt8} {v:Nat} (h:Lib.parseUintB 64 l=.ok v):v<18446744073709551616:=by
 have:=Lib.parseUintB_le h;omega
theorem zqi (f g:Nat) (w:World):Calls prog 79 #[.float .f64 f,.float .f64 g] w fun e w'=>(∃x:Nat,e=.returned (.float .f64 x))/\w=w':=by
 have c1:=fun(n:Nat) W=>zcn n W
 have c2:=fun(n:Int) W=>zaz n W
 go_enter func79,ntmps79;go_wp2;go_ret;exact⟨⟨_,rfl⟩,rfl⟩
theorem zwh (w:World):Calls prog 72 #[] w fun e w'=>(∃x:Nat,e=.returned (.float .f64 x))/\w=w':=by
 have c2:=fun W=>zaz 9221120237041090561 W
 go_enter func72,ntmps72;go_wp2;go_ret;exact⟨⟨_,rfl⟩,rfl⟩
theorem zwi (w:World):Calls prog 73 #[.int .i64 1] w fun e w'=>(∃x:Nat,e=.returned (.float .f64 x))/\w=w':=by
 have c2:=fun(n:Int) W=>zaz n W
 go_enter func73,ntmps73;go_wp2;go_ret;exact⟨⟨_,rfl⟩,rfl⟩
theorem zqj (m L:Nat) (e:Int) (h:Flt.Fits m L e) (f:Nat) (hf:Flt.fw m L 0=f) (w:World):Calls prog 77 #[.float .f64 f,.int .i64 e] w fun r w'=>r=.returned (.float .f64 (Flt.fw m L e))/\w=w':=by
 have a:=hid (fun W=>zp1 m L e h f hf W);clear h hf;go_enter func77,ntmps77;go_wp2_with fail;refine(a.out _).mono ?_;rintro _ w1 ⟨rfl,rfl⟩;go_wp2;go_ret;exact⟨rfl,rfl⟩
theorem zy5 (s:Gr.Str):Lib.trimPrefix s [45]=Gr.fT s:=by
 unfold Lib.trimPrefix Lib.hasPrefix Gr.fT;cases s with
 |nil=>rfl
 |cons c r=>
  by_cases h:c=45
  .subst h;simp
  .have:((45:UInt8)==c)=false:=by rw[beq_eq_false_iff_ne];exact fun e=>h e.symm
   simp[h];exact fun e=>h e.symm
theorem ztb (s:Gr.Str) (w:World):Calls prog 71 #[.string ⟨s.toArray⟩,.string ⟨#[45]⟩] w fun e w'=>e=.returned (.tuple #[.string ⟨(Gr.fT s).toArray⟩,.bool (Lib.hasPrefix s [45])])/\w'=w:=by
 have:=strings_CutPrefix ⟨s.toArray⟩ ⟨#[45]⟩ w;have a:Lib.trimPrefix (⟨s.toArray⟩:ByteArray).data.toList (⟨#[45]⟩:ByteArray).data.toList=Gr.fT s:=by rw[<-zy5]
 rw[a]at this;exact this
theorem zyg (s:Gr.Str):(Gr.fT s).length<=s.length:=by
 unfold Gr.fT;split
 .simp
 .omega
theorem zm1 (s:Gr.Str) (hl:s.length<=1073741823) (w:World) (hT:UT w):Calls prog 52 #[.string ⟨s.toArray⟩] w (FPost (fltP s) w):=by
 have Z:=hid hT;have o:=hid (fun W=>ztb s W);have ae:=zyg s;obtain⟨R,P⟩:=ex (Lib.hasPrefix s [45])
 obtain⟨t,ht⟩:=ex (Gr.fT s)
 rw[P,ht]at o;rw[ht]at ae;have HP:Hid (fltP s=if s=[110,97,110]then true else if t=[105,110,102]then true else if t=[48,112,48]then true else fltN t):=hid (by rw[<-ht];rfl);have V:=hid (fun f g W=>zqi f g W);obtain⟨r,hr⟩:=ex (fltP s)
 rw[hr]at HP ⊢;clear hT P ht hr;by_cases hnan:s=[110,97,110]
 .have h1:(s==([110,97,110]:List UInt8))=true:=by rw[beq_iff_eq];exact hnan
  have p:Hid (r=true):=hid (by rw[HP.out,if_pos hnan]);have HN:=hid (fun W=>zwh W);clear hnan HP;go_enter func52,ntmps52;go_wp2_with fail;refine(o.out _).mono ?_;rintro _ B ⟨rfl,rfl⟩;go_wp2_with fail;refine(HN.out _).mono ?_;rintro _ B ⟨⟨x,rfl⟩,rfl⟩;go_wp2;go_ret2;rw[p.out];exact⟨⟨x,rfl⟩,Below.refl _ _⟩
 .have h1:(s==([110,97,110]:List UInt8))=false:=by rw[beq_eq_false_iff_ne];exact hnan
  have J:Hid (r=if t=[105,110,102]then true else if t=[48,112,48]then true else fltN t):=hid (by rw[HP.out,if_neg hnan]);clear hnan HP;by_cases hinf:t=[105,110,102]
  .have h2:(t==([105,110,102]:List UInt8))=true:=by rw[beq_iff_eq];exact hinf
   have p:Hid (r=true):=hid (by rw[J.out,if_pos hinf]);have HN:=hid (fun W=>zwi W);clear hinf J;cases R
   all_goals
    go_enter func52,ntmps52;go_wp2_with fail;refine(o.out _).mono ?_;rintro _ B ⟨rfl,rfl⟩;go_wp2_with fail;refine(HN.out _).mono ?_;rintro _ B ⟨⟨x,rfl⟩,rfl⟩;go_wp2_with fail
   .go_ret2;rw[p.out];exact⟨⟨_,rfl⟩,Below.refl _ _⟩
   .refine(V.out _ _ _).mono ?_;rintro _ B ⟨⟨y,rfl⟩,rfl⟩;go_wp2;go_ret2;rw[p.out];exact⟨⟨_,rfl⟩,Below.refl _ _⟩
  .have h2:(t==([105,110,102]:List UInt8))=false:=by rw[beq_eq_false_iff_ne];exact hinf
   have K:Hid (r=if t=[48,112,48]then true else fltN t):=hid (by rw[J.out,if_neg hinf]);clear hinf J;by_cases hz:t=[48,112,48]
   .have h3:(t==([48,112,48]:List UInt8))=true:=by rw[beq_iff_eq];exact hz
    have p:Hid (r=true):=hid (by rw[K.out,if_pos hz]);clear hz K;cases R
    all_goals
     go_enter func52,ntmps52;go_wp2_with fail;refine(o.out _).mono ?_;rintro _ B ⟨rfl,rfl⟩;go_wp2_with fail
    .go_ret2;rw[p.out];exact⟨⟨_,rfl⟩,Below.refl _ _⟩
    .refine(V.out _ _ _).mono ?_;rintro _ B ⟨⟨y,rfl⟩,rfl⟩;go_wp2;go_ret2;rw[p.out];exact⟨⟨_,rfl⟩,Below.refl _ _⟩
   .have h3:(t==([48,112,48]:List UInt8))=false:=by rw[beq_eq_false_iff_ne];exact hz
    have ab:Hid (r=fltN t):=hid (by rw[K.out,if_neg hz]);have C:=hid (fun W=>zwg t (by omega) W);clear hz K;unfold cutV at C;have I:Hid (r=match t.dropWhile (fun c=>c != 112)with| []=>false|_::b=>match Lib.parseUintB 64 (Gr.fA t)with| .ok m=>(match Lib.atoiAll b with| .ok e=>fitsB m e && decide (Lib.decDigits m++112::Lib.itoa e=t)|_=>false)|_=>false):=hid ab.out;clear ab;cases hd:t.dropWhile (fun c=>c != 112)with
    |nil=>
     rw[hd]at C;simp only at C;have p:Hid (r=false):=hid (by rw[I.out,hd]);have A:=hid (fun W G=>zye t (by omega) W G);have q:=hid (fun W G=>zqh [] (by simp) W G);clear hd I;go_enter func52,ntmps52;go_wp2_with fail;refine(o.out _).mono ?_;rintro _ B ⟨rfl,rfl⟩;go_wp2_with fail;refine(C.out _).mono ?_;rintro _ w2 ⟨rfl,h⟩;have d:=hid (And.intro h (UT.stays _ _ Z.out h));clear h;go_wp2_with fail;refine(A.out _ d.out.2).mono ?_;rintro _ w3 ⟨⟨v,er,rfl⟩,j⟩;have i:=hid (And.intro (d.out.1.trans (j.mono d.out.1.size)) (UT.stays _ _ d.out.2 j));clear j;go_wp2_with fail;refine(q.out _ i.out.2).mono ?_;rintro _ w4 ⟨⟨v2,ad,rfl⟩,k⟩;have l:=hid (i.out.1.trans (k.mono i.out.1.size));clear k;go_wp2;go_ret2;rw[p.out];exact⟨⟨_,rfl⟩,l.out⟩
    |cons c b=>
     have aa:=zlc t hd;have hbl:b.length<=t.length:=by rw[aa];simp;omega
     have ac:(Gr.fA t).length<=t.length:=by unfold Gr.fA;exact(List.takeWhile_sublist _).length_le
     rw[hd]at C;simp only at C;have n:Hid (r=match Lib.parseUintB 64 (Gr.fA t)with| .ok m=>(match Lib.atoiAll b with| .ok e=>fitsB m e && decide (Lib.decDigits m++112::Lib.itoa e=t)|_=>false)|_=>false):=hid (by rw[I.out,hd]);obtain⟨a,ha⟩:=ex (Gr.fA t)
     rw[ha]at C n ac;clear hd I aa ha;by_cases hpu:∃m,Lib.parseUintB 64 a=.ok m
     .obtain⟨m,O⟩:=hpu;have z:=zyf O;have A:=hid (fun W=>zy1 a (by omega) m O W);rw[O]at n;by_cases hat:∃e,Lib.atoiAll b=.ok e
      .obtain⟨e,U⟩:=hat;have N:=zta U;have q:=hid (fun W=>zy3 b (by omega) e U W);have E:=hid (fun W=>zs7 m z e N.1 N.2 W);rw[U]at n;simp only at n;cases hfit:fitsB m e with
       |false=>
        have p:Hid (r=false):=hid (by rw[n.out,hfit];rfl);rw[hfit]at E;clear O U n hfit z N;go_enter func52,ntmps52;go_wp2_with fail;refine(o.out _).mono ?_;rintro _ B ⟨rfl,rfl⟩;go_wp2_with fail;refine(C.out _).mono ?_;rintro _ w2 ⟨rfl,h⟩;have d:=hid (And.intro h (UT.stays _ _ Z.out h));clear h;go_wp2_with fail;refine(A.out _).mono ?_;rintro _ w3 ⟨rfl,j⟩;have i:=hid (And.intro (d.out.1.trans (j.mono d.out.1.size)) (UT.stays _ _ d.out.2 j));clear j;go_wp2_with fail;refine(q.out _).mono ?_;rintro _ w4 ⟨rfl,k⟩;have l:=hid (And.intro (i.out.1.trans (k.mono i.out.1.size)) (UT.stays _ _ i.out.2 k));clear k;go_wp2_with fail;refine(E.out _).mono ?_;rintro _ w5 ⟨rfl,rfl⟩;go_wp2;go_ret2;rw[p.out];exact⟨⟨_,rfl⟩,l.out.1⟩
       |true=>
        obtain⟨L,hL⟩:=zwe m e z hfit;obtain⟨f,hf⟩:=ex (Flt.fw m L 0)
        obtain⟨F,X⟩:=ex (Flt.fw m L e)
        have Q:=hid (fun W=>zqj m L e hL f hf W);have S:=hid (fun W G=>zqa m L e hL F X W G);have hcv:floatOfInt .f64 (m:Int)=f:=by rw[hL.ofNat,<-hf,hL.at0.fw0]
        obtain⟨T,Y⟩:∃T:Gr.Str,Lib.decDigits m++112::Lib.itoa e=T:=⟨_,rfl⟩
        rw[Y]at S;rw[X]at Q;have H:Hid (r=decide (T=t)):=hid (by rw[n.out,hfit,Y];rfl);rw[hfit]at E;clear O U n hfit z N hL hf X Y;by_cases hTt:T=t
        .have q1:(T==t)=true:=by rw[beq_iff_eq];exact hTt
         have q2:(T != t)=false:=by rw[bne,q1];rfl
         have p:Hid (r=true):=hid (by rw[H.out,decide_eq_true hTt]);clear hTt H;cases R
         all_goals
          go_enter func52,ntmps52;go_wp2_with fail;refine(o.out _).mono ?_;rintro _ B ⟨rfl,rfl⟩;go_wp2_with fail;refine(C.out _).mono ?_;rintro _ w2 ⟨rfl,h⟩;have d:=hid (And.intro h (UT.stays _ _ Z.out h));clear h;go_wp2_with fail;refine(A.out _).mono ?_;rintro _ w3 ⟨rfl,j⟩;have i:=hid (And.intro (d.out.1.trans (j.mono d.out.1.size)) (UT.stays _ _ d.out.2 j));clear j;go_wp2_with fail;refine(q.out _).mono ?_;rintro _ w4 ⟨rfl,k⟩;have l:=hid (And.intro (i.out.1.trans (k.mono i.out.1.size)) (UT.stays _ _ i.out.2 k));clear k;go_wp2_with fail;refine(E.out _).mono ?_;rintro _ w5 ⟨rfl,rfl⟩;go_wp2_with fail;refine(Q.out _).mono ?_;rintro _ w6 ⟨rfl,rfl⟩;go_wp2_with fail;refine(S.out _ l.out.2).mono ?_;rintro _ w7 ⟨rfl,D⟩;have M:=hid (l.out.1.trans (D.mono l.out.1.size));clear D;go_wp2_with fail
         .go_ret2;rw[p.out];exact⟨⟨_,rfl⟩,M.out⟩
         .refine(V.out _ _ _).mono ?_;rintro _ B ⟨⟨y,rfl⟩,rfl⟩;go_wp2;go_ret2;rw[p.out];exact⟨⟨_,rfl⟩,M.out⟩
        .have q1:(T==t)=false:=by rw[beq_eq_false_iff_ne];exact hTt
         have q2:(T != t)=true:=by rw[bne,q1];rfl
         have p:Hid (r=false):=hid (by rw[H.out,decide_eq_false hTt]);clear hTt H;go_enter func52,ntmps52;go_wp2_with fail;refine(o.out _).mono ?_;rintro _ B ⟨rfl,rfl⟩;go_wp2_with fail;refine(C.out _).mono ?_;rintro _ w2 ⟨rfl,h⟩;have d:=hid (And.intro h (UT.stays _ _ Z.out h));clear h;go_wp2_with fail;refine(A.out _).mono ?_;rintro _ w3 ⟨rfl,j⟩;have i:=hid (And.intro (d.out.1.trans (j.mono d.out.1.size)) (UT.stays _ _ d.out.2 j));clear j;go_wp2_with fail;refine(q.out _).mono ?_;rintro _ w4 ⟨rfl,k⟩;have l:=hid (And.intro (i.out.1.trans (k.mono i.out.1.size)) (UT.stays _ _ i.out.2 k));clear k;go_wp2_with fail;refine(E.out _).mono ?_;rintro _ w5 ⟨rfl,rfl⟩;go_wp2_with fail;refine(Q.out _).mono ?_;rintro _ w6 ⟨rfl,rfl⟩;go_wp2_with fail;refine(S.out _ l.out.2).mono ?_;rintro _ w7 ⟨rfl,D⟩;have M:=hid (l.out.1.trans (D.mono l.out.1.size));clear D;go_wp2;go_ret2;rw[p.out];exact⟨⟨_,rfl⟩,M.out⟩
      .have p:Hid (r=false):=hid (by
        rw[n.out];simp only;split
        .rename_i e U;exact absurd ⟨e,U⟩ hat
        .rfl)
       have q:=hid (fun W G=>zy4 b (by omega) (fun u hu=>hat ⟨u,hu⟩) W G);clear O hat n z;go_enter func52,ntmps52;go_wp2_with fail;refine(o.out _).mono ?_;rintro _ B ⟨rfl,rfl⟩;go_wp2_with fail;refine(C.out _).mono ?_;rintro _ w2 ⟨rfl,h⟩;have d:=hid (And.intro h (UT.stays _ _ Z.out h));clear h;go_wp2_with fail;refine(A.out _).mono ?_;rintro _ w3 ⟨rfl,j⟩;have i:=hid (And.intro (d.out.1.trans (j.mono d.out.1.size)) (UT.stays _ _ d.out.2 j));clear j;go_wp2_with fail;refine(q.out _ i.out.2).mono ?_;rintro _ w4 ⟨⟨v2,te,pe,rfl⟩,k⟩;have l:=hid (i.out.1.trans (k.mono i.out.1.size));clear k;go_wp2;go_ret2;rw[p.out];exact⟨⟨_,rfl⟩,l.out⟩
     .have p:Hid (r=false):=hid (by
       rw[n.out];split
       .rename_i m O;exact absurd ⟨m,O⟩ hpu
       .rfl)
      have A:=hid (fun W G=>zy2 a (by omega) (fun u hu=>hpu ⟨u,hu⟩) W G);have q:=hid (fun W G=>zqh b (by omega) W G);clear hpu n;go_enter func52,ntmps52;go_wp2_with fail;refine(o.out _).mono ?_;rintro _ B ⟨rfl,rfl⟩;go_wp2_with fail;refine(C.out _).mono ?_;rintro _ w2 ⟨rfl,h⟩;have d:=hid (And.intro h (UT.stays _ _ Z.out h));clear h;go_wp2_with fail;refine(A.out _ d.out.2).mono ?_;rintro _ w3 ⟨⟨v,te,pe,rfl⟩,j⟩;have i:=hid (And.intro (d.out.1.trans (j.mono d.out.1.size)) (UT.stays _ _ d.out.2 j));clear j;go_wp2_with fail;refine(q.out _ i.out.2).mono ?_;rintro _ w4 ⟨⟨v2,ad,rfl⟩,k⟩;have l:=hid (i.out.1.trans (k.mono i.out.1.size));clear k;go_wp2;go_ret2;rw[p.out];exact⟨⟨_,rfl⟩,l.out⟩
theorem zm2 (s:Gr.Str) (hl:s.length<=1073741823) (w:World) (hT:UT w):Calls prog 37 #[.string ⟨s.toArray⟩] w fun e w'=>e=.returned (.bool (fltP s))/\Below w.heap.size w w':=by
 have b:=hid (zm1 s hl w hT);obtain⟨r,c⟩:=ex (fltP s)
 rw[c]at b ⊢;clear c hT;go_enter func37,ntmps37;go_wp2_with fail;refine b.out.mono ?_;rintro _ w1 ⟨⟨g,rfl⟩,a⟩;have d:=hid a;clear a;go_wp2;go_ret;exact⟨rfl,d.out⟩
theorem ztc (text:Gr.Str) (hl:text.length<=1073741823):ScalOk UT 4 text (fltP text):=by
 intro w c;have a:=hid (zm2 text hl w c);obtain⟨r,d⟩:=ex (fltP text)
 rw[d]at a ⊢;clear d c;go_enter func22,ntmps22;go_wp2_with fail;refine a.out.mono ?_;rintro e w2 ⟨rfl,b⟩;have f:=hid b;clear b;go_wp2;go_ret;exact⟨rfl,f.out⟩
end Go.Proofs.YtpjmhafmeieloaaGreatDoor
