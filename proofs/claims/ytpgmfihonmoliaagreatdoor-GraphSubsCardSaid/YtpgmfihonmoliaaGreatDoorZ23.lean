import Derived.Test.YtpgmfihonmoliaaGreatDoorGrDecE
import Derived.Test.YtpgmfihonmoliaaGreatDoorGrInsP3F
import Derived.Test.YtpgmfihonmoliaaGreatDoorZ26
namespace Go.Proofs.YtpgmfihonmoliaaGreatDoor
open Gr
open _root_.Go.Proofs.Tryz
open _root_.Go.Lib (hid)
set_option maxRecDepth 100000
set_option maxHeartbeats 16000000
open Go.RowKit
theorem zmn (m:Nat) (h0:m≠0) (h:m<18446744073709551616):Lib.bitLen m=m.log2+1/\2 ^ m.log2<=m/\m<2 ^ (m.log2+1):=by
 have a:=Nat.log2_self_le h0;have b:m<2 ^ (m.log2+1):=Nat.lt_log2_self;refine⟨?_,a,b⟩;rw[Lib.bitLen_shift m.log2 m a h];have:m /2 ^ m.log2=1:=by
  apply Nat.div_eq_of_lt_le
  .simpa using a
  .rw[Nat.pow_succ]at b;omega
 rw[this];rfl
theorem zvx (m:Nat) (e:Int) (hm:m<18446744073709551616) (h:fitsB m e=true):∃L,Flt.Fits m L e:=by
 unfold fitsB at h;simp only[Bool.and_eq_true,decide_eq_true_eq,beq_iff_eq]at h;obtain⟨⟨⟨⟨b,h2⟩,c⟩,h4⟩,d⟩:=h;obtain⟨a,g,f⟩:=zmn m (by omega) hm;exact⟨m.log2,b,g,f,by omega,c,by rw[a]at d;omega⟩
theorem zs1 (m:Nat) (hm:m<18446744073709551616) (e:Int) (h0:-9223372036854775808<=e) (h1:e<=9223372036854775807) (w:World):Calls prog 84 #[.int .u64 m,.int .i64 e] w fun r w'=>r=.returned (.bool (fitsB m e))/\w=w':=by
 have c:=hid (fun W=>bits_Len64 (m:Int) W (by omega) (by omega));have i:Lib.bitLen m<=64:=Lib.bitLen_le m 64 (by omega) (by omega);have k:((m:Int)).toNat=m:=by omega
 rw[k]at c;obtain⟨b,j⟩:=ex (Lib.bitLen m)
 have d:Hid (fitsB m e=(decide (m%2=1) && decide (b<=53) && decide (-1074<=e) && decide (e<=1023) && decide (e+b<=1024))):=hid (by unfold fitsB;rw[j];rfl);rw[j]at c i;clear j k;obtain⟨r,l⟩:=ex (fitsB m e)
 rw[l]at d ⊢;clear l;by_cases k1:m%2=1
 .have h:(m:Int)%2=1:=by omega
  have g:((m:Int)%2==1)=true:=by simpa using h
  by_cases k2:b<=53
  .have n:(b:Int)<=53:=by omega
   by_cases k3:-1074<=e
   .by_cases k4:e<=1023
    .by_cases k5:e+b<=1024
     .have a:Hid (r=true):=hid (by rw[d.out];simp[k1,k2,k3,k4,k5]);clear k1 k2;go_enter func84,ntmps84;go_wp2_with fail;refine(c.out _).mono ?_;rintro _ f ⟨rfl,rfl⟩;go_wp2;go_ret;rw[a.out];exact⟨by first|rfl|simp[*],rfl⟩
     .have a:Hid (r=false):=hid (by rw[d.out];simp[k5]);clear k1 k2;go_enter func84,ntmps84;go_wp2_with fail;refine(c.out _).mono ?_;rintro _ f ⟨rfl,rfl⟩;go_wp2;go_ret;rw[a.out];exact⟨by first|rfl|simp[*],rfl⟩
    .have a:Hid (r=false):=hid (by rw[d.out];simp[k4]);clear k1 k2;go_enter func84,ntmps84;go_wp2_with fail;refine(c.out _).mono ?_;rintro _ f ⟨rfl,rfl⟩;go_wp2;go_ret;rw[a.out];exact⟨by first|rfl|simp[*],rfl⟩
   .have a:Hid (r=false):=hid (by rw[d.out];simp[k3]);clear k1 k2;go_enter func84,ntmps84;go_wp2_with fail;refine(c.out _).mono ?_;rintro _ f ⟨rfl,rfl⟩;go_wp2;go_ret;rw[a.out];exact⟨by first|rfl|simp[*],rfl⟩
  .have n:¬(b:Int)<=53:=by omega
   have a:Hid (r=false):=hid (by rw[d.out];simp[k2]);clear k1 k2;go_enter func84,ntmps84;go_wp2_with fail;refine(c.out _).mono ?_;rintro _ f ⟨rfl,rfl⟩;go_wp2;go_ret;rw[a.out];exact⟨by first|rfl|simp[*],rfl⟩
 .have h:¬(m:Int)%2=1:=by omega
  have g:((m:Int)%2==1)=false:=by simpa using h
  have a:Hid (r=false):=hid (by rw[d.out];simp[k1]);clear k1;go_enter func84,ntmps84;go_wp2_with fail;refine(c.out _).mono ?_;rintro _ f ⟨rfl,rfl⟩;go_wp2;go_ret;rw[a.out];exact⟨by first|rfl|simp[*],rfl⟩
theorem zs2 (s:Gr.Str) (w:World):(callFunc 133 #[.string ⟨s.toArray⟩,.int .u8 112]).run prog w=.ok (.value (.int .i64 (Lib.indexByte s 112))) w:=by
 rw[run_callFunc_extern func133 (by kernel_rfl) (by kernel_rfl) (by kernel_rfl) (e:=Extern.BytealgIndexByte.indexByte) (by kernel_rfl),Lib.run_indexByteString];rfl
theorem zs3 (s:Gr.Str) (w:World):Calls prog 102 #[.string ⟨s.toArray⟩,.int .u8 112] w fun e w'=>e=.returned (.int .i64 (Lib.indexByte s 112))/\w=w':=by
 have c1:=fun W=>zs2 s W
 go_enter func102,ntmps102;go_wp2;go_ret;exact⟨rfl,rfl⟩
theorem zvy (s:Gr.Str) (w:World):Calls prog 143 #[.string ⟨s.toArray⟩,.string ⟨#[112]⟩] w fun e w'=>e=.returned (.int .i64 (Lib.indexByte s 112))/\w=w':=by
 by_cases hs:[112]=s
 .subst hs;go_enter func143,ntmps143;go_wp2;go_ret;exact⟨rfl,rfl⟩
 .have h1:(([112]:List UInt8)==s)=false:=by rw[beq_eq_false_iff_ne];exact hs
  have h2:(s==([112]:List UInt8))=false:=by rw[beq_eq_false_iff_ne];exact fun e=>hs e.symm
  have a:=hid (fun W=>zs3 s W);obtain⟨i,b⟩:=ex (Lib.indexByte s 112)
  rw[b]at a ⊢;clear b;go_enter func143,ntmps143;go_wp2_with fail;refine(a.out _).mono ?_;rintro _ w1 ⟨rfl,rfl⟩;go_wp2;go_ret;exact⟨rfl,rfl⟩
def cutV (t:Gr.Str):Value:=match t.dropWhile (fun c=>c != 112)with
 | []=>.tuple #[.string ⟨t.toArray⟩,.string ⟨#[]⟩,.bool false]
 |_::b=>.tuple #[.string ⟨(Gr.fA t).toArray⟩,.string ⟨b.toArray⟩,.bool true]
theorem zk3 (t:Gr.Str) {c:UInt8} {b:Gr.Str} (h:t.dropWhile (fun c=>c != 112)=c::b):t=Gr.fA t++c::b:=by
 have:=List.takeWhile_append_dropWhile (p:=fun c:UInt8=>c != 112) (l:=t);rw[h]at this;exact this.symm
theorem zx3 (t:Gr.Str) (hl:t.length<=1073741823) (w:World):Calls prog 110 #[.string ⟨t.toArray⟩,.string ⟨#[112]⟩] w fun e w'=>e=.returned (cutV t)/\Below w.heap.size w w':=by
 have g:=hid (fun W=>zvy t W);have d:=zjx t 112;unfold cutV;cases hd:t.dropWhile (fun c=>c != 112)with
 |nil=>
  rw[if_pos hd]at d;rw[d]at g;clear d hd;go_enter func110,ntmps110;go_wp2_with fail;refine(g.out _).mono ?_;rintro _ i ⟨rfl,rfl⟩;go_wp2_with fail;exact bodyPost_ret (v:=.tuple #[.string ⟨t.toArray⟩,.string ⟨#[]⟩,.bool false]) (by simp[results,go_sem]) rfl ⟨rfl,Below.refl _ _⟩
 |cons c b=>
  rw[if_neg (by rw[hd];exact List.cons_ne_nil _ _)]at d;have f:=zk3 t hd;obtain⟨a,h⟩:=ex (Gr.fA t)
  have d:Lib.indexByte t 112=((Gr.fA t).length:Int):=d;rw[d,h]at g;rw[h]at f;simp only;rw[h];have hla:a.length+1<=t.length:=by rw[f];simp
  have hlaI:(a.length:Int)+1<=(t.length:Int):=by omega
  have e1:(⟨t.toArray⟩:ByteArray).extract 0 a.length=⟨a.toArray⟩:=by rw[zau,f];simp
  have e2:(⟨t.toArray⟩:ByteArray).extract (a.length+1) t.length=⟨b.toArray⟩:=by rw[zau,List.take_of_length_le (by simp),f];simp
  clear d hd h f;have i1:IntKind.i64.wrap ((a.length:Int)+1)=(a.length:Int)+1:=IntWalk.i64_in _ (by omega);have i2:((a.length:Int)+1).toNat=a.length+1:=by omega
  have i3:(0:Int)<=(a.length:Int)+1:=by omega
  go_enter func110,ntmps110;go_wp2_with fail;refine(g.out _).mono ?_;rintro _ i ⟨rfl,rfl⟩;go_wp2_with fail;go_quiet (fail);go_wp2_with fail;exact bodyPost_ret (v:=.tuple #[.string ⟨a.toArray⟩,.string ⟨b.toArray⟩,.bool true]) (by simp[results,go_sem]) rfl ⟨rfl,below_drewN (Below.refl _ _) _⟩
theorem zvz (t:Gr.Str) (hl:t.length<=1073741823) (w:World):Calls prog 82 #[.string ⟨t.toArray⟩,.string ⟨#[112]⟩] w fun e w'=>e=.returned (cutV t)/\Below w.heap.size w w':=by
 have d:=hid (zx3 t hl w);unfold cutV at d ⊢;cases hd:t.dropWhile (fun c=>c != 112)with
 |nil=>
  rw[hd]at d;simp only at d;clear hd;go_enter func82,ntmps82;go_wp2_with fail;refine d.out.mono ?_;rintro _ i ⟨rfl,f⟩;have g:=hid f;clear f;go_wp2_with fail;exact bodyPost_ret (v:=.tuple #[.string ⟨t.toArray⟩,.string ⟨#[]⟩,.bool false]) (by simp[results,go_sem]) rfl ⟨rfl,g.out⟩
 |cons c b=>
  rw[hd]at d;simp only at d ⊢;obtain⟨a,h⟩:=ex (Gr.fA t)
  rw[h]at d ⊢;clear hd h;go_enter func82,ntmps82;go_wp2_with fail;refine d.out.mono ?_;rintro _ i ⟨rfl,f⟩;have g:=hid f;clear f;go_wp2_with fail;exact bodyPost_ret (v:=.tuple #[.string ⟨a.toArray⟩,.string ⟨b.toArray⟩,.bool true]) (by simp[results,go_sem]) rfl ⟨rfl,g.out⟩
def FPost (b:Bool) (w:World) (e:Ending) (w':World):Prop:=(∃g:Nat,e=.returned (.tuple #[.float .f64 g,.bool b]))/\Below w.heap.size w w'
theorem zx4 (a:Gr.Str) (hl:a.length<=1073741823) (w:World) (hT:UT w):Calls prog 83 #[.string ⟨a.toArray⟩,.int .i64 10,.int .i64 64] w fun e w'=>(∃(v:Int) (er:Value),e=.returned (.tuple #[.int .u64 v,er]))/\Below w.heap.size w w':=by
 have hs:(⟨a.toArray⟩:ByteArray).size=a.length:=by simp[ByteArray.size]
 cases h:Lib.parseUintB 64 (⟨a.toArray⟩:ByteArray).data.toList with
 |ok u=>
  refine(strconv_ParseUint_10_at64_ok ⟨a.toArray⟩ (by omega) u h w).mono ?_;rintro e w' ⟨rfl,f⟩;refine⟨⟨_,_,rfl⟩,?_⟩;rcases f with rfl|rfl
  .exact Below.refl _ _
  .exact Lib.bytesWorld_below _ _ _
 |range=>
  obtain⟨d,p,b⟩:=hT.er;refine(strconv_ParseUint_10_at64_range ⟨a.toArray⟩ (by omega) h _ w b (.inr ⟨d,p,rfl⟩)).mono ?_;rintro e w' ⟨N,rfl,_,_,c⟩;exact⟨⟨_,_,rfl⟩,c⟩
 |_=>
  obtain⟨d,p,b⟩:=hT.es;refine(strconv_ParseUint_10_at64_syntax ⟨a.toArray⟩ (by omega) h _ w b (.inr ⟨d,p,rfl⟩)).mono ?_;rintro e w' ⟨N,rfl,_,_,c⟩;exact⟨⟨_,_,rfl⟩,c⟩
theorem zyx (a:Gr.Str) (hl:a.length<=1073741823) (u:Nat) (h:Lib.parseUintB 64 a=.ok u) (w:World):Calls prog 83 #[.string ⟨a.toArray⟩,.int .i64 10,.int .i64 64] w fun e w'=>e=.returned (.tuple #[.int .u64 u,.nilIface])/\Below w.heap.size w w':=by
 have hs:(⟨a.toArray⟩:ByteArray).size=a.length:=by simp[ByteArray.size]
 refine(strconv_ParseUint_10_at64_ok ⟨a.toArray⟩ (by omega) u h w).mono ?_;rintro e w' ⟨rfl,b⟩;refine⟨rfl,?_⟩;rcases b with rfl|rfl
 .exact Below.refl _ _
 .exact Lib.bytesWorld_below _ _ _
theorem zyy (a:Gr.Str) (hl:a.length<=1073741823) (h:∀u,Lib.parseUintB 64 a≠.ok u) (w:World) (hT:UT w):Calls prog 83 #[.string ⟨a.toArray⟩,.int .i64 10,.int .i64 64] w fun e w'=>(∃(v:Int) (te:TypeId) (p:Value),e=.returned (.tuple #[.int .u64 v,.iface te p]))/\Below w.heap.size w w':=by
 have hs:(⟨a.toArray⟩:ByteArray).size=a.length:=by simp[ByteArray.size]
 cases h2:Lib.parseUintB 64 (⟨a.toArray⟩:ByteArray).data.toList with
 |ok u=>exact absurd h2 (h u)
 |range=>
  obtain⟨te,p,b⟩:=hT.er;refine(strconv_ParseUint_10_at64_range ⟨a.toArray⟩ (by omega) h2 _ w b (.inr ⟨te,p,rfl⟩)).mono ?_;rintro e w' ⟨N,rfl,_,_,c⟩;exact⟨⟨_,_,_,rfl⟩,c⟩
 |_=>
  obtain⟨te,p,b⟩:=hT.es;refine(strconv_ParseUint_10_at64_syntax ⟨a.toArray⟩ (by omega) h2 _ w b (.inr ⟨te,p,rfl⟩)).mono ?_;rintro e w' ⟨N,rfl,_,_,c⟩;exact⟨⟨_,_,_,rfl⟩,c⟩
theorem zpy (a:Gr.Str) (hl:a.length<=1073741823) (w:World) (hT:UT w):Calls prog 73 #[.string ⟨a.toArray⟩] w fun e w'=>(∃(v:Int) (er:Value),e=.returned (.tuple #[.int .i64 v,er]))/\Below w.heap.size w w':=by
 have hs:(⟨a.toArray⟩:ByteArray).size=a.length:=by simp[ByteArray.size]
 cases h:Lib.atoiAll (⟨a.toArray⟩:ByteArray).data.toList with
 |ok u=>
  refine(strconv_Atoi_ok ⟨a.toArray⟩ (by omega) u h w).mono ?_;rintro e w' ⟨rfl,f⟩;refine⟨⟨_,_,rfl⟩,?_⟩;rcases f with rfl|⟨t,rfl⟩
  .exact Below.refl _ _
  .exact Lib.bytesWorld_below _ _ _
 |range=>
  obtain⟨c,p,b⟩:=hT.er;refine(strconv_Atoi_range ⟨a.toArray⟩ (by omega) h _ w b (.inr ⟨c,p,rfl⟩)).mono ?_;rintro e w' ⟨N,rfl,_,_,d⟩;exact⟨⟨_,_,rfl⟩,d⟩
 |_=>
  obtain⟨c,p,b⟩:=hT.es;refine(strconv_Atoi_syntax ⟨a.toArray⟩ (by omega) h _ w b (.inr ⟨c,p,rfl⟩)).mono ?_;rintro e w' ⟨N,rfl,_,_,d⟩;exact⟨⟨_,_,rfl⟩,d⟩
theorem zyz (a:Gr.Str) (hl:a.length<=1073741823) (u:Int) (h:Lib.atoiAll a=.ok u) (w:World):Calls prog 73 #[.string ⟨a.toArray⟩] w fun e w'=>e=.returned (.tuple #[.int .i64 u,.nilIface])/\Below w.heap.size w w':=by
 have hs:(⟨a.toArray⟩:ByteArray).size=a.length:=by simp[ByteArray.size]
 refine(strconv_Atoi_ok ⟨a.toArray⟩ (by omega) u h w).mono ?_;rintro e w' ⟨rfl,b⟩;refine⟨rfl,?_⟩;rcases b with rfl|⟨t,rfl⟩
 .exact Below.refl _ _
 .exact Lib.bytesWorld_below _ _ _
theorem zy0 (a:Gr.Str) (hl:a.length<=1073741823) (h:∀u,Lib.atoiAll a≠.ok u) (w:World) (hT:UT w):Calls prog 73 #[.string ⟨a.toArray⟩] w fun e w'=>(∃(v:Int) (te:TypeId) (p:Value),e=.returned (.tuple #[.int .i64 v,.iface te p]))/\Below w.heap.size w w':=by
 have hs:(⟨a.toArray⟩:ByteArray).size=a.length:=by simp[ByteArray.size]
 cases h2:Lib.atoiAll (⟨a.toArray⟩:ByteArray).data.toList with
 |ok u=>exact absurd h2 (h u)
 |range=>
  obtain⟨te,p,b⟩:=hT.er;refine(strconv_Atoi_range ⟨a.toArray⟩ (by omega) h2 _ w b (.inr ⟨te,p,rfl⟩)).mono ?_;rintro e w' ⟨N,rfl,_,_,c⟩;exact⟨⟨_,_,_,rfl⟩,c⟩
 |_=>
  obtain⟨te,p,b⟩:=hT.es;refine(strconv_Atoi_syntax ⟨a.toArray⟩ (by omega) h2 _ w b (.inr ⟨te,p,rfl⟩)).mono ?_;rintro e w' ⟨N,rfl,_,_,c⟩;exact⟨⟨_,_,_,rfl⟩,c⟩
theorem zs4 {l:List UInt8} {v:Int} (h:Lib.atoiAll l=.ok v):-9223372036854775808<=v/\v<=9223372036854775807:=Lib.atoiAll_bounds h
theorem zx5 {l:List UInt8} {v:Nat} (h:Lib.parseUintB 64 l=.ok v):v<18446744073709551616:=by
 have:=Lib.parseUintB_le h;omega
theorem zpz (f g:Nat) (w:World):Calls prog 87 #[.float .f64 f,.float .f64 g] w fun e w'=>(∃x:Nat,e=.returned (.float .f64 x))/\w=w':=by
 have c1:=fun(n:Nat) W=>zck n W
 have c2:=fun(n:Int) W=>za0 n W
 go_enter func87,ntmps87;go_wp2;go_ret;exact⟨⟨_,rfl⟩,rfl⟩
theorem zv0 (w:World):Calls prog 80 #[] w fun e w'=>(∃x:Nat,e=.returned (.float .f64 x))/\w=w':=by
 have c2:=fun W=>za0 9221120237041090561 W
 go_enter func80,ntmps80;go_wp2;go_ret;exact⟨⟨_,rfl⟩,rfl⟩
theorem zv1 (w:World):Calls prog 81 #[.int .i64 1] w fun e w'=>(∃x:Nat,e=.returned (.float .f64 x))/\w=w':=by
 have c2:=fun(n:Int) W=>za0 n W
 go_enter func81,ntmps81;go_wp2;go_ret;exact⟨⟨_,rfl⟩,rfl⟩
theorem zp0 (m L:Nat) (e:Int) (h:Flt.Fits m L e) (f:Nat) (hf:Flt.fw m L 0=f) (w:World):Calls prog 85 #[.float .f64 f,.int .i64 e] w fun r w'=>r=.returned (.float .f64 (Flt.fw m L e))/\w=w':=by
 have a:=hid (fun W=>zpc m L e h f hf W);clear h hf;go_enter func85,ntmps85;go_wp2_with fail;refine(a.out _).mono ?_;rintro _ w1 ⟨rfl,rfl⟩;go_wp2;go_ret;exact⟨rfl,rfl⟩
theorem zis {w:World} {g:Nat} {t:TypeId} {cs:Array Value} (h:w.heap.size=g):Blk (w.alloc (.cells cs t)) g t cs:=by subst h;exact Blk.new _ _ _
theorem zlb (s:Gr.Str) (hl:s.length<=1073741823) (w:World):Calls prog 58 #[.string ⟨s.toArray⟩] w (RPost (rdT s) w):=by
 go_enter func58,ntmps58;go_upto_region 4 with fail;obtain⟨c,b⟩:=ex (((((w.alloc (.cells #[.string ⟨s.toArray⟩] 9)).alloc (.cells #[.int .i64 0,.int .i64 0,.int .i64 0,.int .i64 0,.int .i64 0,.int .i64 0,.int .i64 0,.int .i64 0,.int .i64 0,.int .i64 0,.int .u8 0] 96)).alloc (.cells #[.int .i64 0,.int .i64 0,.int .i64 0,.int .i64 0,.int .i64 0,.int .i64 0,.int .i64 0,.int .i64 0,.int .i64 0,.int .i64 0,.int .u8 0] 96)).alloc (.cells #[.int .i64 0] 3)).alloc (.cells #[.func (.func 89) #[] #[.pointer (some ⟨w.heap.size+1+1+1,0,none⟩),.pointer (some ⟨w.heap.size,0,none⟩)]] 133))
 have i:Blk c (w.heap.size) 9 #[.string ⟨s.toArray⟩]:=by rw[<-b];exact((((zis (by simp)).alloc _).alloc _).alloc _).alloc _
 have d:Blk c (w.heap.size+1) 96 #[.int .i64 0,.int .i64 0,.int .i64 0,.int .i64 0,.int .i64 0,.int .i64 0,.int .i64 0,.int .i64 0,.int .i64 0,.int .i64 0,.int .u8 0]:=by rw[<-b];exact(((zis (by simp)).alloc _).alloc _).alloc _
 have h:Blk c (w.heap.size+1+1) 96 #[.int .i64 0,.int .i64 0,.int .i64 0,.int .i64 0,.int .i64 0,.int .i64 0,.int .i64 0,.int .i64 0,.int .i64 0,.int .i64 0,.int .u8 0]:=by rw[<-b];exact((zis (by simp)).alloc _).alloc _
 have f:Blk c (w.heap.size+1+1+1) 3 #[.int .i64 0]:=by rw[<-b];exact(zis (by simp)).alloc _
 have g:Blk c (w.heap.size+1+1+1+1) 133 #[.func (.func 89) #[] #[.pointer (some ⟨w.heap.size+1+1+1,0,none⟩),.pointer (some ⟨w.heap.size,0,none⟩)]]:=by rw[<-b];exact zis (by simp)
 have e:Below w.heap.size w c:=by rw[<-b];exact(((((Below.refl _ _).alloc (Nat.le_refl _) _).alloc (by simp) _).alloc (by simp;omega) _).alloc (by simp;omega) _).alloc (by simp;omega) _
 have k:Hid (RMem s w (w.heap.size) (w.heap.size+1) (w.heap.size+1+1) (w.heap.size+1+1+1) (w.heap.size+1+1+1+1) 0 (fun _=>0) 0 0 0 c):=Lib.hid ⟨e,by omega,by omega,by omega,by omega,i,d,h,f,g⟩;(try rw[b]);clear b i d h f g e;go_cut [7] (fun s7 j=>s7=.func (.func 90) #[] #[.pointer (some ⟨w.heap.size+1+1+1,0,none⟩),.pointer (some ⟨w.heap.size,0,none⟩),.pointer (some ⟨w.heap.size+1+1+1+1,0,none⟩)]/\j=c)
 case first=>
  go_wp2;go_meet;exact⟨rfl,rfl⟩
 case rest=>
 obtain⟨rfl,rfl⟩:=hcut;refine(‹∀(a:Act) (w_1:World),Code.wp prog _ _ a w_1->_›) _ _ ?_;exact zwa s hl w _ _ _ _ _ _ (rdT s) k (Lib.hid rfl)
noncomputable def osP (n:Int) (nanos:Nat):Gr.Str×Nat:=if n< -62167219200\/253402300800<=n then([],13)else(momS (n /86400) (n%86400).toNat nanos,0)
def zdd (r:Gr.Str×Nat) (w:World) (e:Ending) (w':World):Prop:=e=.returned (.tuple #[.string ⟨r.1.toArray⟩,.int .i64 (r.2:Nat)])/\Below w.heap.size w w'
theorem ztf {n:Int} {y m d:Int} (hv:Cal.vld y m d=true) (hn:Cal.num y m d=n):∃a b c:Nat,y=a/\m=b/\d=c/\a<=9999/\b<=99/\c<=99/\dateOf n=(a,b,c):=by
 have h:=Cal.zpm hv;have hd:=Cal.zxy y m;refine⟨y.toNat,m.toNat,d.toNat,by omega,by omega,by omega,by omega,by omega,by omega,?_⟩;apply zii
 .rw[show((y.toNat:Nat):Int)=y from by omega,show((m.toNat:Nat):Int)=m from by omega,show((d.toNat:Nat):Int)=d from by omega];exact hv
 .rw[show((y.toNat:Nat):Int)=y from by omega,show((m.toNat:Nat):Int)=m from by omega,show((d.toNat:Nat):Int)=d from by omega,hn]
theorem zy2 (n:Int):-86400<n.tmod 86400/\n.tmod 86400<86400/\n=86400*n.tdiv 86400+n.tmod 86400:=by
 have h1:=Int.mul_tdiv_add_tmod n 86400;have h2:=Int.tmod_lt_of_pos n (b:=86400) (by omega);have a:=Int.tmod_lt_of_pos (-n) (b:=86400) (by omega);rw[Int.neg_tmod]at a;omega
theorem zhb (n:Int) (nanos:Nat) (j:Int) (hj:j=(nanos:Int)) (hna:nanos<=999999999) (h0:-900000000000<=n) (h1:n<=900000000000) (w:World) (hT:UT w):
 Calls prog 60 #[.int .i64 n,.int .i64 j] w (zdd (osP n nanos) w):=by
 subst hj;have Y:=hid hT;clear hT;have hna0:¬(nanos:Int)<0:=by omega
 have hna1:¬(999999999:Int)<(nanos:Int):=by omega
 by_cases hlo:n< -62167219200
 .have u:Hid (osP n nanos=([],13)):=hid (by unfold osP;rw[if_pos (.inl hlo)]);rw[u.out];go_enter func60,ntmps60;go_wp2;go_ret2;exact⟨rfl,Below.refl _ _⟩
 .by_cases hhi:253402300800<=n
  .have u:Hid (osP n nanos=([],13)):=hid (by unfold osP;rw[if_pos (.inr hhi)]);rw[u.out];go_enter func60,ntmps60;go_wp2;go_ret2;exact⟨rfl,Below.refl _ _⟩
  .obtain⟨D,H⟩:=ex (n /86400)
   obtain⟨R,U⟩:∃R:Nat,(n%86400).toNat=R:=⟨_,rfl⟩
   have L:-719528<=D:=by omega
   have K:D<=2932896:=by omega
   have hR1:R<=86399:=by omega
   have E:Hid (n /86400=D/\n%86400=(R:Int)):=hid ⟨H,by omega⟩;obtain⟨M,I⟩:=ex (momS D R nanos)
   have HM:=hid I;have u:Hid (osP n nanos=(M,0)):=hid (by unfold osP;rw[if_neg (by omega),H,U,I]);rw[u.out];have O:=hid (fun W=>zte D L K W);clear H U I;go_enter func60,ntmps60;go_upto_region 5 with fail;go_cut [6,7] (fun s6 s7 N=>(∃q t:Int,s6=.int .i64 q/\s7=.int .i64 t/\Hid (n=86400*q+t/\-86400<t/\t<86400))/\N=w)
   case first=>
    by_cases hn0:0<=n
    .go_wp2;go_meet;exact⟨⟨_,_,rfl,rfl,hid ⟨by omega,by omega,by omega⟩⟩,rfl⟩
    .have F:=hid (zy2 n);go_wp2;go_meet;exact⟨⟨_,_,rfl,rfl,hid ⟨F.out.2.2,F.out.1,F.out.2.1⟩⟩,rfl⟩
   case rest=>
   obtain⟨⟨q,t,rfl,rfl,f⟩,rfl⟩:=hcut;refine(‹∀(a:Act) (w_1:World),Code.wp prog _ _ a w_1->_›) _ _ ?_;have Z:-86400<t:=f.out.2.1;have t1:t<86400:=f.out.2.2;have V:-11000000<=q:=by have:=f.out;omega
   have X:q<=11000000:=by have:=f.out;omega
   go_upto_if 30 with fail;go_cut [6,7] (fun s6 s7 N=>s6=.int .i64 D/\s7=.int .i64 (R:Int)/\N=wc)
   case first=>
    by_cases ht:t<0
    .have z:Hid (q-1=D/\t+86400=(R:Int)):=hid (by have h1:=f.out;have T:=E.out;omega);go_wp2;go_meet;rw[z.out.1,z.out.2];exact⟨rfl,rfl,rfl⟩
    .have z:Hid (q=D/\t=(R:Int)):=hid (by have h1:=f.out;have T:=E.out;omega);go_wp2;go_meet;rw[z.out.1,z.out.2];exact⟨rfl,rfl,rfl⟩
   case rest=>
   obtain⟨rfl,rfl,rfl⟩:=hcut;refine(‹∀(a:Act) (w_1:World),Code.wp prog _ _ a w_1->_›) _ _ ?_;clear Z t1 V X;go_wp2_with fail;refine(O.out _).mono ?_;rintro e P ⟨y,m,d,rfl,Q,i,p⟩;obtain⟨a,b,c,rfl,rfl,rfl,ha,F,hc,A⟩:=ztf Q i;obtain⟨o,v⟩:∃o:Nat,R /3600=o:=⟨_,rfl⟩
   obtain⟨k,x⟩:∃k:Nat,R /60%60=k:=⟨_,rfl⟩
   obtain⟨h,B⟩:∃h:Nat,R%60=h:=⟨_,rfl⟩
   have i1:(R:Int) /3600=(o:Int):=by omega
   have i2:(R:Int) /60%60=(k:Int):=by omega
   have i3:(R:Int)%60=(h:Int):=by omega
   have r:Hid (∀W,UT W->Calls prog 93 #[.agg #[.int .i64 3,.int .i64 (a:Int),.int .i64 (b:Int),.int .i64 (c:Int),.int .i64 (o:Int),.int .i64 (k:Int),.int .i64 (h:Int),.int .i64 0,.int .i64 0,.int .i64 (nanos:Int),.int .u8 0]] W fun e w'=>e=.returned (.string ⟨(dateS a b c++[84]++clkS o k h nanos).toArray⟩)/\Below W.heap.size W w'):=hid (fun W hW=>zqd a b c o k h nanos 0 0 0 ha F hc (by omega) (by omega) (by omega) hna W hW);have s:Hid (M=(dateS a b c++[84]++clkS o k h nanos)++[90]):=hid (by rw[<-HM.out];unfold momS;rw[A,v,x,B];simp);obtain⟨S,G⟩:=ex (dateS a b c++[84]++clkS o k h nanos)
   have hSl:S.length<=1000:=by
    rw[<-G];have T:(nanoS nanos).length<=10:=by
     unfold nanoS;split
     .simp
     .unfold trimZ;rw[List.length_cons,List.length_reverse];have:=(List.dropWhile_sublist (fun c:UInt8=>c==48) (l:=(Gr.pd 9 nanos).reverse)).length_le;rw[List.length_reverse,za6]at this;omega
    simp[dateS,clkS,za6];omega
   rw[G]at r s;have g:Hid (Below wc.heap.size wc P/\UT P):=hid ⟨p,UT.stays _ _ Y.out p⟩;have hadd:=fun W=>zad S [90] (by simp;omega) W
   clear Q i A v x B G p;go_wp2_with fail;refine(r.out _ (UT.stays _ _ g.out.2 ((Below.refl _ _).alloc (Nat.le_refl _) _))).mono ?_;rintro e w2 ⟨rfl,C⟩;have J:Hid (Below wc.heap.size wc w2):=hid ((g.out.1.alloc g.out.1.size _).trans (C.mono (by have:=g.out.1.size;simp;omega)));clear C;go_wp2;go_ret2;unfold zdd;rw[s.out];exact⟨rfl,J.out⟩
def zdq (b:Bool) (w:World) (e:Ending) (w':World):Prop:=∃t:RT,e=.returned (.tuple #[t.v,.bool b])/\Below w.heap.size w w'
theorem zmz (s:Gr.Str) (hl:s.length<=1073741823) (w:World):
 Calls prog 100 #[.string ⟨s.toArray⟩] w (zdq (insB s) w):=by
 have S:=hid (fun W=>zec s hl W);have Z:=hid (fun W=>zdc s hl W);have R:Hid (insB s=decide ((insP s).2=0/\(insP s).1=s)):=hid rfl;obtain⟨r,hr⟩:=ex (insB s)
 rw[hr]at R ⊢;obtain⟨⟨l,k⟩,hp⟩:∃p,insP s=p:=⟨_,rfl⟩
 rw[hp]at S R;obtain⟨y,E⟩:∃y:Int,(k:Int)=y:=⟨_,rfl⟩
 unfold RIPost at S;simp only[E]at S R;have HK:=hid E;clear hr hp E;have hc:y≠0\/(y=0/\l≠s)\/(y=0/\l=s):=by
  by_cases h0:y=0
  .by_cases hs:l=s
   .exact .inr (.inr ⟨h0,hs⟩)
   .exact .inr (.inl ⟨h0,hs⟩)
  .exact .inl h0
 rcases hc with h0|⟨rfl,hs⟩|⟨rfl,hs⟩
 .have aa:(y==0)=false:=by simpa using h0
  have h0c:(y != 0)=true:=by rw[bne,aa];rfl
  have T:Hid (r=false):=hid (by rw[R.out];simp;intro e;exact absurd (by have:=HK.out;omega) h0);go_enter func100,ntmps100;go_upto_region 1 with fail;obtain⟨a,d⟩:=ex w.heap.size
  obtain⟨n,g⟩:∃n,n=w.alloc (.cells #[.bool false,.bool false,.bool false,.int .i64 0,.int .i64 0,.int .i64 0,.int .i64 0,.int .i64 0,.int .i64 0,.int .i64 0,.int .i64 0,.bool false] 147):=⟨_,rfl⟩
  have c:Hid (Blk n a 147 (T12 false false false 0 0 0 0 0 0 0 0 false)/\Below a w n):=hid (by rw[g,<-d];exact⟨Blk.new _ _ _,(Below.refl _ _).alloc (Nat.le_refl _) _⟩);have o:=hid d;(try rw[<-g]);(try rw[d]);clear g d;go_wp2_with fail;refine(S.out _).mono ?_;rintro e h ⟨rfl,f⟩;have b:Hid (Blk h a 147 (T12 false false false 0 0 0 0 0 0 0 0 false)/\Below a w h):=hid ⟨c.out.1.below f c.out.1.lt,c.out.2.trans (f.mono (Nat.le_of_lt c.out.1.lt))⟩;clear f;have xb:∀j,h.cell? ⟨a,j,none⟩=(#[.bool false,.bool false,.bool false,.int .i64 0,.int .i64 0,.int .i64 0,.int .i64 0,.int .i64 0,.int .i64 0,.int .i64 0,.int .i64 0,.bool false]:Array Value)[j]? :=fun j=>b.out.1.cell j
  have xf:∀j,h.frozen? ⟨a,j,none⟩=false:=b.out.1.frozen;go_wp2_with fail;have q:Blk ((((((((((((h.setCell ⟨a,0,none⟩ (.bool false)).setCell ⟨a,1,none⟩ (.bool false)).setCell ⟨a,2,none⟩ (.bool false)).setCell ⟨a,3,none⟩ (.int .i64 0)).setCell ⟨a,4,none⟩ (.int .i64 0)).setCell ⟨a,5,none⟩ (.int .i64 0)).setCell ⟨a,6,none⟩ (.int .i64 0)).setCell ⟨a,7,none⟩ (.int .i64 0)).setCell ⟨a,8,none⟩ (.int .i64 0)).setCell ⟨a,9,none⟩ (.int .i64 0)).setCell ⟨a,10,none⟩ (.int .i64 0)).setCell ⟨a,11,none⟩ (.bool false)) a 147 (T12 false false false 0 0 0 0 0 0 0 0 false):=zbc b.out.1;have t:Below a w ((((((((((((h.setCell ⟨a,0,none⟩ (.bool false)).setCell ⟨a,1,none⟩ (.bool false)).setCell ⟨a,2,none⟩ (.bool false)).setCell ⟨a,3,none⟩ (.int .i64 0)).setCell ⟨a,4,none⟩ (.int .i64 0)).setCell ⟨a,5,none⟩ (.int .i64 0)).setCell ⟨a,6,none⟩ (.int .i64 0)).setCell ⟨a,7,none⟩ (.int .i64 0)).setCell ⟨a,8,none⟩ (.int .i64 0)).setCell ⟨a,9,none⟩ (.int .i64 0)).setCell ⟨a,10,none⟩ (.int .i64 0)).setCell ⟨a,11,none⟩ (.bool false)):=zcc b.out.2 (Nat.le_refl a);obtain⟨e0,e1,e2,e3,e4,e5,e6,e7,e8,e9,V,U⟩:=zah q;refine bodyPost_ret (v:=.tuple #[.agg #[.bool false,.bool false,.bool false,.int .i64 0,.int .i64 0,.int .i64 0,.int .i64 0,.int .i64 0,.int .i64 0,.int .i64 0,.int .i64 0,.bool false],.bool false]) (by rw[results_cell_tmp rfl];go_simp) rfl ?_;unfold zdq;rw[o.out,T.out];exact⟨RT.z,rfl,t⟩
 .have F:(l==s)=false:=by rw[beq_eq_false_iff_ne];exact hs
  have Y:(l != s)=true:=by rw[bne,F];rfl
  have T:Hid (r=false):=hid (by rw[R.out];simp[hs]);clear hs;go_enter func100,ntmps100;go_upto_region 1 with fail;obtain⟨a,d⟩:=ex w.heap.size
  obtain⟨n,g⟩:∃n,n=w.alloc (.cells #[.bool false,.bool false,.bool false,.int .i64 0,.int .i64 0,.int .i64 0,.int .i64 0,.int .i64 0,.int .i64 0,.int .i64 0,.int .i64 0,.bool false] 147):=⟨_,rfl⟩
  have c:Hid (Blk n a 147 (T12 false false false 0 0 0 0 0 0 0 0 false)/\Below a w n):=hid (by rw[g,<-d];exact⟨Blk.new _ _ _,(Below.refl _ _).alloc (Nat.le_refl _) _⟩);have o:=hid d;(try rw[<-g]);(try rw[d]);clear g d;go_wp2_with fail;refine(S.out _).mono ?_;rintro e h ⟨rfl,f⟩;have b:Hid (Blk h a 147 (T12 false false false 0 0 0 0 0 0 0 0 false)/\Below a w h):=hid ⟨c.out.1.below f c.out.1.lt,c.out.2.trans (f.mono (Nat.le_of_lt c.out.1.lt))⟩;clear f;have xb:∀j,h.cell? ⟨a,j,none⟩=(#[.bool false,.bool false,.bool false,.int .i64 0,.int .i64 0,.int .i64 0,.int .i64 0,.int .i64 0,.int .i64 0,.int .i64 0,.int .i64 0,.bool false]:Array Value)[j]? :=fun j=>b.out.1.cell j
  have xf:∀j,h.frozen? ⟨a,j,none⟩=false:=b.out.1.frozen;go_wp2_with fail;have q:Blk ((((((((((((h.setCell ⟨a,0,none⟩ (.bool false)).setCell ⟨a,1,none⟩ (.bool false)).setCell ⟨a,2,none⟩ (.bool false)).setCell ⟨a,3,none⟩ (.int .i64 0)).setCell ⟨a,4,none⟩ (.int .i64 0)).setCell ⟨a,5,none⟩ (.int .i64 0)).setCell ⟨a,6,none⟩ (.int .i64 0)).setCell ⟨a,7,none⟩ (.int .i64 0)).setCell ⟨a,8,none⟩ (.int .i64 0)).setCell ⟨a,9,none⟩ (.int .i64 0)).setCell ⟨a,10,none⟩ (.int .i64 0)).setCell ⟨a,11,none⟩ (.bool false)) a 147 (T12 false false false 0 0 0 0 0 0 0 0 false):=zbc b.out.1;have t:Below a w ((((((((((((h.setCell ⟨a,0,none⟩ (.bool false)).setCell ⟨a,1,none⟩ (.bool false)).setCell ⟨a,2,none⟩ (.bool false)).setCell ⟨a,3,none⟩ (.int .i64 0)).setCell ⟨a,4,none⟩ (.int .i64 0)).setCell ⟨a,5,none⟩ (.int .i64 0)).setCell ⟨a,6,none⟩ (.int .i64 0)).setCell ⟨a,7,none⟩ (.int .i64 0)).setCell ⟨a,8,none⟩ (.int .i64 0)).setCell ⟨a,9,none⟩ (.int .i64 0)).setCell ⟨a,10,none⟩ (.int .i64 0)).setCell ⟨a,11,none⟩ (.bool false)):=zcc b.out.2 (Nat.le_refl a);obtain⟨e0,e1,e2,e3,e4,e5,e6,e7,e8,e9,V,U⟩:=zah q;refine bodyPost_ret (v:=.tuple #[.agg #[.bool false,.bool false,.bool false,.int .i64 0,.int .i64 0,.int .i64 0,.int .i64 0,.int .i64 0,.int .i64 0,.int .i64 0,.int .i64 0,.bool false],.bool false]) (by rw[results_cell_tmp rfl];go_simp) rfl ?_;unfold zdq;rw[o.out,T.out];exact⟨RT.z,rfl,t⟩
 .have F:(l==s)=true:=by rw[beq_iff_eq];exact hs
  have Y:(l != s)=false:=by rw[bne,F];rfl
  have T:Hid (r=true):=hid (by rw[R.out];simp[hs];have:=HK.out;omega);clear hs;go_enter func100,ntmps100;go_upto_region 1 with fail;obtain⟨a,d⟩:=ex w.heap.size
  obtain⟨n,g⟩:∃n,n=w.alloc (.cells #[.bool false,.bool false,.bool false,.int .i64 0,.int .i64 0,.int .i64 0,.int .i64 0,.int .i64 0,.int .i64 0,.int .i64 0,.int .i64 0,.bool false] 147):=⟨_,rfl⟩
  have c:Hid (Blk n a 147 (T12 false false false 0 0 0 0 0 0 0 0 false)/\Below a w n):=hid (by rw[g,<-d];exact⟨Blk.new _ _ _,(Below.refl _ _).alloc (Nat.le_refl _) _⟩);have o:=hid d;(try rw[<-g]);(try rw[d]);clear g d;go_wp2_with fail;refine(S.out _).mono ?_;rintro e h ⟨rfl,f⟩;have b:Hid (Blk h a 147 (T12 false false false 0 0 0 0 0 0 0 0 false)/\Below a w h):=hid ⟨c.out.1.below f c.out.1.lt,c.out.2.trans (f.mono (Nat.le_of_lt c.out.1.lt))⟩;clear f;go_wp2_with fail;refine(Z.out _).mono ?_;rintro e X ⟨⟨A,O,D,I,Q,J,P,K,M,C,m,i⟩,ok,rfl,L,_⟩;have B:Hid (Blk X a 147 (T12 false false false 0 0 0 0 0 0 0 0 false)/\Below a w X):=hid ⟨b.out.1.below L b.out.1.lt,b.out.2.trans (L.mono (Nat.le_of_lt b.out.1.lt))⟩;clear L;simp only[RT.v];go_upto_region 5 with fail;obtain⟨g6,N⟩:=ex X.heap.size
  obtain⟨x,H⟩:=ex (X.alloc (.cells #[.bool A,.bool O,.bool D,.int .i64 I,.int .i64 Q,.int .i64 J,.int .i64 P,.int .i64 K,.int .i64 M,.int .i64 C,.int .i64 m,.bool i] 147))
  have G:Hid (Blk x a 147 (T12 false false false 0 0 0 0 0 0 0 0 false)/\Below a w x/\Blk x g6 147 (T12 A O D I Q J P K M C m i)):=hid (by rw[<-H,<-N];exact⟨B.out.1.alloc _,B.out.2.alloc (Nat.le_of_lt B.out.1.lt) _,Blk.new _ _ _⟩);(try rw[H]);(try rw[N]);clear H N;obtain⟨q0,q1,q2,q3,q4,q5,q6,q7,q8,q9,q10,q11⟩:=zah G.out.2.2;have u:Hid (Blk x a 147 (T12 false false false 0 0 0 0 0 0 0 0 false)/\Below a w x):=hid ⟨G.out.1,G.out.2.1⟩;have xb:∀j,x.cell? ⟨a,j,none⟩=(#[.bool false,.bool false,.bool false,.int .i64 0,.int .i64 0,.int .i64 0,.int .i64 0,.int .i64 0,.int .i64 0,.int .i64 0,.int .i64 0,.bool false]:Array Value)[j]? :=fun j=>u.out.1.cell j
  have xf:∀j,x.frozen? ⟨a,j,none⟩=false:=u.out.1.frozen;go_wp2_with fail;have q:Blk ((((((((((((x.setCell ⟨a,0,none⟩ (.bool A)).setCell ⟨a,1,none⟩ (.bool O)).setCell ⟨a,2,none⟩ (.bool D)).setCell ⟨a,3,none⟩ (.int .i64 I)).setCell ⟨a,4,none⟩ (.int .i64 Q)).setCell ⟨a,5,none⟩ (.int .i64 J)).setCell ⟨a,6,none⟩ (.int .i64 P)).setCell ⟨a,7,none⟩ (.int .i64 K)).setCell ⟨a,8,none⟩ (.int .i64 M)).setCell ⟨a,9,none⟩ (.int .i64 C)).setCell ⟨a,10,none⟩ (.int .i64 m)).setCell ⟨a,11,none⟩ (.bool i)) a 147 (T12 A O D I Q J P K M C m i):=zbc u.out.1;have t:Below a w ((((((((((((x.setCell ⟨a,0,none⟩ (.bool A)).setCell ⟨a,1,none⟩ (.bool O)).setCell ⟨a,2,none⟩ (.bool D)).setCell ⟨a,3,none⟩ (.int .i64 I)).setCell ⟨a,4,none⟩ (.int .i64 Q)).setCell ⟨a,5,none⟩ (.int .i64 J)).setCell ⟨a,6,none⟩ (.int .i64 P)).setCell ⟨a,7,none⟩ (.int .i64 K)).setCell ⟨a,8,none⟩ (.int .i64 M)).setCell ⟨a,9,none⟩ (.int .i64 C)).setCell ⟨a,10,none⟩ (.int .i64 m)).setCell ⟨a,11,none⟩ (.bool i)):=zcc u.out.2 (Nat.le_refl a);obtain⟨e0,e1,e2,e3,e4,e5,e6,e7,e8,e9,V,U⟩:=zah q;refine bodyPost_ret (v:=.tuple #[.agg #[.bool A,.bool O,.bool D,.int .i64 I,.int .i64 Q,.int .i64 J,.int .i64 P,.int .i64 K,.int .i64 M,.int .i64 C,.int .i64 m,.bool i],.bool true]) (by rw[results_cell_tmp rfl];go_simp) rfl ?_;unfold zdq;rw[o.out,T.out];exact⟨⟨A,O,D,I,Q,J,P,K,M,C,m,i⟩,rfl,t⟩
theorem ziv (s:Gr.Str) (hl:s.length<=1073741823) (w:World):
 Calls prog 69 #[.string ⟨s.toArray⟩] w fun e w'=>e=.returned (.bool (insB s))/\Below w.heap.size w w':=by
 have c:=hid (zmz s hl w);obtain⟨r,d⟩:=ex (insB s)
 rw[d]at c ⊢;clear d;go_enter func69,ntmps69;go_wp2_with fail;refine c.out.mono ?_;rintro e w1 ⟨⟨t0,t1,t2,t3,t4,t5,t6,t7,t8,t9,t10,t11⟩,rfl,b⟩;have a:=hid b;clear b;simp only[RT.v];go_wp2;go_ret;exact⟨rfl,a.out.alloc a.out.size _⟩
end Go.Proofs.YtpgmfihonmoliaaGreatDoor
