import Derived.Test.YtoigpackhninoaaGreatDoorZ15
import Derived.Test.YtoigpackhninoaaGreatDoorZ06
namespace Go.Proofs.YtoigpackhninoaaGreatDoor
open _root_.Go.Proofs.Tryz
set_option maxRecDepth 100000
set_option maxHeartbeats 16000000
open Go.RowKit
theorem zdj (n:Gr.Str) (hl:n.length<=1073741823) (w:World):
 Calls prog 69 #[.string ⟨n.toArray⟩] w fun e w'=>e=.returned (.bool (Gr.intB n))/\Below w.heap.size w w':=by
 have HC:=Lib.hid (fun W=>zhs n hl W);obtain⟨r,hr⟩:=ex (Gr.intB n)
 rw[hr]at HC ⊢;clear hr;go_enter func69,ntmps69;go_wp2_with fail;refine(HC.out _).mono ?_;rintro e w2 ⟨b,A,m,c,rfl,hb⟩;have HB:=Lib.hid hb;clear hb;go_wp2;go_ret;exact⟨rfl,HB.out.alloc HB.out.size _⟩
open Gr
open _root_.Go.Lib (hid)
theorem zl8 (x:Gr.Dn) (A:Option Addr) (c:Nat) (hl:x.d.length<=1073741823) (w:World):
 Calls prog 112 #[.agg #[.bool x.neg,.slice A x.d.length c,.int .i64 x.e]] w fun e w'=>e=.returned (.int .i64 (lim x:Nat))/\Below w.heap.size w w':=by
 obtain⟨neg,d,e⟩:=x;simp only at hl ⊢;have hb:Below w.heap.size w (w.alloc (.cells #[.bool neg,.slice A d.length c,.int .i64 e] 125)):=(Below.refl _ _).alloc (Nat.le_refl _) _;have HB:=hid hb;clear hb;by_cases h1:400<d.length
 ·have hF:Hid (lim ⟨neg,d,e⟩=6):=hid (by unfold lim;rw[if_pos h1]);have h1I:(400:Int)<(d.length:Int):=by omega
  go_enter func112,ntmps112;go_wp2;go_ret;rw[hF.out];exact⟨rfl,HB.out⟩
 ·have h1I:¬(400:Int)<(d.length:Int):=by omega
  by_cases h2:e< -2000
  ·have hF:Hid (lim ⟨neg,d,e⟩=2):=hid (by unfold lim;rw[if_neg h1,if_pos (.inl h2)]);go_enter func112,ntmps112;go_wp2;go_ret;rw[hF.out];exact⟨rfl,HB.out⟩
  ·by_cases h3:2000<e
   ·have hF:Hid (lim ⟨neg,d,e⟩=2):=hid (by unfold lim;rw[if_neg h1,if_pos (.inr h3)]);go_enter func112,ntmps112;go_wp2;go_ret;rw[hF.out];exact⟨rfl,HB.out⟩
   ·have hF:Hid (lim ⟨neg,d,e⟩=0):=hid (by unfold lim;rw[if_neg h1,if_neg (fun h=>h.elim h2 h3)]);go_enter func112,ntmps112;go_wp2;go_ret;rw[hF.out];exact⟨rfl,HB.out⟩
def signS (neg:Bool):Gr.Str:=if neg=true then[45]else[]
theorem zot (neg:Bool) (A:Option Addr) (n c:Nat) (e:Int) (w:World):
 Calls prog 172 #[.agg #[.bool neg,.slice A n c,.int .i64 e]] w fun e' w'=>e'=.returned (.string ⟨(signS neg).toArray⟩)/\Below w.heap.size w w':=by
 have hb:Below w.heap.size w (w.alloc (.cells #[.bool neg,.slice A n c,.int .i64 e] 125)):=(Below.refl _ _).alloc (Nat.le_refl _) _;have HB:=hid hb;clear hb;cases neg
 all_goals
  go_enter func172,ntmps172;go_wp2;go_ret;exact⟨rfl,HB.out⟩
theorem zc9 (w:World) (s:List UInt8) (A:Option Addr) (c:Nat) {B:Nat} (h:RowAt byteL w B A s):(convert 119 9 (.slice A s.length c)).run prog w=.ok (.string ⟨s.toArray⟩) w:=by
 cases s with
 |nil=>
  cases A with
  |none=>exact run_convert_bytes_nil (P:=prog) w 119 5 underlying119 underlying5 0 c 9 underlying9
  |some a=>exact run_convert_bytes_back (P:=prog) w 119 9 5 a c [] underlying119 underlying5 underlying9 (fun j hj=>by simp at hj)
 |cons b r=>
  obtain⟨ad,rfl,_,_⟩:=h.get (k:=0) (by simp);refine run_convert_bytes_back (P:=prog) w 119 9 5 ad c (b::r) underlying119 underlying5 underlying9 (fun j hj=>?_);obtain⟨ad',e,_,h0,_⟩:=h.get hj;cases e;have:=h0 _ rfl;simpa[byteL]using this
theorem zj2 (neg:Bool) (A:Option Addr) (d:List Nat) (c:Nat) (E:Int) (hl:d.length<=1073741823) (hd:∀v∈d,v<10) (w:World) (h:RowAt byteL w w.heap.size A (d8 d)):
 Calls prog 173 #[.agg #[.bool neg,.slice A d.length c,.int .i64 E]] w fun e' w'=>e'=.returned (.string ⟨(d.map Gr.ch).toArray⟩)/\Below w.heap.size w w':=by
 have hmk:=fun W=>zca d.length (by omega) W
 have HD:=hid hd;have HRow:=hid h;clear hd h;go_enter func173,ntmps173;go_upto_region 2 with fail;obtain⟨w0,hw0⟩:=ex (w.alloc (.cells #[.bool neg,.slice A d.length c,.int .i64 E] 125))
 have hb0:Blk w0 w.heap.size 125 #[.bool neg,.slice A d.length c,.int .i64 E]:=by rw[<-hw0];exact Blk.new _ _ _
 have hl0:Below w.heap.size w w0:=by rw[<-hw0];exact(Below.refl _ _).alloc (Nat.le_refl _) _
 have hs0:w0.heap.size=w.heap.size+1:=by rw[<-hw0];simp
 obtain⟨gb,hgb⟩:=ex w.heap.size
 (try rw[hw0]);(try rw[hgb]);rw[hgb]at hb0 hl0 hs0 HRow;obtain⟨w1,hw1⟩:=ex (w0.alloc (.cells (ucells (List.replicate d.length 0)) 5))
 have hb1:Blk w1 (gb+1) 5 (ucells (List.replicate d.length 0)):=by rw[<-hw1,<-hs0];exact Blk.new _ _ _
 have hl1:Below (gb+1) w0 w1:=by rw[<-hw1,<-hs0];exact(Below.refl _ _).alloc (Nat.le_refl _) _
 have HB1:Hid (Blk w1 gb 125 #[.bool neg,.slice A d.length c,.int .i64 E]/\Blk w1 (gb+1) 5 (ucells (List.replicate d.length 0))/\Below gb w w1):=hid ⟨hb0.below hl1 (by omega),hb1,hl0.trans (hl1.mono (by omega))⟩;have HGB:=hid hgb;(try rw[hs0]);(try rw[hw1]);clear hw0 hgb hb0 hl0 hs0 hw1 hb1 hl1 hmk;have q1:w1.cell? ⟨gb,1,none⟩=some (.slice A d.length c):=HB1.out.1.cell 1;go_wp2_with fail;clear q1;go_loopw [13] (fun s13 wr=>∃k:Nat,k<=d.length/\s13=.int .i64 k/\Hid (Blk wr (gb+1) 5 (ucells ((d.take k).map Gr.ch++List.replicate (d.length-k) 0))/\Below gb w wr)) (fun s13 _=>d.length-(intOf s13).toNat)
 case atStart=>exact⟨0,by omega,rfl,hid ⟨by simpa using HB1.out.2.1,HB1.out.2.2⟩⟩
 case round=>
  obtain⟨k,hk,rfl,HV⟩:=hrel;by_cases hlt:k<d.length
  ·have hltI:(k:Int)<(d.length:Int):=by omega
   obtain⟨v,hv⟩:=ex (d[k])
   have hv10:v<10:=by rw[<-hv];exact HD.out _ (List.getElem_mem hlt)
   obtain⟨ad,hade,_,y0⟩:=zrj (HRow.out.below HV.out.2) hlt hv hv10;subst hade;have pfd:∀j,wr.frozen? ⟨gb+1,j,none⟩=false:=HV.out.1.frozen;have hlen1:((d.take k).map Gr.ch).length=k:=by simp;omega
   obtain⟨dv,zd⟩:∃dv,wr.cell? ⟨gb+1,k,none⟩=some dv:=by
    rw[HV.out.1.cell];refine⟨_,Array.getElem?_eq_getElem (i:=k) ?_⟩;simp[ucells];omega
   have HNX:Hid ((d.take (k+1)).map Gr.ch=(d.take k).map Gr.ch++[Gr.ch v]/\((d.take k).map Gr.ch).length=k):=hid ⟨by
    rw[List.take_succ_eq_append_getElem hlt,List.map_append,hv];rfl,hlen1⟩
   have hvI:(v:Int)<10:=by omega
   clear hv hlen1;go_wp2_with fail;obtain⟨xb,hxb⟩:∃xb:UInt8,xb=Gr.ch v:=⟨_,rfl⟩
   have hxi:48+(v:Int)=(xb.toNat:Int):=by rw[hxb];unfold Gr.ch;rw[UInt8.toNat_ofNat'];omega
   rw[hxi];have HN:Hid (Blk (wr.setCell ⟨gb+1,k,none⟩ (.int .u8 (xb.toNat:Int))) (gb+1) 5 (ucells ((d.take (k+1)).map Gr.ch++List.replicate (d.length-(k+1)) 0))/\Below gb w (wr.setCell ⟨gb+1,k,none⟩ (.int .u8 (xb.toNat:Int)))):=hid ⟨by
    have h1:=HV.out.1.set_ k (.int .u8 (xb.toNat:Int));rw[zc8]at h1;have h2:=ziu ((d.take k).map Gr.ch) (d.length-k) xb (by omega);rw[HNX.out.2]at h2;rw[h2]at h1;rw[HNX.out.1,<-hxb,show d.length-(k+1)=d.length-k-1 from by omega];exact h1,HV.out.2.setCell (by simp) _⟩
   clear hxi hxb;go_roundw
   case rel=>exact⟨k+1,by omega,by go_num,HN⟩
   case measure=>simp[intOf];omega
  ·have hltI:¬(k:Int)<(d.length:Int):=by omega
   have hr:RowAt byteL wr (gb+2) (some ⟨gb+1,0,none⟩) (d.map Gr.ch):=by
    have:=HV.out.1;rw[show k=d.length from by omega,List.take_length,Nat.sub_self,List.replicate_zero,List.append_nil]at this;exact RowAt.ofBlk this (zam _) (by omega)
   have hcv:=zc9 wr _ (some ⟨gb+1,0,none⟩) d.length hr;rw[List.length_map]at hcv;clear hr;go_wp2;go_ret;exact⟨rfl,by rw[HGB.out];exact HV.out.2⟩
theorem zqd (s:Gr.Str) (k:Nat) (i:Int) (hi:i=k) (h:k<=s.length) (W:World):(Instr.slice 9 (.string ⟨s.toArray⟩) none (some (.int .i64 i)) none).run prog W=.ok (.string ⟨(s.take k).toArray⟩) W:=by
 subst hi;rw[run_slice_string_h (P:=prog) W 9 ⟨s.toArray⟩ underlying9 .i64 k (by omega) (by simp[ByteArray.size];omega)]
 congr 2
 apply ByteArray.ext;simp
theorem zs6 (s:Gr.Str) (k:Nat) (i:Int) (hi:i=k) (h:k<=s.length) (W:World):(Instr.slice 9 (.string ⟨s.toArray⟩) (some (.int .i64 i)) none none).run prog W=.ok (.string ⟨(s.drop k).toArray⟩) W:=by
 subst hi;rw[run_slice_string_l (P:=prog) W 9 ⟨s.toArray⟩ underlying9 .i64 k (by omega) (by simp[ByteArray.size];omega)]
 congr 2
 apply ByteArray.ext;simp[ByteArray.size];rw[List.take_of_length_le (by simp)]
theorem zrh (a b:Gr.Str):(⟨a.toArray⟩:ByteArray)++⟨b.toArray⟩=⟨(a++b).toArray⟩:=by
 apply ByteArray.ext;simp
theorem zab (a b:Gr.Str) (h:a.length+b.length<=9223372036854775807) (W:World):(Op.stringOp .add ⟨a.toArray⟩ ⟨b.toArray⟩).run prog W=.ok (.string ⟨(a++b).toArray⟩) W:=by
 rw[run_string_add_sum (P:=prog) (w:=W) ⟨a.toArray⟩ ⟨b.toArray⟩ (by simpa[ByteArray.size]using h),zrh]
theorem zbt (x n:Nat) (i j:Int) (hi:i=(x:Int)) (hj:j=(n:Int)) (hx:x<=999999999) (hn:n<=9) (w:World):
 Calls prog 139 #[.int .i64 i,.int .i64 j] w fun e w'=>e=.returned (.string ⟨(Gr.pd n x).toArray⟩)/\Below w.heap.size w w':=by
 subst hi;subst hj;go_enter func139,ntmps139;go_wp2_with fail;go_loopw [0,5,6] (fun s0 s5 s6 wr=>∃k y:Nat,k<=n/\y<=999999999/\s0=.int .i64 (y:Int)/\s5=.string ⟨(Gr.pd k x).toArray⟩/\s6=.int .i64 (k:Int)/\Hid (y=x /10 ^ k/\Below w.heap.size w wr)) (fun _ _ s6 _=>n-(intOf s6).toNat)
 case atStart=>exact⟨0,x,by omega,hx,rfl,rfl,rfl,Lib.hid ⟨by simp,Below.refl _ _⟩⟩
 case round=>
  obtain⟨k,y,hk,hy,rfl,rfl,rfl,HV⟩:=hrel;have hlen:=Gr.zax k x;by_cases hlt:k<n
  ·have hltI:(k:Int)<(n:Int):=by omega
   obtain⟨c,hc⟩:∃c:UInt8,c=Gr.ch (y%10):=⟨_,rfl⟩
   have hci:(48:Int)+(y:Int)%10=(c.toNat:Int):=by rw[hc];unfold Gr.ch;rw[UInt8.toNat_ofNat'];omega
   have HNX:Hid (Gr.pd (k+1) x=[c]++Gr.pd k x/\y /10=x /10 ^ (k+1)):=Lib.hid ⟨by rw[Gr.zov,<-HV.out.1,<-hc];rfl,by rw[HV.out.1,Nat.div_div_eq_div_mul,Nat.pow_succ]⟩;have hadd:=fun W=>zab [c] (Gr.pd k x) (by rw[hlen];simp;omega) W
   have hcv2:(convert 119 9 (.slice (some ⟨wr.heap.size,0,none⟩) 1 1)).run prog (wr.alloc (.cells #[.int .u8 (c.toNat:Int)] 5))=.ok (.string ⟨[c].toArray⟩) (wr.alloc (.cells #[.int .u8 (c.toNat:Int)] 5)):=zc9 (B:=wr.heap.size+1) (wr.alloc (.cells #[.int .u8 (c.toNat:Int)] 5)) [c] (some ⟨wr.heap.size,0,none⟩) 1 (RowAt.lit1 c _ rfl _ rfl);rw[<-hci]at hcv2;obtain⟨p,hp⟩:=ex (Gr.pd k x)
   rw[hp]at hadd HNX ⊢;have hy10:(0:Int)<=(y:Int)%10:=by omega
   have hy11:(y:Int)%10<=9:=by omega
   clear hci hlen hp hc;go_wp2;go_roundw
   case rel=>exact⟨k+1,y /10,by omega,by omega,by exact congrArg (Value.int .i64) (by omega),by rw[HNX.out.1];rfl,by go_num,Lib.hid ⟨HNX.out.2,HV.out.2.alloc HV.out.2.size _⟩⟩
   case measure=>simp[intOf];omega
  ·obtain rfl:k=n:=by omega
   have hltI:¬(k:Int)<(k:Int):=by omega
   clear hlen;go_wp2;go_ret;exact⟨rfl,HV.out.2⟩
end Go.Proofs.YtoigpackhninoaaGreatDoor
