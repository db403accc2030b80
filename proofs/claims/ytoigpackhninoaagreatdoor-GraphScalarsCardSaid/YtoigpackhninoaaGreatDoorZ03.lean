/- Rows of bytes. Walks: the reference's integers. (Printed by genrv.py.) -/
import Derived.Test.YtoigpackhninoaaGreatDoorZ02
import Derived.Outline
import Derived.Deep.RegionHeld3
import Derived.Deep.DeepCutAuto
import Derived.Deep.CutBlock
import Derived.BigRegion
import Derived.Test.YtoigpackhninoaaGreatDoorZ13
import Derived.IntWalk
namespace Go.Proofs.YtoigpackhninoaaGreatDoor
open Go.RowKit
def byteL:Lay UInt8:={enc:=fun x=>[.int .u8 (x.toNat:Int)],sz:=1,len:=fun _=>rfl,one:=fun x u hu=>by simp at hu;subst hu;rfl,pos:=by omega}
theorem byteT:SliceT Tryz.prog byteL 119 5 1:=sliceT_of byteL 119 5 (.int .u8 0) 1 Tryz.underlying119 (by kernel_rfl) rfl (by omega)
theorem u8_at {w:World} {B:Nat} {A:Option Addr} {l:List UInt8} {k:Nat} (h:RowAt byteL w B A l) (hk:k<l.length):∃ad,A=some ad/\ad.block<B/\w.cell? (ad.add k)=some (.int .u8 (l[k].toNat:Int)):=by
 obtain⟨ad,h1,h2,h3,_⟩:=h.get hk;refine⟨ad,h1,h2,?_⟩;have:=h3 (.int .u8 (l[k].toNat:Int)) rfl;rwa[show k*byteL.sz=k from Nat.mul_one k]at this
theorem cut_bytes (a:Option Addr) (n c m:Nat) (hm:m<=c) (w:World):(Instr.slice 119 (.slice a n c) none (some (.int .i64 (m:Int))) none).run Tryz.prog w=.ok (.slice a m c) w:=by
 obtain⟨i0,z,hi,hz0,hz1,hz2,hz3⟩:=byteT.info;rw[run_slice_h (P:=Tryz.prog) 119 5 i0 Tryz.underlying119 hi a n c m hm w];split
 ·rfl
 ·cases a<;>simp[Addr.add]
theorem byte_is (s:Gr.Str) (k:Nat) (hk:k<s.length) (c d:UInt8) (n:Int) (hn:(d.toNat:Int)=n) (h:s[k]=c) (e:c=d):(((⟨s.toArray⟩:ByteArray)[k]'(by simpa[ByteArray.size]using hk)).toNat:Int)=n:=by
 have:(⟨s.toArray⟩:ByteArray)[k]'(by simpa[ByteArray.size]using hk)=s[k]:=rfl;rw[this,h,e,hn]
theorem byte_not (s:Gr.Str) (k:Nat) (hk:k<s.length) (c d:UInt8) (n:Int) (hn:(d.toNat:Int)=n) (h:s[k]=c) (e:c≠d):¬(((⟨s.toArray⟩:ByteArray)[k]'(by simpa[ByteArray.size]using hk)).toNat:Int)=n:=by
 have:(⟨s.toArray⟩:ByteArray)[k]'(by simpa[ByteArray.size]using hk)=s[k]:=rfl;rw[this,h,<-hn];exact fun he=>e (UInt8.toNat_inj.1 (by omega))
theorem byte_isb (s:Gr.Str) (k:Nat) (hk:k<s.length) (c d:UInt8) (n:Int) (hn:(d.toNat:Int)=n) (h:s[k]=c) (e:c=d):((((⟨s.toArray⟩:ByteArray)[k]'(by simpa[ByteArray.size]using hk)).toNat:Int)==n)=true:=by
 simpa using byte_is s k hk c d n hn h e
theorem byte_nob (s:Gr.Str) (k:Nat) (hk:k<s.length) (c d:UInt8) (n:Int) (hn:(d.toNat:Int)=n) (h:s[k]=c) (e:c≠d):((((⟨s.toArray⟩:ByteArray)[k]'(by simpa[ByteArray.size]using hk)).toNat:Int)==n)=false:=by
 simpa using byte_not s k hk c d n hn h e
def ucells (l:List UInt8):Array Value:=(l.map (fun(c:UInt8)=>Value.int .u8 (c.toNat:Int))).toArray
theorem ucells_set (l:List UInt8) (i:Nat) (x:UInt8):(ucells l).setIfInBounds i (.int .u8 (x.toNat:Int))=ucells (l.set i x):=by
 simp[ucells,List.map_set]
theorem ucells_all (l:List UInt8):(ucells l).toList=byteL.all l:=by
 induction l with
 |nil=>rfl
 |cons x l ih=>
  have e1:(ucells (x::l)).toList=.int .u8 (x.toNat:Int)::(ucells l).toList:=by simp[ucells]
  have e2:byteL.all (x::l)=.int .u8 (x.toNat:Int)::byteL.all l:=rfl;rw[e1,e2,ih]
theorem infoByte:(Tryz.prog.info? 5).map (fun i=>(i.zero,i.size,i.bytes))=some (some (.int .u8 0),1,1):=by kernel_rfl
theorem make_bytes (n:Nat) (hn:n<=1073741824) (W:World):(Instr.makeSlice 119 (.int .i64 (n:Int)) (.int .i64 (n:Int))).run Tryz.prog W=.ok (.slice (some ⟨W.heap.size,0,none⟩) n n) (W.alloc (.cells (ucells (List.replicate n 0)) 5)):=by
 obtain⟨i5,hi5,hz5,hs5,hby5⟩:=info_parts infoByte;have:=run_make_rowN (P:=Tryz.prog) 119 5 i5 _ Tryz.underlying119 hi5 hz5 .i64 .i64 n n (Nat.le_refl _) (by rw[hby5];omega) (by omega) W;rw[hs5]at this;simp only[Value.cells,madeCells_one]at this;rw[this];simp[ucells]
theorem RowAt.ofBlk {α:Type} {L:Lay α} {w:World} {g B:Nat} {t:TypeId} {cs:Array Value} {l:List α} (hb:Blk w g t cs) (hc:cs.toList=L.all l) (hg:g<B):RowAt L w B (some ⟨g,0,none⟩) l:=by
 refine⟨L.all_len l,fun _=>⟨_,rfl,hg,fun j u hu=>?_⟩⟩;have e:(⟨g,0,none⟩:Addr).add j=⟨g,j,none⟩:=by unfold Addr.add;split<;>simp_all
 rw[e,hb.cell,<-hu,<-hc];simp
end Go.Proofs.YtoigpackhninoaaGreatDoor
namespace Go.Proofs.YtoigpackhninoaaGreatDoor
set_option maxRecDepth 100000
set_option maxHeartbeats 16000000
open Go.RowKit
theorem intB_at (s:Gr.Str) (a:Nat) (ha:a=if s.head?=some 45 then 1 else 0):Gr.intB s=if a=s.length\/s.length-a>400\/((s.drop a).head?=some 48/\s.length>1)then false else(s.drop a).all Gr.dig:=by
 cases s with
 |nil=>subst ha;decide
 |cons c r=>
  by_cases hc:c=45
  ·subst hc;obtain rfl:a=1:=by rw[ha];rfl
   cases r with
   |nil=>decide
   |cons d r=>
    have e:Gr.intS (45::d::r)=d::r:=by unfold Gr.intS;rw[if_pos ⟨by simp,rfl⟩];rfl
    unfold Gr.intB;rw[e];simp only[List.drop_succ_cons,List.drop_zero];by_cases h:(d::r).length>400\/((d::r).head?=some 48/\(45::d::r).length>1)
    ·rw[if_pos (.inr h),if_pos (.inr (h.imp (fun h=>by simpa using h) id))]
    ·rw[if_neg (by rintro(h1|h1);simp at h1;exact h h1),if_neg (by rintro(h1|h1);simp at h1;exact h (h1.imp (fun h=>by simpa using h) id))]
  ·obtain rfl:a=0:=by rw[ha,if_neg (by simp[hc])]
   have e:Gr.intS (c::r)=c::r:=by unfold Gr.intS;rw[if_neg (by simp[hc])]
   unfold Gr.intB;rw[e,List.drop_zero];by_cases h:(c::r).length>400\/((c::r).head?=some 48/\(c::r).length>1)
   ·rw[if_pos (.inr h),if_pos (.inr (by simpa using h))]
   ·rw[if_neg (by rintro(h1|h1);simp at h1;exact h h1),if_neg (by rintro(h1|h1);simp at h1;exact h (by simpa using h1))]
theorem dig_nat0 (c:UInt8) (b:Nat) (hb:c.toNat=b):Gr.dig c=(decide (48<=b) && decide (b<=57)):=by
 subst hb;unfold Gr.dig;rw[Bool.eq_iff_iff];simp[UInt8.le_iff_toNat_le]
theorem all_at {s:Gr.Str} {a k:Nat} (h:k<s.length) (hak:a<=k) (hd:Gr.dig s[k]=false):(s.drop a).all Gr.dig=false:=by
 rw[List.all_eq_false];refine⟨s[k],?_,by rw[hd];decide⟩;have:s[k]=(s.drop a)[k-a]'(by rw[List.length_drop];omega):=by rw[List.getElem_drop];congr 1;omega
 rw[this];exact List.getElem_mem _
theorem rvalid_loop (s:Gr.Str) (hl:s.length<=1073741823) (a:Nat) (ha:a<=s.length) (w:World) (r:Bool) (hr:Hid ((s.drop a).all Gr.dig=r)) (u1 u2 u4 u5 u6 u7 u8 u9 u10 u11 u12 u13 u14 u15 u16 u17 u18 u19 u20 u21 u22 u23 u24 u25 u26 u27 u28 u29 u30 u31 u32 u33 u34 u35 u36 u37 u38 u39 u40 u41 u42 u43 u44 u45 u46 u47 u48 u49 u50 u51:Value):
 Code.wp Tryz.prog (tl 4 (Tryz.f43.body.getD .skip)) (bodyPost Tryz.prog Tryz.f43 (fun e w'=>e=.returned (.bool r)/\w=w')) {tmps:=List.toArray (.string ⟨s.toArray⟩::u1::u2::.int .i64 (a:Int)::u4::u5::u6::u7::u8::u9::u10::u11::u12::u13::u14::u15::u16::u17::u18::u19::u20::u21::u22::u23::u24::u25::u26::u27::u28::u29::u30::u31::u32::u33::u34::u35::u36::u37::u38::u39::u40::u41::u42::u43::u44::u45::u46::u47::u48::u49::u50::u51::[]),defers:=[]} w:=by
 generalize hc0:tl 4 (Tryz.f43.body.getD .skip)=c0;simp only[tl,Tryz.f43,Option.getD_some]at hc0;subst hc0;go_wp2_with fail;go_loop [4] (fun s4=>∃k:Nat,a<=k/\k<=s.length/\s4=.int .i64 (k:Int)/\Hid (∀j (h:j<s.length),a<=j->j<k->Gr.dig s[j]=true)) (fun s4=>s.length-(intOf s4).toNat)
 case atStart=>exact⟨a,Nat.le_refl _,ha,rfl,Lib.hid (fun j _ h1 h2=>by omega)⟩
 case round=>
  obtain⟨k,hak,hk,rfl,hd⟩:=hrel;by_cases hlt:k<s.length
  ·have hltI:(k:Int)<(s.length:Int):=by omega
   obtain⟨b,hb⟩:∃b:Nat,(s[k]'hlt).toNat=b:=⟨_,rfl⟩
   have hbv:(((⟨s.toArray⟩:ByteArray)[k]'(by simpa[ByteArray.size]using hlt)).toNat:Int)=(b:Int):=by rw[<-hb];rfl
   have HBD:=Lib.hid (dig_nat0 (s[k]'hlt) b hb);clear hb;by_cases h48:48<=b
   ·have a48:¬(b:Int)<48:=by omega
    by_cases h57:b<=57
    ·have a57:¬(57:Int)<(b:Int):=by omega
     go_wp2_with fail;go_round
     case rel=>exact⟨k+1,by omega,by omega,by go_num,Lib.hid (fun j h h1 h2=>by
      by_cases e:j=k
      ·subst e;rw[HBD.out];simp[h48,h57]
      ·exact hd.out j h h1 (by omega))⟩
     case measure=>simp[intOf];omega
    ·have a57:(57:Int)<(b:Int):=by omega
     have HF:Hid (r=false):=Lib.hid (by rw[<-hr.out];exact all_at hlt hak (by rw[HBD.out];simp[h57]));go_wp2_with fail;go_ret;rw[HF.out];exact⟨rfl,rfl⟩
   ·have a48:(b:Int)<48:=by omega
    have HF:Hid (r=false):=Lib.hid (by rw[<-hr.out];exact all_at hlt hak (by rw[HBD.out];simp[h48]));go_wp2_with fail;go_ret;rw[HF.out];exact⟨rfl,rfl⟩
  ·have hltI:¬(k:Int)<(s.length:Int):=by omega
   have HF:Hid (r=true):=Lib.hid (by
    rw[<-hr.out,List.all_eq_true];intro x hx;obtain⟨j,hj,rfl⟩:=List.getElem_of_mem hx;rw[List.length_drop]at hj;rw[List.getElem_drop];exact hd.out (a+j) (by omega) (by omega) (by omega))
   go_wp2_with fail;go_ret;rw[HF.out];exact⟨rfl,rfl⟩
theorem rvalid_tail (s:Gr.Str) (hl:s.length<=1073741823) (a:Nat) (ha:a<=s.length) (w:World) (r:Bool) (hr:Hid ((if a=s.length\/s.length-a>400\/((s.drop a).head?=some 48/\s.length>1)then false else(s.drop a).all Gr.dig)=r)) (u1 u2 u4 u5 u6 u7 u8 u9 u10 u11 u12 u13 u14 u15 u16 u17 u18 u19 u20 u21 u22 u23 u24 u25 u26 u27 u28 u29 u30 u31 u32 u33 u34 u35 u36 u37 u38 u39 u40 u41 u42 u43 u44 u45 u46 u47 u48 u49 u50 u51:Value):
 Code.wp Tryz.prog (tl 3 (Tryz.f43.body.getD .skip)) (bodyPost Tryz.prog Tryz.f43 (fun e w'=>e=.returned (.bool r)/\w=w')) {tmps:=List.toArray (.string ⟨s.toArray⟩::u1::u2::.int .i64 (a:Int)::u4::u5::u6::u7::u8::u9::u10::u11::u12::u13::u14::u15::u16::u17::u18::u19::u20::u21::u22::u23::u24::u25::u26::u27::u28::u29::u30::u31::u32::u33::u34::u35::u36::u37::u38::u39::u40::u41::u42::u43::u44::u45::u46::u47::u48::u49::u50::u51::[]),defers:=[]} w:=by
 generalize hc0:tl 3 (Tryz.f43.body.getD .skip)=c0;simp only[tl,Tryz.f43,Option.getD_some]at hc0;subst hc0;by_cases h1:a=s.length
 ·have h1I:((a:Int)==(s.length:Int))=true:=by rw[beq_iff_eq];omega
  have HF:Hid (r=false):=Lib.hid (by rw[<-hr.out,if_pos (.inl h1)]);clear h1;go_wp2_with fail;go_ret;rw[HF.out];exact⟨rfl,rfl⟩
 ·have h1I:((a:Int)==(s.length:Int))=false:=by rw[beq_eq_false_iff_ne];omega
  have hlt:a<s.length:=by omega
  by_cases h2:s.length-a>400
  ·have h2I:(400:Int)<(s.length:Int)-(a:Int):=by omega
   have HF:Hid (r=false):=Lib.hid (by rw[<-hr.out,if_pos (.inr (.inl h2))]);clear h1 h2;go_wp2_with fail;go_ret;rw[HF.out];exact⟨rfl,rfl⟩
  ·have h2I:¬(400:Int)<(s.length:Int)-(a:Int):=by omega
   have hd:(s.drop a).head?=some s[a]:=by rw[List.head?_drop,List.getElem?_eq_getElem hlt]
   by_cases h3:s[a]=48
   ·have b1:=byte_is s a hlt _ 48 48 rfl rfl h3;have b2:=byte_isb s a hlt _ 48 48 rfl rfl h3;by_cases h4:s.length>1
    ·have h4I:(1:Int)<(s.length:Int):=by omega
     have HF:Hid (r=false):=Lib.hid (by rw[<-hr.out,if_pos (.inr (.inr ⟨by rw[hd,h3],h4⟩))]);clear h1 h2 h3 hd;go_wp2_with fail;go_ret;rw[HF.out];exact⟨rfl,rfl⟩
    ·have h4I:¬(1:Int)<(s.length:Int):=by omega
     have HL:Hid ((s.drop a).all Gr.dig=r):=Lib.hid (by rw[<-hr.out,if_neg (by rintro(h|h|⟨_,h⟩);exact h1 h;exact h2 h;exact h4 h)]);clear h1 h2 h3 hd;go_upto_if 34 with fail;go_cut [] (fun wx=>wx=w)
     case first=>
      go_wp2_with fail;go_meet;exact rfl
     case rest=>
     subst hcut;refine(‹∀(a:Act) (w_1:World),Code.wp Tryz.prog _ _ a w_1->_›) _ _ ?_;exact rvalid_loop s hl a ha _ r HL _ _ _ _ _ _ _ _ _ _ _ _ _ _ _ _ _ _ _ _ _ _ _ _ _ _ _ _ _ _ _ _ _ _ _ _ _ _ _ _ _ _ _ _ _ _ _ _ _ _
   ·have b1:=byte_not s a hlt _ 48 48 rfl rfl h3;have b2:=byte_nob s a hlt _ 48 48 rfl rfl h3;have HL:Hid ((s.drop a).all Gr.dig=r):=Lib.hid (by rw[<-hr.out,if_neg (by rintro(h|h|⟨h,_⟩);exact h1 h;exact h2 h;rw[hd]at h;injection h with h;exact h3 h)]);clear h1 h2 h3 hd;go_upto_if 34 with fail;go_cut [] (fun wx=>wx=w)
    case first=>
     go_wp2_with fail;go_meet;exact rfl
    case rest=>
    subst hcut;refine(‹∀(a:Act) (w_1:World),Code.wp Tryz.prog _ _ a w_1->_›) _ _ ?_;exact rvalid_loop s hl a ha _ r HL _ _ _ _ _ _ _ _ _ _ _ _ _ _ _ _ _ _ _ _ _ _ _ _ _ _ _ _ _ _ _ _ _ _ _ _ _ _ _ _ _ _ _ _ _ _ _ _ _ _
theorem rvalid_any (s:Gr.Str) (hl:s.length<=1073741823) (w:World):Calls Tryz.prog 43 #[.string ⟨s.toArray⟩] w fun e w'=>e=.returned (.bool (Gr.intB s))/\w=w':=by
 obtain⟨r,hr⟩:∃r,Gr.intB s=r:=⟨_,rfl⟩
 rw[hr];have HR:=fun(a:Nat) ha=>Lib.hid ((intB_at s a ha).symm.trans hr)
 clear hr;by_cases h0:0<s.length
 ·have h0I:(0:Int)<(s.length:Int):=by omega
  have hh:s.head?=some s[0]:=by rw[List.head?_eq_getElem?,List.getElem?_eq_getElem h0]
  by_cases h45:s[0]=45
  ·have b1:=byte_is s 0 h0 _ 45 45 rfl rfl h45;have b2:=byte_isb s 0 h0 _ 45 45 rfl rfl h45;have HL:=HR 1 (by rw[hh,h45];rfl);clear HR hh h45;go_enter Tryz.func43,Tryz.ntmps43;go_upto_if 12 with fail;go_cut [3] (fun s3 wx=>s3=.int .i64 ((1:Nat):Int)/\wx=w)
   case first=>
    go_wp2_with fail;go_meet;exact⟨rfl,rfl⟩
   case rest=>
   obtain⟨rfl,rfl⟩:=hcut;refine(‹∀(a:Act) (w_1:World),Code.wp Tryz.prog _ _ a w_1->_›) _ _ ?_;exact rvalid_tail s hl 1 (by omega) _ r HL _ _ _ _ _ _ _ _ _ _ _ _ _ _ _ _ _ _ _ _ _ _ _ _ _ _ _ _ _ _ _ _ _ _ _ _ _ _ _ _ _ _ _ _ _ _ _ _ _ _
  ·have b1:=byte_not s 0 h0 _ 45 45 rfl rfl h45;have b2:=byte_nob s 0 h0 _ 45 45 rfl rfl h45;have HL:=HR 0 (by rw[hh,if_neg (by intro e;injection e with e;exact h45 e)]);clear HR hh h45;go_enter Tryz.func43,Tryz.ntmps43;go_upto_if 12 with fail;go_cut [3] (fun s3 wx=>s3=.int .i64 ((0:Nat):Int)/\wx=w)
   case first=>
    go_wp2_with fail;go_meet;exact⟨rfl,rfl⟩
   case rest=>
   obtain⟨rfl,rfl⟩:=hcut;refine(‹∀(a:Act) (w_1:World),Code.wp Tryz.prog _ _ a w_1->_›) _ _ ?_;exact rvalid_tail s hl 0 (by omega) _ r HL _ _ _ _ _ _ _ _ _ _ _ _ _ _ _ _ _ _ _ _ _ _ _ _ _ _ _ _ _ _ _ _ _ _ _ _ _ _ _ _ _ _ _ _ _ _ _ _ _ _
 ·have h0I:¬(0:Int)<(s.length:Int):=by omega
  have HL:=HR 0 (by rw[show s=[]from List.eq_nil_of_length_eq_zero (by omega)];rfl);clear HR;go_enter Tryz.func43,Tryz.ntmps43;go_upto_if 12 with fail;go_cut [3] (fun s3 wx=>s3=.int .i64 ((0:Nat):Int)/\wx=w)
  case first=>
   go_wp2_with fail;go_meet;exact⟨rfl,rfl⟩
  case rest=>
  obtain⟨rfl,rfl⟩:=hcut;refine(‹∀(a:Act) (w_1:World),Code.wp Tryz.prog _ _ a w_1->_›) _ _ ?_;exact rvalid_tail s hl 0 (by omega) _ r HL _ _ _ _ _ _ _ _ _ _ _ _ _ _ _ _ _ _ _ _ _ _ _ _ _ _ _ _ _ _ _ _ _ _ _ _ _ _ _ _ _ _ _ _ _ _ _ _ _ _
end Go.Proofs.YtoigpackhninoaaGreatDoor
