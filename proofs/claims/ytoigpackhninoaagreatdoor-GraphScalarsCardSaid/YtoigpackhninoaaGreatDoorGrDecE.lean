import Derived.Test.YtoigpackhninoaaGreatDoorZ07
import Derived.Lib.AtoiBound
namespace Go.Proofs.YtoigpackhninoaaGreatDoor
open Gr
open _root_.Go.Proofs.Tryz
open _root_.Go.Lib (hid)
set_option maxRecDepth 100000
set_option maxHeartbeats 16000000
open Go.RowKit
def zbi (o:Option Gr.Dn) (w:World) (e:Ending) (w':World):Prop:=∃x v,e=.returned (.tuple #[v,.bool o.isSome])/\NumVal x v w'/\(∀y,o=some y->x=y)/\Below w.heap.size w w'
theorem zmj {w3 w6:World} {k:Nat} {x:Gr.Dn} {A:Option Addr} {c:Nat} {a b d:Value} (hk:Blk w6 k 125 #[.bool false,.slice none 0 0,.int .i64 0]) (h:NumAt x A c w6) (hlo:w3.heap.size<=k) (hb:Below w3.heap.size w3 w6):
 Blk (((w6.setCell ⟨k,0,none⟩ a).setCell ⟨k,1,none⟩ b).setCell ⟨k,2,none⟩ d) k 125 #[a,b,d]/\NumAt x A c (((w6.setCell ⟨k,0,none⟩ a).setCell ⟨k,1,none⟩ b).setCell ⟨k,2,none⟩ d)/\Below w3.heap.size w3 (((w6.setCell ⟨k,0,none⟩ a).setCell ⟨k,1,none⟩ b).setCell ⟨k,2,none⟩ d)/\w3.heap.size<=k:=
 ⟨((hk.set_ 0 a).set_ 1 b).set_ 2 d,((h.set_ hk (by decide) a).set_ (hk.set_ 0 a) (by decide) b).set_ ((hk.set_ 0 a).set_ 1 b) (by decide) d,((hb.setCell (p:=⟨k,0,none⟩) hlo _).setCell (p:=⟨k,1,none⟩) hlo _).setCell (p:=⟨k,2,none⟩) hlo _,hlo⟩
theorem zhw (neg:Bool) (d:List Nat) (e:Int):(norm neg d e).d.length<=d.length/\((norm neg d e).e=0\/(e<=(norm neg d e).e/\(norm neg d e).e<=e+d.length)):=by
 unfold norm;have h1:(d.dropWhile isZ).length<=d.length:=(List.dropWhile_sublist isZ).length_le;have h2:=zsy (d.dropWhile isZ);split
 ·exact⟨Nat.zero_le _,.inl rfl⟩
 ·exact⟨Nat.le_trans h2 h1,.inr ⟨by simp only;omega,by simp only;omega⟩⟩
theorem zmk {w3 w6:World} {x:Gr.Dn} {A:Option Addr} {c:Nat} {a b d:Value} (h:NumAt x A c w6) (hb:Below w3.heap.size w3 w6):
 Blk (w6.alloc (.cells #[a,b,d] 125)) w6.heap.size 125 #[a,b,d]/\NumAt x A c (w6.alloc (.cells #[a,b,d] 125))/\Below w3.heap.size w3 (w6.alloc (.cells #[a,b,d] 125))/\w3.heap.size<=w6.heap.size:=
 ⟨Blk.new _ _ _,h.alloc _,hb.alloc hb.size _,hb.size⟩
theorem undrew {w3 w5:World} (h:Below w3.drew.heap.size w3.drew w5):Below w3.heap.size w3 w5:=⟨h.os,h.tape,h.output,h.size,h.block⟩
theorem ze4 {w3 w5 w6:World} (h:Below w3.drew.heap.size w3.drew w5) (h2:Below w5.heap.size w5 w6):Below w3.heap.size w3 w6:=(undrew h).trans (h2.mono (undrew h).size)
theorem zrl {w3 w5:World} (h:Below w3.drew.heap.size w3.drew w5):w3.heap.size<=w5.heap.size:=h.size
theorem zhx {w3 w5 w6:World} {o:Obj} (h:Below w3.drew.heap.size w3.drew w5) (h2:Below (w5.alloc o).heap.size (w5.alloc o) w6):Below w3.heap.size w3 w6:=
 ((undrew h).alloc (undrew h).size o).trans (h2.mono (by have:=(undrew h).size;simp;omega))
theorem zhy {w3 w5 w6:World} {o:Obj} (h:Below (w3.alloc o).drew.heap.size (w3.alloc o).drew w5) (h2:Below w5.heap.size w5 w6):Below w3.heap.size w3 w6:=
 ((Below.refl _ _).alloc (Nat.le_refl _) o).trans ((ze4 h h2).mono (by simp))
theorem zgt {w5 w6:World} (hb6:Below (w5.alloc (.cells #[.bool false,.slice none 0 0,.int .i64 0] 125)).heap.size (w5.alloc (.cells #[.bool false,.slice none 0 0,.int .i64 0] 125)) w6):
 (∀j,w6.frozen? ⟨w5.heap.size,j,none⟩=false)/\w6.cell? ⟨w5.heap.size,0,none⟩=some (.bool false)/\w6.cell? ⟨w5.heap.size,1,none⟩=some (.slice none 0 0)/\w6.cell? ⟨w5.heap.size,2,none⟩=some (.int .i64 0)/\Blk w6 w5.heap.size 125 #[.bool false,.slice none 0 0,.int .i64 0]:=by
 have kb:=(Blk.new w5 125 #[.bool false,.slice none 0 0,.int .i64 0]).below hb6 (by simp);exact⟨kb.frozen,kb.cell 0,kb.cell 1,kb.cell 2,kb⟩
theorem zoz {w3 w5 w6:World} (hb5:Below (w3.alloc (.cells #[.bool false,.slice none 0 0,.int .i64 0] 125)).drew.heap.size (w3.alloc (.cells #[.bool false,.slice none 0 0,.int .i64 0] 125)).drew w5) (hb6:Below w5.heap.size w5 w6):
 (∀j,w6.frozen? ⟨w3.heap.size,j,none⟩=false)/\w6.cell? ⟨w3.heap.size,0,none⟩=some (.bool false)/\w6.cell? ⟨w3.heap.size,1,none⟩=some (.slice none 0 0)/\w6.cell? ⟨w3.heap.size,2,none⟩=some (.int .i64 0)/\Blk w6 w3.heap.size 125 #[.bool false,.slice none 0 0,.int .i64 0]:=
 let h5:Below (w3.alloc (.cells #[.bool false,.slice none 0 0,.int .i64 0] 125)).heap.size (w3.alloc (.cells #[.bool false,.slice none 0 0,.int .i64 0] 125)) w5:=⟨hb5.os,hb5.tape,hb5.output,hb5.size,hb5.block⟩
 zgt (h5.trans (hb6.mono h5.size))
theorem zds (w:World):NumVal zeroD (.agg #[.bool false,.slice none 0 0,.int .i64 0]) w:=⟨none,0,rfl,.inl ⟨rfl,rfl,rfl⟩⟩
theorem zhz (s:Gr.Str) (c:UInt8):Lib.indexByte s c=if s.dropWhile (fun x=>x != c)=[]then -1 else((s.takeWhile (fun x=>x != c)).length:Int):=by
 induction s with
 |nil=>rfl
 |cons b l ih=>
  unfold Lib.indexByte;by_cases h:b=c
  ·subst h;simp
  ·have h1:(b==c)=false:=by simpa using h
   have h2:(b != c)=true:=by simpa using h
   rw[h1,ih,List.dropWhile_cons,List.takeWhile_cons,h2];simp only[if_true,Bool.false_eq_true,if_false];split
   ·rfl
   ·rw[if_neg (by rw[beq_iff_eq];omega)];simp
theorem zh0 (s:Gr.Str):readP s=(match s.dropWhile (fun c=>c != 101)with| []=>none|_::r=>if intB (s.takeWhile (fun c=>c != 101))=false\/5<r.length then none else match Lib.atoi r with|none=>none|some e=>(let x:=norm ((s.takeWhile (fun c=>c != 101)).head? ==some 45) (vals (intS (s.takeWhile (fun c=>c != 101)))) e;if lim x=0/\Gr.text x=s then some x else none)):=rfl
theorem zml {a:Gr.Str} (h:intB a=true):Lib.trimPrefix a [45]=intS a:=by
 have hall:=zcv h;unfold Lib.trimPrefix Lib.hasPrefix intS;cases a with
 |nil=>rfl
 |cons c l=>
  by_cases hc:c=45
  ·subst hc;cases l with
   |nil=>exact absurd hall (by decide)
   |cons d l=>rfl
  ·rw[if_neg (by simpa using fun e=>hc e.symm),if_neg (fun e=>hc (by simpa using e.2))]
theorem zmm (s:Gr.Str) (hl:s.length<=1073741823) (w:World) (hT:UT w):
 Calls prog 89 #[.string ⟨s.toArray⟩] w (zbi (readP s) w):=by
 have HTW:=hid hT;clear hT;cases hdw:s.dropWhile (fun c=>c != 101)with
 |nil=>
  have HF:Hid (readP s=none):=hid (by unfold readP;rw[hdw]);have HIX:=hid (fun W=>strings_IndexByte ⟨s.toArray⟩ 101 W);rw[show Lib.indexByte (⟨s.toArray⟩:ByteArray).data.toList (101:Int).toNat.toUInt8=-1 from by
   have:=zhz s 101;rw[hdw,if_pos rfl]at this;exact this]at HIX
  clear hdw;go_enter func89,ntmps89;go_upto_region 1 with fail;obtain⟨w1,hw1⟩:=ex (w.alloc (.cells #[.bool false,.slice none 0 0,.int .i64 0] 125))
  obtain⟨gb,hgb⟩:=ex w.heap.size
  have HB1:Hid (Blk w1 gb 125 #[.bool false,.slice none 0 0,.int .i64 0]/\Below gb w w1):=hid (by rw[<-hw1,<-hgb];exact⟨Blk.new _ _ _,(Below.refl _ _).alloc (Nat.le_refl _) _⟩);have HT1:Hid (UT w1):=hid (UT.stays _ _ HTW.out (by rw[<-hw1];exact(Below.refl _ _).alloc (Nat.le_refl _) _));have HGB:=hid hgb;(try rw[hw1]);(try rw[hgb]);clear hw1 hgb;go_wp2_with fail;refine(HIX.out _).mono ?_;rintro e w' ⟨rfl,hw'⟩;rw[hw'];clear hw';have p0:∀j,w1.frozen? ⟨gb,j,none⟩=false:=HB1.out.1.frozen;obtain⟨q0,q1,q2⟩:=cells3 HB1.out.1;go_wp2_with fail;have hb3:=((HB1.out.1.set_ 0 (.bool false)).set_ 1 (.slice none 0 0)).set_ 2 (.int .i64 0);have e0:=hb3.cell 0;have e1:=hb3.cell 1;have e2:=hb3.cell 2;refine bodyPost_ret (v:=.tuple #[.agg #[.bool false,.slice none 0 0,.int .i64 0],.bool false]) (by rw[results_cell_tmp rfl];go_simp) rfl ?_;rw[HF.out];unfold zbi;rw[HGB.out];exact⟨zeroD,_,rfl,zds _,fun y h=>(by cases h),((HB1.out.2.setCell (p:=⟨gb,0,none⟩) (by simp) _).setCell (p:=⟨gb,1,none⟩) (by simp) _).setCell (p:=⟨gb,2,none⟩) (by simp) _⟩
 |cons c0 r=>
  obtain⟨a,ha⟩:=ex (s.takeWhile (fun c=>c != 101))
  have hc0:c0=101:=by
   have:=List.head?_dropWhile_not (fun c:UInt8=>c != 101) s;rw[hdw]at this;simpa using this
  have hs:s=a++101::r:=by
   have h:=List.takeWhile_append_dropWhile (p:=fun c:UInt8=>c != 101) (l:=s);rw[ha,hdw,hc0]at h;exact h.symm
  have hix:Lib.indexByte (⟨s.toArray⟩:ByteArray).data.toList (101:Int).toNat.toUInt8=(a.length:Int):=by
   have:=zhz s 101;rw[hdw,if_neg (by simp),ha]at this;exact this
  have hlen:s.length=a.length+(r.length+1):=by rw[hs];simp
  have HIX:=hid (fun W=>strings_IndexByte ⟨s.toArray⟩ 101 W);rw[hix]at HIX;have HRP:Hid (readP s=if intB a=false\/5<r.length then none else match Lib.atoi r with|none=>none|some e=>(if lim (norm (a.head? ==some 45) (vals (intS a)) e)=0/\Gr.text (norm (a.head? ==some 45) (vals (intS a)) e)=s then some (norm (a.head? ==some 45) (vals (intS a)) e)else none)):=hid (by rw[zh0,hdw,ha]);have hhi:=fun W=>zqd s a.length a.length rfl (by omega) W
  rw[show s.take a.length=a from by rw[hs];simp]at hhi;have HLO:=hid (fun W=>zs6 s (a.length+1) (a.length+1) (by omega) (by omega) W);rw[show s.drop (a.length+1)=r from by rw[hs,<-List.drop_drop];simp]at HLO;have hal:a.length<=1073741823:=by omega
  have hrl:r.length<=1073741823:=by omega
  have hsI:(s.length:Int)=(a.length:Int)+((r.length:Int)+1):=by omega
  have HSI:=hid hsI;have HS:=hid hs;clear hdw ha hc0 hs hix hlen hsI;have HV:=hid (fun W=>zdj a hal W);cases hib:intB a with
  |false=>
   rw[hib]at HV HRP;have HF:Hid (readP s=none):=hid (by rw[HRP.out,if_pos (.inl rfl)]);clear hib;go_enter func89,ntmps89;go_upto_region 1 with fail;obtain⟨w1,hw1⟩:=ex (w.alloc (.cells #[.bool false,.slice none 0 0,.int .i64 0] 125))
   obtain⟨gb,hgb⟩:=ex w.heap.size
   have HB1:Hid (Blk w1 gb 125 #[.bool false,.slice none 0 0,.int .i64 0]/\Below gb w w1):=hid (by rw[<-hw1,<-hgb];exact⟨Blk.new _ _ _,(Below.refl _ _).alloc (Nat.le_refl _) _⟩);have HT1:Hid (UT w1):=hid (UT.stays _ _ HTW.out (by rw[<-hw1];exact(Below.refl _ _).alloc (Nat.le_refl _) _));have HGB:=hid hgb;(try rw[hw1]);(try rw[hgb]);clear hw1 hgb;go_wp2_with fail;refine(HIX.out _).mono ?_;rintro e w' ⟨rfl,hw'⟩;rw[hw'];clear hw';go_wp2_with fail;refine(HV.out _).mono ?_;rintro e w2 ⟨rfl,hb2⟩;have HB2:Hid (Blk w2 gb 125 #[.bool false,.slice none 0 0,.int .i64 0]/\Below gb w w2):=hid ⟨HB1.out.1.below hb2 HB1.out.1.lt,HB1.out.2.trans (hb2.mono (Nat.le_of_lt HB1.out.1.lt))⟩;have HT2:Hid (UT w2):=hid (UT.stays _ _ HT1.out hb2);clear hb2;have p0:∀j,w2.frozen? ⟨gb,j,none⟩=false:=HB2.out.1.frozen;obtain⟨q0,q1,q2⟩:=cells3 HB2.out.1;go_wp2_with fail;have hb3:=((HB2.out.1.set_ 0 (.bool false)).set_ 1 (.slice none 0 0)).set_ 2 (.int .i64 0);have e0:=hb3.cell 0;have e1:=hb3.cell 1;have e2:=hb3.cell 2;refine bodyPost_ret (v:=.tuple #[.agg #[.bool false,.slice none 0 0,.int .i64 0],.bool false]) (by rw[results_cell_tmp rfl];go_simp) rfl ?_;rw[HF.out];unfold zbi;rw[HGB.out];exact⟨zeroD,_,rfl,zds _,fun y h=>(by cases h),((HB2.out.2.setCell (p:=⟨gb,0,none⟩) (by simp) _).setCell (p:=⟨gb,1,none⟩) (by simp) _).setCell (p:=⟨gb,2,none⟩) (by simp) _⟩
  |true=>
   rw[hib]at HV HRP;have HIB:=hid hib;clear hib;have hsI2:(s.length:Int)-(a.length:Int)=(r.length:Int)+1:=by have:=HSI.out;omega
   by_cases h5:5<r.length
   ·have HF:Hid (readP s=none):=hid (by rw[HRP.out,if_pos (.inr h5)]);have h6:(6:Int)<(s.length:Int)-(a.length:Int):=by omega
    clear hsI2;go_enter func89,ntmps89;go_upto_region 1 with fail;obtain⟨w1,hw1⟩:=ex (w.alloc (.cells #[.bool false,.slice none 0 0,.int .i64 0] 125))
    obtain⟨gb,hgb⟩:=ex w.heap.size
    have HB1:Hid (Blk w1 gb 125 #[.bool false,.slice none 0 0,.int .i64 0]/\Below gb w w1):=hid (by rw[<-hw1,<-hgb];exact⟨Blk.new _ _ _,(Below.refl _ _).alloc (Nat.le_refl _) _⟩);have HT1:Hid (UT w1):=hid (UT.stays _ _ HTW.out (by rw[<-hw1];exact(Below.refl _ _).alloc (Nat.le_refl _) _));have HGB:=hid hgb;(try rw[hw1]);(try rw[hgb]);clear hw1 hgb;go_wp2_with fail;refine(HIX.out _).mono ?_;rintro e w' ⟨rfl,hw'⟩;rw[hw'];clear hw';go_wp2_with fail;refine(HV.out _).mono ?_;rintro e w2 ⟨rfl,hb2⟩;have HB2:Hid (Blk w2 gb 125 #[.bool false,.slice none 0 0,.int .i64 0]/\Below gb w w2):=hid ⟨HB1.out.1.below hb2 HB1.out.1.lt,HB1.out.2.trans (hb2.mono (Nat.le_of_lt HB1.out.1.lt))⟩;have HT2:Hid (UT w2):=hid (UT.stays _ _ HT1.out hb2);clear hb2;have p0:∀j,w2.frozen? ⟨gb,j,none⟩=false:=HB2.out.1.frozen;obtain⟨q0,q1,q2⟩:=cells3 HB2.out.1;go_wp2_with fail;have hb3:=((HB2.out.1.set_ 0 (.bool false)).set_ 1 (.slice none 0 0)).set_ 2 (.int .i64 0);have e0:=hb3.cell 0;have e1:=hb3.cell 1;have e2:=hb3.cell 2;refine bodyPost_ret (v:=.tuple #[.agg #[.bool false,.slice none 0 0,.int .i64 0],.bool false]) (by rw[results_cell_tmp rfl];go_simp) rfl ?_;rw[HF.out];unfold zbi;rw[HGB.out];exact⟨zeroD,_,rfl,zds _,fun y h=>(by cases h),((HB2.out.2.setCell (p:=⟨gb,0,none⟩) (by simp) _).setCell (p:=⟨gb,1,none⟩) (by simp) _).setCell (p:=⟨gb,2,none⟩) (by simp) _⟩
   ·have h6:¬(6:Int)<(s.length:Int)-(a.length:Int):=by omega
    clear hsI2;cases hat:Lib.atoi r with
    |none=>
     have HF:Hid (readP s=none):=hid (by
      rw[HRP.out,if_neg (by rintro(h|h);cases h;exact h5 h),hat])
     have hall:Lib.atoiAll (⟨r.toArray⟩:ByteArray).data.toList=badI:=by
      show Lib.atoiAll r=_;rw[Lib.atoiAll_short r (by omega),hat];rfl
     have HAT:=hid (fun ev W=>strconv_Atoi_syntax ⟨r.toArray⟩ (by show r.toArray.size<=_;simp;omega) hall ev W);have hlo:=HLO.out;clear hall hat;go_enter func89,ntmps89;go_upto_region 1 with fail;obtain⟨w1,hw1⟩:=ex (w.alloc (.cells #[.bool false,.slice none 0 0,.int .i64 0] 125))
     obtain⟨gb,hgb⟩:=ex w.heap.size
     have HB1:Hid (Blk w1 gb 125 #[.bool false,.slice none 0 0,.int .i64 0]/\Below gb w w1):=hid (by rw[<-hw1,<-hgb];exact⟨Blk.new _ _ _,(Below.refl _ _).alloc (Nat.le_refl _) _⟩);have HT1:Hid (UT w1):=hid (UT.stays _ _ HTW.out (by rw[<-hw1];exact(Below.refl _ _).alloc (Nat.le_refl _) _));have HGB:=hid hgb;(try rw[hw1]);(try rw[hgb]);clear hw1 hgb;go_wp2_with fail;refine(HIX.out _).mono ?_;rintro e w' ⟨rfl,hw'⟩;rw[hw'];clear hw';go_wp2_with fail;refine(HV.out _).mono ?_;rintro e w2 ⟨rfl,hb2⟩;have HB2:Hid (Blk w2 gb 125 #[.bool false,.slice none 0 0,.int .i64 0]/\Below gb w w2):=hid ⟨HB1.out.1.below hb2 HB1.out.1.lt,HB1.out.2.trans (hb2.mono (Nat.le_of_lt HB1.out.1.lt))⟩;have HT2:Hid (UT w2):=hid (UT.stays _ _ HT1.out hb2);clear hb2;obtain⟨te,pe,hes⟩:=HT2.out.es;have HAT2:=hid (HAT.out _ w2 hes (.inr ⟨te,pe,rfl⟩));clear hes;go_wp2_with fail;refine HAT2.out.mono ?_;rintro e w3 ⟨N,rfl,_,_,hb3⟩;have HB3:Hid (Blk w3 gb 125 #[.bool false,.slice none 0 0,.int .i64 0]/\Below gb w w3):=hid ⟨HB2.out.1.below hb3 HB2.out.1.lt,HB2.out.2.trans (hb3.mono (Nat.le_of_lt HB2.out.1.lt))⟩;clear hb3;have p0:∀j,w3.frozen? ⟨gb,j,none⟩=false:=HB3.out.1.frozen;obtain⟨q0,q1,q2⟩:=cells3 HB3.out.1;go_wp2_with fail;have hb3:=((HB3.out.1.set_ 0 (.bool false)).set_ 1 (.slice none 0 0)).set_ 2 (.int .i64 0);have e0:=hb3.cell 0;have e1:=hb3.cell 1;have e2:=hb3.cell 2;refine bodyPost_ret (v:=.tuple #[.agg #[.bool false,.slice none 0 0,.int .i64 0],.bool false]) (by rw[results_cell_tmp rfl];go_simp) rfl ?_;rw[HF.out];unfold zbi;rw[HGB.out];exact⟨zeroD,_,rfl,zds _,fun y h=>(by cases h),((HB3.out.2.setCell (p:=⟨gb,0,none⟩) (by simp) _).setCell (p:=⟨gb,1,none⟩) (by simp) _).setCell (p:=⟨gb,2,none⟩) (by simp) _⟩
    |some E=>
     have hall:Lib.atoiAll (⟨r.toArray⟩:ByteArray).data.toList=.ok E:=by
      show Lib.atoiAll r=_;rw[Lib.atoiAll_short r (by omega),hat];rfl
     have hEb:=Lib.atoi_bound hat (by omega);have HAT:=hid (fun W=>strconv_Atoi_ok ⟨r.toArray⟩ (by show r.toArray.size<=_;simp;omega) E hall W);have HX:Hid (readP s=(if lim (norm (a.head? ==some 45) (vals (intS a)) E)=0/\Gr.text (norm (a.head? ==some 45) (vals (intS a)) E)=s then some (norm (a.head? ==some 45) (vals (intS a)) E)else none)):=hid (by
      rw[HRP.out,if_neg (by rintro(h|h);cases h;exact h5 h),hat])
     have hlo:=HLO.out;have htp:=fun W=>strings_TrimPrefix ⟨a.toArray⟩ ⟨#[45]⟩ W
     rw[show Lib.trimPrefix (⟨a.toArray⟩:ByteArray).data.toList (⟨#[45]⟩:ByteArray).data.toList=intS a from zml HIB.out]at htp;have HTP:=hid htp;have hE0:-1000000000000000000<E:=hEb.1;have hE1:E<1000000000000000000:=hEb.2;clear hall hat htp hEb;go_enter func89,ntmps89;go_upto_region 1 with fail;obtain⟨w1,hw1⟩:=ex (w.alloc (.cells #[.bool false,.slice none 0 0,.int .i64 0] 125))
     obtain⟨gb,hgb⟩:=ex w.heap.size
     have HB1:Hid (Blk w1 gb 125 #[.bool false,.slice none 0 0,.int .i64 0]/\Below gb w w1):=hid (by rw[<-hw1,<-hgb];exact⟨Blk.new _ _ _,(Below.refl _ _).alloc (Nat.le_refl _) _⟩);have HT1:Hid (UT w1):=hid (UT.stays _ _ HTW.out (by rw[<-hw1];exact(Below.refl _ _).alloc (Nat.le_refl _) _));have HGB:=hid hgb;(try rw[hw1]);(try rw[hgb]);clear hw1 hgb;go_wp2_with fail;refine(HIX.out _).mono ?_;rintro e w' ⟨rfl,hw'⟩;rw[hw'];clear hw';go_wp2_with fail;refine(HV.out _).mono ?_;rintro e w2 ⟨rfl,hb2⟩;have HB2:Hid (Blk w2 gb 125 #[.bool false,.slice none 0 0,.int .i64 0]/\Below gb w w2):=hid ⟨HB1.out.1.below hb2 HB1.out.1.lt,HB1.out.2.trans (hb2.mono (Nat.le_of_lt HB1.out.1.lt))⟩;have HT2:Hid (UT w2):=hid (UT.stays _ _ HT1.out hb2);clear hb2;go_wp2_with fail;refine(HAT.out _).mono ?_;rintro e w3 ⟨rfl,hw3⟩;have hb3:Below w2.heap.size w2 w3:=by
      rcases hw3 with rfl|⟨t,rfl⟩
      ·exact Below.refl _ _
      ·exact Lib.bytesWorld_below _ _ _
     have HB3:Hid (Blk w3 gb 125 #[.bool false,.slice none 0 0,.int .i64 0]/\Below gb w w3):=hid ⟨HB2.out.1.below hb3 HB2.out.1.lt,HB2.out.2.trans (hb3.mono (Nat.le_of_lt HB2.out.1.lt))⟩;have HT3:Hid (UT w3):=hid (UT.stays _ _ HT2.out hb3);clear hb3 hw3;go_wp2_with fail;refine(HTP.out _).mono ?_;rintro e w4 ⟨rfl,hw4⟩;rw[hw4];clear hw4 hlo;go_upto_region 8 with fail;have hs0:0<s.length:=by have:=HSI.out;omega
     have h0s:(0:Int)<(s.length:Int):=by omega
     have hane:a≠[]:=by
      intro e;rw[e]at HIB;exact absurd HIB.out (by decide)
     have HNEG:Hid (∀hh,(((((⟨s.toArray⟩:ByteArray)[0]'hh).toNat:Int))==45)=(a.head? ==some 45)):=hid (fun hh=>by
      have hs:=HS.out;obtain⟨c,t,hct⟩:∃c t,a=c::t:=by
       cases a with
       |nil=>exact absurd rfl hane
       |cons c t=>exact⟨c,t,rfl⟩
      have h0:s[0]'hs0=c:=by simp[hs,hct]
      rw[show((⟨s.toArray⟩:ByteArray)[0]'hh)=c from h0,hct,Bool.eq_iff_iff];constructor
      ·intro h;have h1:c=45:=UInt8.toNat_inj.1 (by have:=eq_of_beq h;show c.toNat=45;omega);simp[h1]
      ·intro h;have h1:c=45:=by simpa using h
       rw[h1];rfl)
     have hisl:(intS a).length<=1073741823:=by
      have:(intS a).length<=a.length:=by unfold intS;split<;>simp
      omega
     have HBY:=hid (fun W=>zl5 (intS a) hisl (zcv HIB.out) W);have HLV:Hid ((vals (intS a)).length<=1073741823):=hid (by
      simpa[vals]using hisl)
     obtain⟨vs,hvs⟩:=ex (vals (intS a))
     have HVL:Hid (∀v∈vs,v<10):=hid (by rw[<-hvs];exact zcj _ (zcv HIB.out));rw[hvs]at HBY HLV HX;obtain⟨x,hx⟩:=ex (norm (a.head? ==some 45) vs E)
     rw[hx]at HX;have HXX:=hid hx;have HNM:Hid (∀(hh) (g:Nat) (W:World) (B:Nat) (_:B<=W.heap.size) (_:RowAt byteL W B (some ⟨g,0,none⟩) (d8 vs)),Calls prog 110 #[.bool (((((⟨s.toArray⟩:ByteArray)[0]'hh).toNat:Int))==45),.slice (some ⟨g,0,none⟩) vs.length vs.length,.int .i64 E] W (ziv x W)):=hid (fun hh g W B hB hr=>by
      rw[HNEG.out hh,<-HXX.out];exact zos _ _ _ vs E HLV.out (Nat.le_refl _) HVL.out (by omega) (by omega) W B hB hr)
     clear hvs hx hane hisl;go_cut [8] (fun s8 wx=>∃(g8 c':Nat) (A':Option Addr),s8=.pointer (some ⟨g8,0,none⟩)/\Hid (Blk wx g8 125 #[.bool x.neg,.slice A' x.d.length c',.int .i64 x.e]/\NumAt x A' c' wx/\Below w3.heap.size w3 wx/\w3.heap.size<=g8))
     case first=>
      clear HX HXX HTW HT1 HT2 HT3 HB1 HB2 HB3 HIX HV HTP HAT hhi HLO HRP HIB HSI HS HLV HVL HNEG hE0 hE1 h6 h5 hl hal hrl HGB;go_region_with (first
       | (go_at_call 111;(with_reducible refine(HBY.out w3.drew).mono ?_);rintro e w5 ⟨g,rfl,hg5,hk5,hb5⟩)
       | (go_at_call 111;(with_reducible refine(HBY.out (w3.alloc (.cells #[.bool false,.slice none 0 0,.int .i64 0] 125)).drew).mono ?_);rintro e w5 ⟨g,rfl,hg5,hk5,hb5z⟩)
       | (go_at_call 110;revert hb5z;intro hb5z;(with_reducible refine(HNM.out _ _ w5 (g+1) (Nat.succ_le_of_lt hk5.lt) (RowAt.ofBlk hk5 (zam _) (Nat.lt_succ_self _))).mono ?_);rintro e w6 ⟨v,rfl,⟨A',c',rfl,hr6⟩,hb6⟩;obtain⟨kf,k0,k1,k2,kb⟩:=zoz hb5z hb6)
       | (go_at_call 110;(with_reducible refine(HNM.out _ _ (w5.alloc (.cells #[.bool false,.slice none 0 0,.int .i64 0] 125)) (g+1) (Nat.succ_le_of_lt (hk5.alloc _).lt) (RowAt.ofBlk (hk5.alloc _) (zam _) (Nat.lt_succ_self _))).mono ?_);rintro e w6 ⟨v,rfl,⟨A',c',rfl,hr6⟩,hb6⟩;obtain⟨kf,k0,k1,k2,kb⟩:=zgt hb6)
       | (go_at_call 110;(with_reducible refine(HNM.out _ _ w5 (g+1) (Nat.succ_le_of_lt hk5.lt) (RowAt.ofBlk hk5 (zam _) (Nat.lt_succ_self _))).mono ?_);rintro e w6 ⟨v,rfl,⟨A',c',rfl,hr6⟩,hb6⟩))
      all_goals go_wp2_with fail
      all_goals go_meet
      all_goals refine⟨_,c',A',rfl,hid ?_⟩
      all_goals first
       |exact zmk hr6 (ze4 hb5 hb6)
       |exact zmj kb hr6 (Nat.le_refl _) (zhy hb5z hb6)
       |exact zmj kb hr6 (zrl hb5) (zhx hb5 hb6)
     case rest=>
      obtain⟨g8,c',A',rfl,HC8⟩:=hcut;go_upto_region 9 with fail;have HWF:Hid (Gr.Wf x/\x.d.length<=1073741823/\-9223372036854775808<=x.e/\x.e<=9223372036854775807):=hid (by
       have h1:=zfj (a.head? ==some 45) vs E HVL.out;have h2:=zhw (a.head? ==some 45) vs E;have h3:=HLV.out;rw[HXX.out]at h1 h2;exact⟨h1,by omega,by omega,by omega⟩)
      have HTC:Hid (UT wc):=hid (UT.stays _ _ HT3.out HC8.out.2.2.1);have hBC:Blk wc gb 125 #[.bool false,.slice none 0 0,.int .i64 0]:=HB3.out.1.below HC8.out.2.2.1 HB3.out.1.lt;have hLC:Below gb w wc:=HB3.out.2.trans (HC8.out.2.2.1.mono (Nat.le_of_lt HB3.out.1.lt));have hne8:g8≠gb:=by have:=HB3.out.1.lt;have:=HC8.out.2.2.2;omega
      obtain⟨Z,hZ⟩:∃Z:Bool->Array Value,Z=fun b=>cond b #[.bool x.neg,.slice A' x.d.length c',.int .i64 x.e] #[.bool false,.slice none 0 0,.int .i64 0]:=⟨_,rfl⟩
      have HZ0:Hid (Z false=#[.bool false,.slice none 0 0,.int .i64 0]/\Z true=#[.bool x.neg,.slice A' x.d.length c',.int .i64 x.e]):=hid (by rw[hZ];exact⟨rfl,rfl⟩);have HWL:Hid (∀(b:Bool) (W:WL gb 125 wc (Z b)),Below gb w W.w/\UT W.w/\NumAt x A' c' W.w):=hid (fun b W=>by
       have h1:Below gb w W.w:=hLC.trans (W.h.below (Nat.le_refl _) (Nat.le_of_lt hBC.lt));exact⟨h1,UT.stays _ _ HTW.out (by rw[HGB.out];exact h1),HC8.out.2.1.keep (fun k cs hk=>W.h.blk hk (hk.ne_ hBC (by decide)))⟩)
      have HLIM:Hid (∀W,Calls prog 112 #[.agg #[.bool x.neg,.slice A' x.d.length c',.int .i64 x.e]] W (fun e W'=>e=.returned (.int .i64 (lim x:Nat))/\Below W.heap.size W W')):=hid (fun W=>zl8 x A' c' HWF.out.2.1 W);have HTX:Hid (∀(b:Bool) (W:WL gb 125 wc (Z b)),Calls prog 113 #[.agg #[.bool x.neg,.slice A' x.d.length c',.int .i64 x.e]] W.w (fun e W'=>e=.returned (.string ⟨(Gr.text x).toArray⟩)/\Below W.w.heap.size W.w W')):=hid (fun b W=>zl9 x A' c' HWF.out.2.1 HWF.out.1.lt HWF.out.2.2.1 HWF.out.2.2.2 W.w (HWL.out b W).2.1 (HWL.out b W).2.2.row);have HP8:Hid (∀(b:Bool) (W:WL gb 125 wc (Z b)),W.w.cell? ⟨g8,0,none⟩=some (.bool x.neg)/\W.w.cell? ⟨g8,1,none⟩=some (.slice A' x.d.length c')/\W.w.cell? ⟨g8,2,none⟩=some (.int .i64 x.e)):=hid (fun b W=>by
       have h1:=W.h.blk HC8.out.1 hne8;exact⟨h1.cell 0,h1.cell 1,h1.cell 2⟩)
      have hcmp:(Gr.text x==s)=decide (Gr.text x=s):=by rw[Bool.eq_iff_iff];simp
      have HD0:Hid (∃y:WL gb 125 wc (Z false),{wc with drawn:=wc.drawn+1}=y.w):=hid ⟨⟨wc.drew,(KB.refl gb wc).drewN 1,by rw[HZ0.out.1];exact hBC.drew⟩,rfl⟩;have HNE:Hid (∀b,Nonempty (WL gb 125 wc (Z b))):=hid (fun b=>by
       cases b with
       |false=>obtain⟨y,_⟩:=HD0.out;exact⟨y⟩
       |true=>exact⟨⟨((wc.setCell ⟨gb,0,none⟩ (.bool x.neg)).setCell ⟨gb,1,none⟩ (.slice A' x.d.length c')).setCell ⟨gb,2,none⟩ (.int .i64 x.e),(((KB.refl gb wc).set 0 _).set 1 _).set 2 _,by rw[HZ0.out.2];exact((hBC.set_ 0 _).set_ 1 _).set_ 2 _⟩⟩)
      have HSTO:Hid (∀y:WL gb 125 wc (Z false),∃z:WL gb 125 wc (Z true),z.w=((y.w.setCell ⟨gb,0,none⟩ (.bool x.neg)).setCell ⟨gb,1,none⟩ (.slice A' x.d.length c')).setCell ⟨gb,2,none⟩ (.int .i64 x.e)):=hid (fun y=>by
       have h1:Blk y.w gb 125 #[.bool false,.slice none 0 0,.int .i64 0]:=HZ0.out.1▸y.hc;exact⟨⟨_,((y.h.set 0 _).set 1 _).set 2 _,by rw[HZ0.out.2];exact((h1.set_ 0 _).set_ 1 _).set_ 2 _⟩,rfl⟩)
      obtain⟨L,hL⟩:=ex (lim x)
      rw[hL]at HLIM HX;clear hL hZ hBC hLC hne8;obtain⟨Li,hLi⟩:∃Li:Int,(L:Int)=Li:=⟨_,rfl⟩
      rw[hLi]at HLIM;have HLL:=hid hLi;clear hLi;clear HTC HWF HC8 HT3 HB3 HXX HNM HBY HLV HVL HNEG HIX HV HTP HAT hhi HLO HRP HIB HSI HS HT1 HB1 HT2 HB2 HTW hE0 hE1 h0s hs0 h6 h5 hl hal hrl;by_cases hL0:Li=0
      ·subst hL0;obtain rfl:L=0:=by have:=HLL.out;omega
       clear HLL;obtain⟨ct,hct⟩:=ex (decide (Gr.text x=s))
       rw[hct]at hcmp;have HRES:Hid ((readP s).isSome=ct/\∀y,readP s=some y->x=y):=hid (by
        rw[HX.out,<-hct];by_cases h:Gr.text x=s
        ·rw[if_pos ⟨rfl,h⟩];exact⟨by simp[h],fun y hy=>by injection hy⟩
        ·rw[if_neg (fun e=>h e.2)];exact⟨by simp[h],fun y hy=>by cases hy⟩)
       clear hct HX;refine zaz (aF:=?aF) 10 (by kernel_rfl) _ rfl rfl rfl rfl rfl (by kernel_rfl) (by kernel_rfl) (by kernel_rfl) (by kernel_rfl) (by kernel_rfl) (fun b W=>∃y:WL gb 125 wc (Z b),W=y.w) HD0.out (fun b=>?h1) ?h2 ?h3
       case h1=>
        have p0:=fun W=>(HP8.out b W).1
        have p1:=fun W=>(HP8.out b W).2.1
        have p2:=fun W=>(HP8.out b W).2.2
        have hne:=HNE.out b;simp only[List.set_cons_succ,List.set_cons_zero,nopOf,List.getElem_toArray,List.getElem_cons_succ,List.getElem_cons_zero]
        repeat (go_big_quiet_step ((first| (with_reducible refine Calls.late (HLIM.out _))| (with_reducible refine Calls.late (HTX.out _ _)))))
        refine wpQuiet_nil ?_;rfl
       case h2=>
        rintro _ ⟨y,rfl⟩;obtain⟨z,hz⟩:=HSTO.out y;have hyc:Blk y.w gb 125 #[.bool false,.slice none 0 0,.int .i64 0]:=HZ0.out.1▸y.hc;have f0:∀j,y.w.frozen? ⟨gb,j,none⟩=false:=hyc.frozen;obtain⟨c0,c1,c2⟩:=cells3 hyc;refine⟨z.w,?_,z,rfl⟩;rw[hz];simp only[List.getElem_toArray,List.getElem_cons_succ,List.getElem_cons_zero];go_simp
       case h3=>
        rintro _ ⟨y,rfl⟩;have hyc:Blk y.w gb 125 #[.bool x.neg,.slice A' x.d.length c',.int .i64 x.e]:=HZ0.out.2▸y.hc;have e0:=hyc.cell 0;have e1:=hyc.cell 1;have e2:=hyc.cell 2;go_wp2_with fail;refine bodyPost_ret (v:=.tuple #[.agg #[.bool x.neg,.slice A' x.d.length c',.int .i64 x.e],.bool ct]) (by rw[results_cell_tmp rfl];go_simp) rfl ?_;unfold zbi;rw[HGB.out,HRES.out.1];exact⟨x,_,rfl,⟨A',c',rfl,(HWL.out true y).2.2⟩,HRES.out.2,(HWL.out true y).1⟩
      ·have hz0:(Li==0)=false:=by simpa using hL0
       obtain⟨ct,hct⟩:=ex false
       have HRES:Hid ((readP s).isSome=ct/\∀y,readP s=some y->x=y):=hid (by
        rw[HX.out,if_neg (fun e=>hL0 (by have:=HLL.out;omega))];exact⟨hct,fun y hy=>by cases hy⟩)
       subst hct;clear HLL HX hcmp;refine zaz (aF:=?aF2) 10 (by kernel_rfl) _ rfl rfl rfl rfl rfl (by kernel_rfl) (by kernel_rfl) (by kernel_rfl) (by kernel_rfl) (by kernel_rfl) (fun b W=>∃y:WL gb 125 wc (Z b),W=y.w) HD0.out (fun b=>?h1) ?h2 ?h3
       case h1=>
        have p0:=fun W=>(HP8.out b W).1
        have p1:=fun W=>(HP8.out b W).2.1
        have p2:=fun W=>(HP8.out b W).2.2
        have hne:=HNE.out b;simp only[List.set_cons_succ,List.set_cons_zero,nopOf,List.getElem_toArray,List.getElem_cons_succ,List.getElem_cons_zero]
        repeat (go_big_quiet_step ((first| (with_reducible refine Calls.late (HLIM.out _))| (with_reducible refine Calls.late (HTX.out _ _)))))
        refine wpQuiet_nil ?_;rfl
       case h2=>
        rintro _ ⟨y,rfl⟩;obtain⟨z,hz⟩:=HSTO.out y;have hyc:Blk y.w gb 125 #[.bool false,.slice none 0 0,.int .i64 0]:=HZ0.out.1▸y.hc;have f0:∀j,y.w.frozen? ⟨gb,j,none⟩=false:=hyc.frozen;obtain⟨c0,c1,c2⟩:=cells3 hyc;refine⟨z.w,?_,z,rfl⟩;rw[hz];simp only[List.getElem_toArray,List.getElem_cons_succ,List.getElem_cons_zero];go_simp
       case h3=>
        rintro _ ⟨y,rfl⟩;have hyc:Blk y.w gb 125 #[.bool x.neg,.slice A' x.d.length c',.int .i64 x.e]:=HZ0.out.2▸y.hc;have e0:=hyc.cell 0;have e1:=hyc.cell 1;have e2:=hyc.cell 2;go_wp2_with fail;refine bodyPost_ret (v:=.tuple #[.agg #[.bool x.neg,.slice A' x.d.length c',.int .i64 x.e],.bool false]) (by rw[results_cell_tmp rfl];go_simp) rfl ?_;unfold zbi;rw[HGB.out,HRES.out.1];exact⟨x,_,rfl,⟨A',c',rfl,(HWL.out true y).2.2⟩,HRES.out.2,(HWL.out true y).1⟩
 end Go.Proofs.YtoigpackhninoaaGreatDoor
