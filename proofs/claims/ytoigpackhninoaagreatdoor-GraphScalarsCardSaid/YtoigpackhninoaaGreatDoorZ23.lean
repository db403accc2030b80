/- Walks: the closures of instant.read: a number, fields. Walks: the reference's InRange of moments. -/
import Derived.Test.YtoigpackhninoaaGreatDoorZ19
import Derived.Test.YtoigpackhninoaaGreatDoorZ02
import Derived.IntWalk
namespace Go.Proofs.YtoigpackhninoaaGreatDoor
set_option maxRecDepth 100000
set_option maxHeartbeats 16000000
open Go.RowKit
def Num1Post (s:Gr.Str) (a n ab:Nat) (w:World) (e:Ending) (w':World):Prop:=Kept1 ab w w'/\((∃v:Nat,Gr.numAt s a n=some v/\e=.returned (.tuple #[.int .i64 (v:Int),.bool true])/\Blk w' ab 3 #[.int .i64 ((a+n:Nat):Int)])\/(Gr.numAt s a n=none/\e=.returned (.tuple #[.int .i64 0,.bool false])/\∃a':Nat,a'<=s.length/\Blk w' ab 3 #[.int .i64 (a':Int)]))
theorem num1_any (s:Gr.Str) (hl:s.length<=1073741823) (ab sb a n:Nat) (j:Int) (hj:j=(n:Int)) (hn:n<=9) (ha:a<=s.length) (w:World) (hA:Blk w ab 3 #[.int .i64 (a:Int)]) (hS:Blk w sb 9 #[.string ⟨s.toArray⟩]):
 Calls Tryz.prog 124 #[.int .i64 j,.pointer (some ⟨ab,0,none⟩),.pointer (some ⟨sb,0,none⟩)] w (Num1Post s a n ab w):=by
 subst hj;have hne:sb≠ab:=by
  intro e;subst e;have:=hA.symm.trans hS;simp at this
 have HA:=Lib.hid hA;have HS:=Lib.hid hS;clear hA hS;go_enter Tryz.func124,Tryz.ntmps124;go_wp2_with fail;go_loopw [6,8] (fun s6 s8 wr=>∃k v:Nat,k<=n/\v<=999999999/\a+k<=s.length/\s6=.int .i64 (v:Int)/\s8=.int .i64 (k:Int)/\Hid (((s.drop a).take k).all Gr.dig=true/\v=Gr.val ((s.drop a).take k)/\Blk wr ab 3 #[.int .i64 ((a+k:Nat):Int)]/\Kept1 ab w wr)) (fun _ s8 _=>n-(intOf s8).toNat)
 case atStart=>exact⟨0,0,by omega,by omega,by omega,rfl,rfl,Lib.hid ⟨by simp,by simp[Gr.val],HA.out,Kept1.refl _ _⟩⟩
 case round=>
  obtain⟨k,v,hk,hv,hak,rfl,rfl,HV⟩:=hrel;have qA:wr.cell? ⟨ab,0,none⟩=some (.int .i64 ((a+k:Nat):Int)):=HV.out.2.2.1.cell 0;have qF:∀j,wr.frozen? ⟨ab,j,none⟩=false:=HV.out.2.2.1.frozen;have qS:wr.cell? ⟨sb,0,none⟩=some (.string ⟨s.toArray⟩):=(HV.out.2.2.2.blk HS.out hne).cell 0;by_cases hlt:k<n
  ·have hltI:(k:Int)<(n:Int):=by omega
   by_cases hltS:a+k<s.length
   ·have hlI:¬(s.length:Int)<=((a+k:Nat):Int):=by omega
    obtain⟨b,hb⟩:∃b:Nat,(s[a+k]'hltS).toNat=b:=⟨_,rfl⟩
    have hbv:(((⟨s.toArray⟩:ByteArray)[a+k]'(by simpa[ByteArray.size]using hltS)).toNat:Int)=(b:Int):=by rw[<-hb];rfl
    have hbl:b<256:=by rw[<-hb];exact(s[a+k]'hltS).toNat_lt
    have HBD:=Lib.hid (dig_nat (s[a+k]'hltS) b hb);clear hb;by_cases h48:48<=b
    ·have a48:¬(b:Int)<48:=by omega
     have b48:(48:Int)<=(b:Int):=by omega
     by_cases h57:b<=57
     ·have a57:¬(57:Int)<(b:Int):=by omega
      have HT:=Lib.hid (take_next s a k hltS);have HNX:Hid (((s.drop a).take (k+1)).all Gr.dig=true/\10*v+(b-48)=Gr.val ((s.drop a).take (k+1))):=Lib.hid (by
       rw[HT.out,List.all_append,HV.out.1,Gr.val_snoc,<-HV.out.2.1,HBD.out.2];exact⟨by simp[HBD.out.1,h48,h57],rfl⟩)
      have hvn:10*v+(b-48)<=999999999:=by
       rw[HNX.out.2];have:=val_bd _ HNX.out.1 (by simp;omega);omega
      have HN2:Hid (Blk (wr.setCell ⟨ab,0,none⟩ (.int .i64 (((a+k:Nat):Int)+1))) ab 3 #[.int .i64 ((a+(k+1):Nat):Int)]/\Kept1 ab w (wr.setCell ⟨ab,0,none⟩ (.int .i64 (((a+k:Nat):Int)+1)))):=Lib.hid ⟨by rw[show((a+(k+1):Nat):Int)=((a+k:Nat):Int)+1 from by omega];exact HV.out.2.2.1.set_ 0 _,HV.out.2.2.2.trans (Kept1.set 0 _)⟩;go_wp2_with fail;go_roundw
      case rel=>exact⟨k+1,10*v+(b-48),by omega,hvn,by omega,by exact congrArg (Value.int .i64) (by omega),by go_num,Lib.hid ⟨HNX.out.1,HNX.out.2,HN2.out.1,HN2.out.2⟩⟩
      case measure=>simp[intOf];omega
     ·have a57:(57:Int)<(b:Int):=by omega
      have HF:=Lib.hid (numAt_no s a n k hlt hltS (by rw[HBD.out.1];simp[h57]));go_wp2_with fail;go_ret2;exact⟨HV.out.2.2.2,.inr ⟨HF.out,rfl,a+k,by omega,HV.out.2.2.1⟩⟩
    ·have a48:(b:Int)<48:=by omega
     have HF:=Lib.hid (numAt_no s a n k hlt hltS (by rw[HBD.out.1];simp[h48]));go_wp2_with fail;go_ret2;exact⟨HV.out.2.2.2,.inr ⟨HF.out,rfl,a+k,by omega,HV.out.2.2.1⟩⟩
   ·have hlI:(s.length:Int)<=((a+k:Nat):Int):=by omega
    have HF:=Lib.hid (numAt_short s a n (by omega));go_wp2_with fail;go_ret2;exact⟨HV.out.2.2.2,.inr ⟨HF.out,rfl,a+k,by omega,HV.out.2.2.1⟩⟩
  ·obtain rfl:k=n:=by omega
   have hltI:¬(k:Int)<(k:Int):=by omega
   have HF:Hid (Gr.numAt s a k=some v):=Lib.hid (by rw[numAt_all s a k (by omega) HV.out.1,HV.out.2.1]);clear hlt;go_wp2_with fail;go_ret2;exact⟨HV.out.2.2.2,.inl ⟨v,HF.out,rfl,HV.out.2.2.1⟩⟩
end Go.Proofs.YtoigpackhninoaaGreatDoor
namespace Go.Proofs.YtoigpackhninoaaGreatDoor
set_option maxRecDepth 100000
set_option maxHeartbeats 16000000
open Go.RowKit
def rngB (date:Bool) (y m d h mi c:Int) (late:Bool):Bool:=(!date || (decide (1<=m) && decide (m<=12) && decide (1<=d) && decide (d<=Cal.dim y m))) && !late && decide (h<=23) && decide (mi<=59) && decide (c<=59)
theorem rinrange_any (date time zone:Bool) (y m d h mi c nanos off:Int) (late:Bool) (w:World):
 Calls Tryz.prog 104 #[.agg #[.bool date,.bool time,.bool zone,.int .i64 y,.int .i64 m,.int .i64 d,.int .i64 h,.int .i64 mi,.int .i64 c,.int .i64 nanos,.int .i64 off,.bool late]] w fun e w'=>e=.returned (.bool (rngB date y m d h mi c late))/\Below w.heap.size w w':=by
 have hc:date=false\/(date=true/\m<1)\/(date=true/\¬m<1/\12<m)\/(date=true/\¬m<1/\¬12<m/\d<1)\/(date=true/\¬m<1/\¬12<m/\¬d<1/\Cal.dim y m<d)\/(date=true/\¬m<1/\¬12<m/\¬d<1/\¬Cal.dim y m<d):=by
  cases date<;>simp<;>omega
 obtain⟨q,hq⟩:∃q,Cal.dim y m=q:=⟨_,rfl⟩
 have HQ:=Lib.hid hq;rw[hq]at hc;clear hq;have HMO:Hid (1<=m->m<=12->∀W,Calls Tryz.prog 138 #[.int .i64 y,.int .i64 m] W fun e w'=>e=.returned (.int .i64 q)/\W=w'):=Lib.hid (fun h1 h2 W=>by rw[<-HQ.out];exact rmonth_any y m h1 h2 W);obtain⟨r,hr⟩:∃r,rngB date y m d h mi c late=r:=⟨_,rfl⟩
 have HR:=Lib.hid hr;rw[hr];clear hr;rcases hc with rfl|⟨rfl,h1⟩|⟨rfl,h1,h2⟩|⟨rfl,h1,h2,h3⟩|⟨rfl,h1,h2,h3,h4⟩|⟨rfl,h1,h2,h3,h4⟩
 ·have HLM:Hid (∀W,1<=m->m<=12->Calls Tryz.prog 138 #[.int .i64 y,.int .i64 m] W fun e w'=>e=.returned (.int .i64 q)/\W=w'):=Lib.hid (fun W a b=>HMO.out a b W);go_enter Tryz.func104,Tryz.ntmps104;go_upto_region 1 with fail;obtain⟨gb,hgb⟩:∃gb,w.heap.size=gb:=⟨_,rfl⟩
  obtain⟨w0,hw0⟩:∃w0,w0=w.alloc (.cells #[.bool false,.bool time,.bool zone,.int .i64 y,.int .i64 m,.int .i64 d,.int .i64 h,.int .i64 mi,.int .i64 c,.int .i64 nanos,.int .i64 off,.bool late] 111):=⟨_,rfl⟩
  have HB0:Hid (Blk w0 gb 111 (T12 false time zone y m d h mi c nanos off late)/\Below gb w w0):=Lib.hid (by rw[hw0,<-hgb];exact⟨Blk.new _ _ _,(Below.refl _ _).alloc (Nat.le_refl _) _⟩);have HGB:=Lib.hid hgb;(try rw[<-hw0]);(try rw[hgb]);clear hw0 hgb;have p0:∀W:WB w0.heap.size w0,W.w.cell? ⟨gb,0,none⟩=some (.bool false):=fun W=>(W.h.cell (p:=⟨gb,0,none⟩) HB0.out.1.lt).trans (HB0.out.1.cell 0)
  have p3:∀W:WB w0.heap.size w0,W.w.cell? ⟨gb,3,none⟩=some (.int .i64 y):=fun W=>(W.h.cell (p:=⟨gb,3,none⟩) HB0.out.1.lt).trans (HB0.out.1.cell 3)
  have p4:∀W:WB w0.heap.size w0,W.w.cell? ⟨gb,4,none⟩=some (.int .i64 m):=fun W=>(W.h.cell (p:=⟨gb,4,none⟩) HB0.out.1.lt).trans (HB0.out.1.cell 4)
  have p5:∀W:WB w0.heap.size w0,W.w.cell? ⟨gb,5,none⟩=some (.int .i64 d):=fun W=>(W.h.cell (p:=⟨gb,5,none⟩) HB0.out.1.lt).trans (HB0.out.1.cell 5)
  refine wp_region_grow w0.heap.size w0 (by kernel_rfl) (by kernel_rfl) (Below.refl _ _) ?_
  iterate 27 (try go_big_quiet_step ((with_reducible refine Calls.grow ((HLM.out _ (by omega) (by omega)).mono (fun _ _ ⟨e1,e2⟩=>⟨e1,e2▸WB.h _⟩)))))
  refine wpQuiet_nil ?_;rintro _ ⟨wz,rfl⟩;clear p0 p3 p4 p5;have hbz:=HB0.out.1.below wz.h HB0.out.1.lt;have q6:wz.w.cell? ⟨gb,6,none⟩=some (.int .i64 h):=hbz.cell 6;have q7:wz.w.cell? ⟨gb,7,none⟩=some (.int .i64 mi):=hbz.cell 7;have q8:wz.w.cell? ⟨gb,8,none⟩=some (.int .i64 c):=hbz.cell 8;have q11:wz.w.cell? ⟨gb,11,none⟩=some (.bool late):=hbz.cell 11;clear hbz;cases late
  all_goals go_wp2_with fail
  all_goals go_ret
  all_goals
   rw[HGB.out];refine⟨congrArg (fun b=>Ending.returned (.bool b)) ?_,HB0.out.2.trans (wz.h.mono (Nat.le_of_lt HB0.out.1.lt))⟩;rw[<-HR.out];unfold rngB;rw[HQ.out]
   first| (simp[*];done)| (simp;omega)
 all_goals
  have HLM:Hid (∀W,1<=m->m<=12->Calls Tryz.prog 138 #[.int .i64 y,.int .i64 m] W fun e w'=>e=.returned (.int .i64 q)/\W=w'):=Lib.hid (fun W a b=>HMO.out a b W);go_enter Tryz.func104,Tryz.ntmps104;go_upto_region 1 with fail;obtain⟨gb,hgb⟩:∃gb,w.heap.size=gb:=⟨_,rfl⟩
  obtain⟨w0,hw0⟩:∃w0,w0=w.alloc (.cells #[.bool true,.bool time,.bool zone,.int .i64 y,.int .i64 m,.int .i64 d,.int .i64 h,.int .i64 mi,.int .i64 c,.int .i64 nanos,.int .i64 off,.bool late] 111):=⟨_,rfl⟩
  have HB0:Hid (Blk w0 gb 111 (T12 true time zone y m d h mi c nanos off late)/\Below gb w w0):=Lib.hid (by rw[hw0,<-hgb];exact⟨Blk.new _ _ _,(Below.refl _ _).alloc (Nat.le_refl _) _⟩);have HGB:=Lib.hid hgb;(try rw[<-hw0]);(try rw[hgb]);clear hw0 hgb;have p0:∀W:WB w0.heap.size w0,W.w.cell? ⟨gb,0,none⟩=some (.bool true):=fun W=>(W.h.cell (p:=⟨gb,0,none⟩) HB0.out.1.lt).trans (HB0.out.1.cell 0)
  have p3:∀W:WB w0.heap.size w0,W.w.cell? ⟨gb,3,none⟩=some (.int .i64 y):=fun W=>(W.h.cell (p:=⟨gb,3,none⟩) HB0.out.1.lt).trans (HB0.out.1.cell 3)
  have p4:∀W:WB w0.heap.size w0,W.w.cell? ⟨gb,4,none⟩=some (.int .i64 m):=fun W=>(W.h.cell (p:=⟨gb,4,none⟩) HB0.out.1.lt).trans (HB0.out.1.cell 4)
  have p5:∀W:WB w0.heap.size w0,W.w.cell? ⟨gb,5,none⟩=some (.int .i64 d):=fun W=>(W.h.cell (p:=⟨gb,5,none⟩) HB0.out.1.lt).trans (HB0.out.1.cell 5)
  refine wp_region_grow w0.heap.size w0 (by kernel_rfl) (by kernel_rfl) (Below.refl _ _) ?_
  iterate 27 (try go_big_quiet_step ((with_reducible refine Calls.grow ((HLM.out _ (by omega) (by omega)).mono (fun _ _ ⟨e1,e2⟩=>⟨e1,e2▸WB.h _⟩)))))
  refine wpQuiet_nil ?_;rintro _ ⟨wz,rfl⟩;clear p0 p3 p4 p5;have hbz:=HB0.out.1.below wz.h HB0.out.1.lt;have q6:wz.w.cell? ⟨gb,6,none⟩=some (.int .i64 h):=hbz.cell 6;have q7:wz.w.cell? ⟨gb,7,none⟩=some (.int .i64 mi):=hbz.cell 7;have q8:wz.w.cell? ⟨gb,8,none⟩=some (.int .i64 c):=hbz.cell 8;have q11:wz.w.cell? ⟨gb,11,none⟩=some (.bool late):=hbz.cell 11;clear hbz;cases late
  all_goals go_wp2_with fail
  all_goals go_ret
  all_goals
   rw[HGB.out];refine⟨congrArg (fun b=>Ending.returned (.bool b)) ?_,HB0.out.2.trans (wz.h.mono (Nat.le_of_lt HB0.out.1.lt))⟩;rw[<-HR.out];unfold rngB;rw[HQ.out]
   first| (simp[*];done)| (simp;omega)
end Go.Proofs.YtoigpackhninoaaGreatDoor
