import Derived.Shelf.Spec.TrailingZeros
import Derived.Test.YtoigpackhninoaaGreatDoorZ20
import Derived.Test.YtoigpackhninoaaGreatDoorZ03
namespace Go.Proofs.YtoigpackhninoaaGreatDoor
open Go.RowKit
theorem zd3 {w w':World} (hb:Below w.heap.size w w') {a:Addr} {v:Value} (hc:w.cell? a=some v):w'.cell? a=some v:=(hb.cell (World.block_lt_of_cell? w a hc)).trans hc
theorem zoc {P:Program} {n:String} {g:Nat} {k:IntKind} {zs:List Int} {w w':World} (hg:P.globalNamed n=some g) (h:Lib.TabIs P w n k zs) (hb:Below w.heap.size w w'):Lib.TabIs P w' n k zs:=by
 unfold Lib.TabIs World.var? at h ⊢;rw[hg]at h ⊢;simp only[Option.bind_some]at h ⊢;have hlt:g<w.heap.size:=by
  rcases Nat.lt_or_ge g w.heap.size with h'|h'
  ·exact h'
  ·rw[Array.getElem?_eq_none h']at h;cases h
 rw[hb.block g hlt];exact h
def Stays (T:World->Prop):Prop:=∀w w',T w->Below w.heap.size w w'->T w'
structure UT (w:World):Prop where
 utf:Lib.Utf8Tabs 1 2 w
 sz:3<=w.heap.size
 pow:Lib.TabIs Tryz.prog w "internal/strconv.uint64pow10" .u64 Lib.pow10Tab
 bru:TabAt 6 Lib.deBruijn64tab w
 es:∃te p,w.cell? ⟨4,0,none⟩=some (.iface te p)
 er:∃te p,w.cell? ⟨5,0,none⟩=some (.iface te p)
theorem UT.stays:Stays UT:=fun w w' h hb=>by
 refine⟨zc6 h.utf (hb.mono h.sz) (Nat.le_refl _),Nat.le_trans h.sz hb.size,zoc (show Tryz.prog.globalNamed "internal/strconv.uint64pow10" =some 7 by kernel_rfl) h.pow hb,fun j hj=>zd3 hb (h.bru j hj),?_,?_⟩
 ·obtain⟨te,p,h1⟩:=h.es;exact⟨te,p,zd3 hb h1⟩
 ·obtain⟨te,p,h1⟩:=h.er;exact⟨te,p,zd3 hb h1⟩
def tl:Nat->Code->Code
 | 0,c=>c
 |n+1,.seq _ b=>tl n b
 |_+1,c=>c
open _root_.Go.Proofs.Tryz
open _root_.Go.Lib (hid)
set_option maxRecDepth 100000
set_option maxHeartbeats 16000000
def rngB (date:Bool) (y m d h mi c:Int) (late:Bool):Bool:=(!date || (decide (1<=m) && decide (m<=12) && decide (1<=d) && decide (d<=Cal.dim y m))) && !late && decide (h<=23) && decide (mi<=59) && decide (c<=59)
theorem zdk (date time zone:Bool) (y m d h mi c nanos off:Int) (late:Bool) (w:World):
 Calls prog 104 #[.agg #[.bool date,.bool time,.bool zone,.int .i64 y,.int .i64 m,.int .i64 d,.int .i64 h,.int .i64 mi,.int .i64 c,.int .i64 nanos,.int .i64 off,.bool late]] w fun e w'=>e=.returned (.bool (rngB date y m d h mi c late))/\Below w.heap.size w w':=by
 have hc:date=false\/(date=true/\m<1)\/(date=true/\¬m<1/\12<m)\/(date=true/\¬m<1/\¬12<m/\d<1)\/(date=true/\¬m<1/\¬12<m/\¬d<1/\Cal.dim y m<d)\/(date=true/\¬m<1/\¬12<m/\¬d<1/\¬Cal.dim y m<d):=by
  cases date<;>simp<;>omega
 obtain⟨q,hq⟩:=ex (Cal.dim y m)
 have HQ:=hid hq;rw[hq]at hc;clear hq;have HMO:Hid (1<=m->m<=12->∀W,Calls prog 138 #[.int .i64 y,.int .i64 m] W fun e w'=>e=.returned (.int .i64 q)/\W=w'):=hid (fun h1 h2 W=>by rw[<-HQ.out];exact zdc y m h1 h2 W);obtain⟨r,hr⟩:=ex (rngB date y m d h mi c late)
 have HR:=hid hr;rw[hr];clear hr;rcases hc with rfl|⟨rfl,h1⟩|⟨rfl,h1,h2⟩|⟨rfl,h1,h2,h3⟩|⟨rfl,h1,h2,h3,h4⟩|⟨rfl,h1,h2,h3,h4⟩
 ·have HLM:Hid (∀W,1<=m->m<=12->Calls prog 138 #[.int .i64 y,.int .i64 m] W fun e w'=>e=.returned (.int .i64 q)/\W=w'):=hid (fun W a b=>HMO.out a b W);go_enter func104,ntmps104;go_upto_region 1 with fail;obtain⟨gb,hgb⟩:=ex w.heap.size
  obtain⟨w0,hw0⟩:∃w0,w0=w.alloc (.cells #[.bool false,.bool time,.bool zone,.int .i64 y,.int .i64 m,.int .i64 d,.int .i64 h,.int .i64 mi,.int .i64 c,.int .i64 nanos,.int .i64 off,.bool late] 111):=⟨_,rfl⟩
  have HB0:Hid (Blk w0 gb 111 (T12 false time zone y m d h mi c nanos off late)/\Below gb w w0):=hid (by rw[hw0,<-hgb];exact⟨Blk.new _ _ _,(Below.refl _ _).alloc (Nat.le_refl _) _⟩);have HGB:=hid hgb;(try rw[<-hw0]);(try rw[hgb]);clear hw0 hgb;have p0:∀W:WB w0.heap.size w0,W.w.cell? ⟨gb,0,none⟩=some (.bool false):=fun W=>(W.h.cell (p:=⟨gb,0,none⟩) HB0.out.1.lt).trans (HB0.out.1.cell 0)
  have p3:∀W:WB w0.heap.size w0,W.w.cell? ⟨gb,3,none⟩=some (.int .i64 y):=fun W=>(W.h.cell (p:=⟨gb,3,none⟩) HB0.out.1.lt).trans (HB0.out.1.cell 3)
  have p4:∀W:WB w0.heap.size w0,W.w.cell? ⟨gb,4,none⟩=some (.int .i64 m):=fun W=>(W.h.cell (p:=⟨gb,4,none⟩) HB0.out.1.lt).trans (HB0.out.1.cell 4)
  have p5:∀W:WB w0.heap.size w0,W.w.cell? ⟨gb,5,none⟩=some (.int .i64 d):=fun W=>(W.h.cell (p:=⟨gb,5,none⟩) HB0.out.1.lt).trans (HB0.out.1.cell 5)
  refine zaa w0.heap.size w0 (by kernel_rfl) (by kernel_rfl) (Below.refl _ _) ?_
  iterate 27 (try go_big_quiet_step ((with_reducible refine Calls.grow ((HLM.out _ (by omega) (by omega)).mono (fun _ _ ⟨e1,e2⟩=>⟨e1,e2▸WB.h _⟩)))))
  refine wpQuiet_nil ?_;rintro _ ⟨wz,rfl⟩;clear p0 p3 p4 p5;have hbz:=HB0.out.1.below wz.h HB0.out.1.lt;have q6:wz.w.cell? ⟨gb,6,none⟩=some (.int .i64 h):=hbz.cell 6;have q7:wz.w.cell? ⟨gb,7,none⟩=some (.int .i64 mi):=hbz.cell 7;have q8:wz.w.cell? ⟨gb,8,none⟩=some (.int .i64 c):=hbz.cell 8;have q11:wz.w.cell? ⟨gb,11,none⟩=some (.bool late):=hbz.cell 11;clear hbz;cases late
  all_goals go_wp2_with fail
  all_goals go_ret
  all_goals
   rw[HGB.out];refine⟨congrArg (fun b=>Ending.returned (.bool b)) ?_,HB0.out.2.trans (wz.h.mono (Nat.le_of_lt HB0.out.1.lt))⟩;rw[<-HR.out];unfold rngB;rw[HQ.out]
   first| (simp[*];done)| (simp;omega)
 all_goals
  have HLM:Hid (∀W,1<=m->m<=12->Calls prog 138 #[.int .i64 y,.int .i64 m] W fun e w'=>e=.returned (.int .i64 q)/\W=w'):=hid (fun W a b=>HMO.out a b W);go_enter func104,ntmps104;go_upto_region 1 with fail;obtain⟨gb,hgb⟩:=ex w.heap.size
  obtain⟨w0,hw0⟩:∃w0,w0=w.alloc (.cells #[.bool true,.bool time,.bool zone,.int .i64 y,.int .i64 m,.int .i64 d,.int .i64 h,.int .i64 mi,.int .i64 c,.int .i64 nanos,.int .i64 off,.bool late] 111):=⟨_,rfl⟩
  have HB0:Hid (Blk w0 gb 111 (T12 true time zone y m d h mi c nanos off late)/\Below gb w w0):=hid (by rw[hw0,<-hgb];exact⟨Blk.new _ _ _,(Below.refl _ _).alloc (Nat.le_refl _) _⟩);have HGB:=hid hgb;(try rw[<-hw0]);(try rw[hgb]);clear hw0 hgb;have p0:∀W:WB w0.heap.size w0,W.w.cell? ⟨gb,0,none⟩=some (.bool true):=fun W=>(W.h.cell (p:=⟨gb,0,none⟩) HB0.out.1.lt).trans (HB0.out.1.cell 0)
  have p3:∀W:WB w0.heap.size w0,W.w.cell? ⟨gb,3,none⟩=some (.int .i64 y):=fun W=>(W.h.cell (p:=⟨gb,3,none⟩) HB0.out.1.lt).trans (HB0.out.1.cell 3)
  have p4:∀W:WB w0.heap.size w0,W.w.cell? ⟨gb,4,none⟩=some (.int .i64 m):=fun W=>(W.h.cell (p:=⟨gb,4,none⟩) HB0.out.1.lt).trans (HB0.out.1.cell 4)
  have p5:∀W:WB w0.heap.size w0,W.w.cell? ⟨gb,5,none⟩=some (.int .i64 d):=fun W=>(W.h.cell (p:=⟨gb,5,none⟩) HB0.out.1.lt).trans (HB0.out.1.cell 5)
  refine zaa w0.heap.size w0 (by kernel_rfl) (by kernel_rfl) (Below.refl _ _) ?_
  iterate 27 (try go_big_quiet_step ((with_reducible refine Calls.grow ((HLM.out _ (by omega) (by omega)).mono (fun _ _ ⟨e1,e2⟩=>⟨e1,e2▸WB.h _⟩)))))
  refine wpQuiet_nil ?_;rintro _ ⟨wz,rfl⟩;clear p0 p3 p4 p5;have hbz:=HB0.out.1.below wz.h HB0.out.1.lt;have q6:wz.w.cell? ⟨gb,6,none⟩=some (.int .i64 h):=hbz.cell 6;have q7:wz.w.cell? ⟨gb,7,none⟩=some (.int .i64 mi):=hbz.cell 7;have q8:wz.w.cell? ⟨gb,8,none⟩=some (.int .i64 c):=hbz.cell 8;have q11:wz.w.cell? ⟨gb,11,none⟩=some (.bool late):=hbz.cell 11;clear hbz;cases late
  all_goals go_wp2_with fail
  all_goals go_ret
  all_goals
   rw[HGB.out];refine⟨congrArg (fun b=>Ending.returned (.bool b)) ?_,HB0.out.2.trans (wz.h.mono (Nat.le_of_lt HB0.out.1.lt))⟩;rw[<-HR.out];unfold rngB;rw[HQ.out]
   first| (simp[*];done)| (simp;omega)
end Go.Proofs.YtoigpackhninoaaGreatDoor
