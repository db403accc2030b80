import Derived.Test.YtoigpackhninoaaGreatDoorZ21
import Derived.Test.YtoigpackhninoaaGreatDoorZ06
namespace Go.Proofs.YtoigpackhninoaaGreatDoor
open _root_.Go.Proofs.Tryz
open _root_.Go.Lib (hid)
set_option maxRecDepth 100000
set_option maxHeartbeats 16000000
open Go.RowKit
def mZ:Array Value:=#[.int .i64 0,.int .i64 0,.int .i64 0,.int .i64 0,.int .i64 0,.int .i64 0,.int .i64 0,.int .i64 0,.int .i64 0,.int .i64 0,.int .u8 0]
structure RMem (s:Gr.Str) (w:World) (sb rb mb ab fb:Nat) (sh:Nat) (f:Nat->Nat) (nn z p:Nat) (wx:World):Prop where
 b:Below w.heap.size w wx
 n:w.heap.size<=rb
 nm:w.heap.size<=mb
 na:w.heap.size<=ab
 mr:mb≠rb
 s:Blk wx sb 9 #[.string ⟨s.toArray⟩]
 r:Blk wx rb 135 mZ
 m:Blk wx mb 135 (mC sh f nn z)
 a:Blk wx ab 3 #[.int .i64 (p:Int)]
 f:Blk wx fb 170 #[.func (.func 124) #[] #[.pointer (some ⟨ab,0,none⟩),.pointer (some ⟨sb,0,none⟩)]]
theorem RMem.up {s:Gr.Str} {w:World} {sb rb mb ab fb sh:Nat} {f:Nat->Nat} {nn z p:Nat} {wx wy:World} (h:RMem s w sb rb mb ab fb sh f nn z p wx) (hb:Below wx.heap.size wx wy):RMem s w sb rb mb ab fb sh f nn z p wy:=
 ⟨h.b.trans (hb.mono h.b.size),h.n,h.nm,h.na,h.mr,h.s.below hb h.s.lt,h.r.below hb h.r.lt,h.m.below hb h.m.lt,h.a.below hb h.a.lt,h.f.below hb h.f.lt⟩
theorem WL.hc2 {g:Nat} {t:TypeId} {w0:World} {cs cs':Array Value} (y:WL g t w0 cs) (e:cs=cs'):Blk y.w g t cs':=by subst e;exact y.hc
def RPost (T:Option (Array Value)) (w:World) (e:Ending) (w':World):Prop:=Below w.heap.size w w'/\∃(sh:Nat) (f:Nat->Nat) (nn z:Nat),e=.returned (.tuple #[.agg (mC sh f nn z),.bool T.isSome])/\∀x,T=some x->x=mC sh f nn z
theorem za0 {w:World} {g:Nat} {t:TypeId} {c0 c1 c2 c3 c4 c5 c6 c7 c8 c9 c10 v0 v1 v2 v3 v4 v5 v6 v7 v8 v9 v10:Value} (h:Blk w g t #[c0,c1,c2,c3,c4,c5,c6,c7,c8,c9,c10]):Blk (((((((((((w.setCell ⟨g,0,none⟩ (v0)).setCell ⟨g,1,none⟩ (v1)).setCell ⟨g,2,none⟩ (v2)).setCell ⟨g,3,none⟩ (v3)).setCell ⟨g,4,none⟩ (v4)).setCell ⟨g,5,none⟩ (v5)).setCell ⟨g,6,none⟩ (v6)).setCell ⟨g,7,none⟩ (v7)).setCell ⟨g,8,none⟩ (v8)).setCell ⟨g,9,none⟩ (v9)).setCell ⟨g,10,none⟩ (v10)) g t #[v0,v1,v2,v3,v4,v5,v6,v7,v8,v9,v10]:=by
 have h1:=(((((((((((h.set_ 0 v0).set_ 1 v1).set_ 2 v2).set_ 3 v3).set_ 4 v4).set_ 5 v5).set_ 6 v6).set_ 7 v7).set_ 8 v8).set_ 9 v9).set_ 10 v10)
 simp only[List.setIfInBounds_toArray,List.set_cons_zero,List.set_cons_succ]at h1;exact h1
theorem kb11 {w0 w:World} {g:Nat} (h:KB g w0 w) {v0 v1 v2 v3 v4 v5 v6 v7 v8 v9 v10:Value}:KB g w0 (((((((((((w.setCell ⟨g,0,none⟩ (v0)).setCell ⟨g,1,none⟩ (v1)).setCell ⟨g,2,none⟩ (v2)).setCell ⟨g,3,none⟩ (v3)).setCell ⟨g,4,none⟩ (v4)).setCell ⟨g,5,none⟩ (v5)).setCell ⟨g,6,none⟩ (v6)).setCell ⟨g,7,none⟩ (v7)).setCell ⟨g,8,none⟩ (v8)).setCell ⟨g,9,none⟩ (v9)).setCell ⟨g,10,none⟩ (v10)):=
 (((((((((((h.set 0 _).set 1 _).set 2 _).set 3 _).set 4 _).set 5 _).set 6 _).set 7 _).set 8 _).set 9 _).set 10 _)
theorem zb4 {w0 w:World} {g B:Nat} (h:Below B w0 w) (hB:B<=g) {v0 v1 v2 v3 v4 v5 v6 v7 v8 v9 v10:Value}:Below B w0 (((((((((((w.setCell ⟨g,0,none⟩ (v0)).setCell ⟨g,1,none⟩ (v1)).setCell ⟨g,2,none⟩ (v2)).setCell ⟨g,3,none⟩ (v3)).setCell ⟨g,4,none⟩ (v4)).setCell ⟨g,5,none⟩ (v5)).setCell ⟨g,6,none⟩ (v6)).setCell ⟨g,7,none⟩ (v7)).setCell ⟨g,8,none⟩ (v8)).setCell ⟨g,9,none⟩ (v9)).setCell ⟨g,10,none⟩ (v10)):=
 (((((((((((h.setCell (p:=⟨g,0,none⟩) hB _).setCell (p:=⟨g,1,none⟩) hB _).setCell (p:=⟨g,2,none⟩) hB _).setCell (p:=⟨g,3,none⟩) hB _).setCell (p:=⟨g,4,none⟩) hB _).setCell (p:=⟨g,5,none⟩) hB _).setCell (p:=⟨g,6,none⟩) hB _).setCell (p:=⟨g,7,none⟩) hB _).setCell (p:=⟨g,8,none⟩) hB _).setCell (p:=⟨g,9,none⟩) hB _).setCell (p:=⟨g,10,none⟩) hB _)
theorem ztm (s:Gr.Str) (_hl:s.length<=1073741823) (w wx:World) (sb rb mb ab fb sh:Nat) (f:Nat->Nat) (nn z p:Nat) (T:Option (Array Value)) (HM:Hid (RMem s w sb rb mb ab fb sh f nn z p wx)) (HT:Hid (T=if p=s.length then some (mC sh f nn z)else none)) {u3 u8 u9 u10 u11 u12 u13 u14 u15 u16 u17 u18 u19 u20 u21 u22 u23 u24 u25 u26 u27 u28 u29 u30 u31 u32 u33 u34 u35 u36 u37 u38 u39 u40 u41 u42 u43 u44 u45 u46 u47 u48 u49 u50 u51 u52 u53 u54 u55 u56 u57 u58 u59 u60 u61 u62 u63 u64 u65 u66 u67 u68 u69 u70 u71 u72 u73 u74 u75 u76 u77 u78 u79 u80 u81 u82 u83 u84 u85 u86 u87 u88 u89 u90 u91 u92 u93 u94 u95 u96 u97 u98 u99 u100 u101 u102 u103 u104 u105 u106 u107 u108 u109 u110 u111 u112 u113 u114 u115 u116 u117 u118 u119 u120 u121 u122 u123 u124 u125 u126 u127 u128 u129 u130 u131 u132 u133 u134 u135 u136 u137 u138 u139 u140 u141 u142 u143 u144 u145 u146 u147 u148 u149 u150 u151 u152 u153 u154:Value}:
 Code.wp prog (tl 10 (f92.body.getD .skip)) (bodyPost prog f92 (RPost T w)) {tmps:=List.toArray (.string ⟨s.toArray⟩::.pointer (some ⟨sb,0,none⟩)::.pointer (some ⟨rb,0,none⟩)::u3::.pointer (some ⟨mb,0,none⟩)::.pointer (some ⟨ab,0,none⟩)::.pointer (some ⟨fb,0,none⟩)::.func (.func 125) #[] #[.pointer (some ⟨ab,0,none⟩),.pointer (some ⟨sb,0,none⟩),.pointer (some ⟨fb,0,none⟩)]::u8::u9::u10::u11::u12::u13::u14::u15::u16::u17::u18::u19::u20::u21::u22::u23::u24::u25::u26::u27::u28::u29::u30::u31::u32::u33::u34::u35::u36::u37::u38::u39::u40::u41::u42::u43::u44::u45::u46::u47::u48::u49::u50::u51::u52::u53::u54::u55::u56::u57::u58::u59::u60::u61::u62::u63::u64::u65::u66::u67::u68::u69::u70::u71::u72::u73::u74::u75::u76::u77::u78::u79::u80::u81::u82::u83::u84::u85::u86::u87::u88::u89::u90::u91::u92::u93::u94::u95::u96::u97::u98::u99::u100::u101::u102::u103::u104::u105::u106::u107::u108::u109::u110::u111::u112::u113::u114::u115::u116::u117::u118::u119::u120::u121::u122::u123::u124::u125::u126::u127::u128::u129::u130::u131::u132::u133::u134::u135::u136::u137::u138::u139::u140::u141::u142::u143::u144::u145::u146::u147::u148::u149::u150::u151::u152::u153::u154::[]),defers:=[]} wx:=by
 generalize hc0:tl 10 (f92.body.getD .skip)=c0;simp only[tl,f92,Option.getD_some]at hc0;subst hc0;obtain⟨ok,hok⟩:=ex (decide ((p:Int)=(s.length:Int)))
 have hokb:((p:Int)==(s.length:Int))=ok:=by rw[<-hok];rfl
 have HOK:Hid (T=if ok=true then some (mC sh f nn z)else none):=hid (by
  rw[HT.out,<-hok];by_cases h:p=s.length
  ·rw[if_pos h,if_pos (by simp[h])]
  ·rw[if_neg h,if_neg (by simp;omega)])
 clear hok HT;go_upto_region 36 with fail;obtain⟨Z,hZ⟩:∃Z:Bool->Array Value,Z=fun b=>if b=true then mC sh f nn z else mZ:=⟨_,rfl⟩
 have HZ0:Hid (Z false=mZ/\Z true=mC sh f nn z):=hid (by rw[hZ];exact⟨rfl,rfl⟩);clear hZ;have HD0:Hid (∃y:WL rb 135 wx (Z false),{wx with drawn:=wx.drawn+1}=y.w):=hid ⟨⟨wx.drewN 1,(KB.refl _ _).drewN 1,by rw[HZ0.out.1];exact HM.out.r.drewN 1⟩,rfl⟩;have HSTO:Hid (∀y:WL rb 135 wx (Z false),∃z':WL rb 135 wx (Z true),(((((((((((y.w.setCell ⟨rb,0,none⟩ (.int .i64 (sh:Int))).setCell ⟨rb,1,none⟩ (.int .i64 (f 0:Int))).setCell ⟨rb,2,none⟩ (.int .i64 (f 1:Int))).setCell ⟨rb,3,none⟩ (.int .i64 (f 2:Int))).setCell ⟨rb,4,none⟩ (.int .i64 (f 3:Int))).setCell ⟨rb,5,none⟩ (.int .i64 (f 4:Int))).setCell ⟨rb,6,none⟩ (.int .i64 (f 5:Int))).setCell ⟨rb,7,none⟩ (.int .i64 (f 6:Int))).setCell ⟨rb,8,none⟩ (.int .i64 (f 7:Int))).setCell ⟨rb,9,none⟩ (.int .i64 (nn:Int))).setCell ⟨rb,10,none⟩ (.int .u8 (z:Int)))=z'.w):=hid (fun y=>⟨⟨_,kb11 y.h,by
  have h0:=WL.hc2 y HZ0.out.1;rw[HZ0.out.2];exact za0 h0⟩,rfl⟩)
 have HNE:Hid (∀b,Nonempty (WL rb 135 wx (Z b))):=hid (fun b=>by
  obtain⟨y,_⟩:=HD0.out;cases b with
  |false=>exact⟨y⟩
  |true=>obtain⟨z',_⟩:=HSTO.out y;exact⟨z'⟩)
 have HQ:Hid (∀b,∀y:WL rb 135 wx (Z b),Blk y.w mb 135 (mC sh f nn z)/\Blk y.w ab 3 #[.int .i64 (p:Int)]/\Blk y.w sb 9 #[.string ⟨s.toArray⟩]):=hid (fun b y=>⟨y.h.blk HM.out.m HM.out.mr,y.h.blk HM.out.a (HM.out.a.ne_ HM.out.r (by decide)),y.h.blk HM.out.s (HM.out.s.ne_ HM.out.r (by decide))⟩);refine zaz (aF:=?aF) 5 (by kernel_rfl) _ rfl rfl rfl rfl rfl (by kernel_rfl) (by kernel_rfl) (by kernel_rfl) (by kernel_rfl) (by kernel_rfl) (fun b W=>∃y:WL rb 135 wx (Z b),W=y.w) HD0.out (fun b=>?h1) ?h2 ?h3
 case h1=>
  have q0:∀y:WL rb 135 wx (Z b),y.w.cell? ⟨mb,0,none⟩=some (.int .i64 (sh:Int)):=fun y=>(HQ.out b y).1.cell 0
  have q1:∀y:WL rb 135 wx (Z b),y.w.cell? ⟨mb,1,none⟩=some (.int .i64 (f 0:Int)):=fun y=>(HQ.out b y).1.cell 1
  have q2:∀y:WL rb 135 wx (Z b),y.w.cell? ⟨mb,2,none⟩=some (.int .i64 (f 1:Int)):=fun y=>(HQ.out b y).1.cell 2
  have q3:∀y:WL rb 135 wx (Z b),y.w.cell? ⟨mb,3,none⟩=some (.int .i64 (f 2:Int)):=fun y=>(HQ.out b y).1.cell 3
  have q4:∀y:WL rb 135 wx (Z b),y.w.cell? ⟨mb,4,none⟩=some (.int .i64 (f 3:Int)):=fun y=>(HQ.out b y).1.cell 4
  have q5:∀y:WL rb 135 wx (Z b),y.w.cell? ⟨mb,5,none⟩=some (.int .i64 (f 4:Int)):=fun y=>(HQ.out b y).1.cell 5
  have q6:∀y:WL rb 135 wx (Z b),y.w.cell? ⟨mb,6,none⟩=some (.int .i64 (f 5:Int)):=fun y=>(HQ.out b y).1.cell 6
  have q7:∀y:WL rb 135 wx (Z b),y.w.cell? ⟨mb,7,none⟩=some (.int .i64 (f 6:Int)):=fun y=>(HQ.out b y).1.cell 7
  have q8:∀y:WL rb 135 wx (Z b),y.w.cell? ⟨mb,8,none⟩=some (.int .i64 (f 7:Int)):=fun y=>(HQ.out b y).1.cell 8
  have q9:∀y:WL rb 135 wx (Z b),y.w.cell? ⟨mb,9,none⟩=some (.int .i64 (nn:Int)):=fun y=>(HQ.out b y).1.cell 9
  have q10:∀y:WL rb 135 wx (Z b),y.w.cell? ⟨mb,10,none⟩=some (.int .u8 (z:Int)):=fun y=>(HQ.out b y).1.cell 10
  have hne:=HNE.out b;have qA:∀y:WL rb 135 wx (Z b),y.w.cell? ⟨ab,0,none⟩=some (.int .i64 (p:Int)):=fun y=>(HQ.out b y).2.1.cell 0
  have qS:∀y:WL rb 135 wx (Z b),y.w.cell? ⟨sb,0,none⟩=some (.string ⟨s.toArray⟩):=fun y=>(HQ.out b y).2.2.cell 0
  simp only[List.set_cons_succ,List.set_cons_zero,nopOf,List.getElem_toArray,List.getElem_cons_succ,List.getElem_cons_zero]
  iterate 7 (go_big_quiet_step (fail))
  refine wpQuiet_nil ?_;rfl
 case h2=>
  rintro _ ⟨y,rfl⟩;obtain⟨z',hz⟩:=HSTO.out y;have hyc:Blk y.w rb 135 #[.int .i64 0,.int .i64 0,.int .i64 0,.int .i64 0,.int .i64 0,.int .i64 0,.int .i64 0,.int .i64 0,.int .i64 0,.int .i64 0,.int .u8 0]:=WL.hc2 y HZ0.out.1;have f0:∀j,y.w.frozen? ⟨rb,j,none⟩=false:=hyc.frozen;obtain⟨c0,c1,c2,c3,c4,c5,c6,c7,c8,c9,c10⟩:=zae hyc;refine⟨z'.w,?_,z',rfl⟩;rw[<-hz];simp only[List.getElem_toArray,List.getElem_cons_succ,List.getElem_cons_zero];go_simp
 case h3=>
 rintro _ ⟨y,rfl⟩;have hyc:Blk y.w rb 135 (mC sh f nn z):=WL.hc2 y HZ0.out.2;obtain⟨e0,e1,e2,e3,e4,e5,e6,e7,e8,e9,e10⟩:=zae hyc;go_wp2_with fail;have HSH:Below w.heap.size w y.w:=HM.out.b.trans (y.h.below HM.out.n HM.out.b.size);refine bodyPost_ret (v:=.tuple #[.agg #[.int .i64 (sh:Int),.int .i64 (f 0:Int),.int .i64 (f 1:Int),.int .i64 (f 2:Int),.int .i64 (f 3:Int),.int .i64 (f 4:Int),.int .i64 (f 5:Int),.int .i64 (f 6:Int),.int .i64 (f 7:Int),.int .i64 (nn:Int),.int .u8 (z:Int)],.bool ok]) (by rw[results_cell_tmp rfl];go_simp) rfl ?_;unfold RPost;refine⟨HSH,sh,f,nn,z,?_,fun x hx=>?_⟩
 ·rw[HOK.out];cases ok<;>rfl
 ·rw[HOK.out]at hx;split at hx
  ·injection hx with hx;exact hx.symm
  ·cases hx
open Gr
theorem fld0 (s:Gr.Str) (a first c:Nat):fldAt s a first c 0=numAt s a first:=rfl
theorem fld1 (s:Gr.Str) (a first c:Nat):fldAt s a first c 1=if isAt s (a+first) (UInt8.ofNat c)=true then numAt s (a+first+1) 2 else none:=by
 unfold fldAt posAt;simp
theorem fld2 (s:Gr.Str) (a first c:Nat):fldAt s a first c 2=if isAt s (a+first+3) (UInt8.ofNat c)=true then numAt s (a+first+4) 2 else none:=by
 unfold fldAt posAt;simp[Nat.add_assoc]
theorem zed {c:Prop} [Decidable c] {o:Option Nat} {v:Nat} (h:(if c then o else none)=some v):c/\o=some v:=by
 grind
theorem zee {c:Prop} [Decidable c] {o:Option Nat} (h:(if c then o else none)=none):¬c\/o=none:=by
 grind
theorem zo9 {s:Gr.Str} {g:Nat->Nat} (h:∀j,j<3->fldAt s 0 4 45 j=some (g (0+j))):dateAt s=some (g 0,g 1,g 2):=by
 have h0:=h 0 (by omega);have h1:=h 1 (by omega);have h2:=h 2 (by omega);rw[fld0]at h0;rw[fld1]at h1;rw[fld2]at h2;obtain⟨a1,b1⟩:=zed h1;obtain⟨a2,b2⟩:=zed h2;unfold dateAt;rw[h0,show(5:Nat)=0+4+1 from rfl,show(8:Nat)=0+4+4 from rfl,b1,b2];show(if(isAt s (0+4) (UInt8.ofNat 45) && isAt s (0+4+3) (UInt8.ofNat 45))=true then _ else _)=_;rw[a1,a2];rfl
theorem zka {s:Gr.Str} (h:∃j,j<3/\fldAt s 0 4 45 j=none):dateAt s=none:=by
 obtain⟨j,hj,h⟩:=h;unfold dateAt;have:j=0\/j=1\/j=2:=by omega
 rcases this with rfl|rfl|rfl
 ·rw[fld0]at h;rw[h]
 ·rw[fld1]at h;rcases zee h with h|h
  ·grind
  ·grind
 ·rw[fld2]at h;rcases zee h with h|h
  ·grind
  ·grind
structure ClkIs (s:Gr.Str) (a h m c:Nat):Prop where
 h:numAt s a 2=some h
 m:numAt s (a+3) 2=some m
 c:numAt s (a+6) 2=some c
 i:isAt s (a+2) 58=true
 j:isAt s (a+5) 58=true
theorem zrt {s:Gr.Str} {a:Nat} {g:Nat->Nat} (h:∀j,j<3->fldAt s a 2 58 j=some (g (3+j))):ClkIs s a (g 3) (g 4) (g 5):=by
 have h0:=h 0 (by omega);have h1:=h 1 (by omega);have h2:=h 2 (by omega);rw[fld0]at h0;rw[fld1]at h1;rw[fld2]at h2;obtain⟨a1,b1⟩:=zed h1;obtain⟨a2,b2⟩:=zed h2;exact⟨h0,b1,b2,a1,a2⟩
theorem ztn {s:Gr.Str} {a:Nat} (h:∃j,j<3/\fldAt s a 2 58 j=none):clockAt s a=none:=by
 obtain⟨j,hj,h⟩:=h;unfold clockAt;have:j=0\/j=1\/j=2:=by omega
 rcases this with rfl|rfl|rfl
 ·rw[fld0]at h;rw[h]
 ·rw[fld1]at h;rcases zee h with h|h
  ·grind
  ·grind
 ·rw[fld2]at h;rcases zee h with h|h
  ·grind
  ·grind
theorem zmw {s:Gr.Str} {a h m c:Nat} (k:ClkIs s a h m c) (hd:isAt s (a+8) 46=false):clockAt s a=some ⟨h,m,c,0,a+8⟩:=by
 unfold clockAt;rw[k.h,k.m,k.c];simp only;rw[k.i,k.j,hd];rfl
theorem zru {s:Gr.Str} {a h m c:Nat} (k:ClkIs s a h m c) (hd:isAt s (a+8) 46=true):clockAt s a=if((s.drop (a+9)).takeWhile Gr.dig).length=0\/9<((s.drop (a+9)).takeWhile Gr.dig).length then none
 else some ⟨h,m,c,Gr.val ((s.drop (a+9)).takeWhile Gr.dig)*10 ^ (9-((s.drop (a+9)).takeWhile Gr.dig).length),a+9+((s.drop (a+9)).takeWhile Gr.dig).length⟩:=by
 unfold clockAt;rw[k.h,k.m,k.c];simp only;rw[k.i,k.j,hd];rfl
theorem zbg {s:Gr.Str} {p b:Nat} (hp:p<s.length) (hb:(s[p]'hp).toNat=b) (c:UInt8):isAt s p c=decide (b=c.toNat):=by
 unfold isAt;rw[List.getElem?_eq_getElem hp,<-hb,Bool.eq_iff_iff];simp;exact⟨fun e=>by rw[e],fun e=>UInt8.toNat_inj.1 e⟩
theorem zto {s:Gr.Str} {p:Nat} (hp:p<s.length) (hb:(s[p]'hp).toNat=90):zoneAt s p=some ⟨90,0,0,p+1⟩:=by
 unfold zoneAt;rw[if_pos (by rw[zbg hp hb];rfl)]
theorem zi4 {s:Gr.Str} {p b:Nat} (hp:p<s.length) (hb:(s[p]'hp).toNat=b) (h1:b≠90) (h2:b≠43) (h3:b≠45):zoneAt s p=none:=by
 unfold zoneAt;rw[if_neg (by rw[zbg hp hb];simpa using h1)];split
 ·rw[if_neg];rw[zbg hp hb,zbg hp hb];simp[h2,h3]
 ·rfl
theorem zpa {s:Gr.Str} {p b:Nat} {g:Nat->Nat} (hp:p<s.length) (hb:(s[p]'hp).toNat=b) (h2:b=43\/b=45) (h:∀j,j<2->fldAt s (p+1) 2 58 j=some (g (6+j))):∃z:Gr.Zn,zoneAt s p=some z/\z.z.toNat=b/\z.h=g 6/\z.m=g 7/\z.stop=p+6:=by
 have h0:=h 0 (by omega);have h1:=h 1 (by omega);rw[fld0]at h0;rw[fld1]at h1;obtain⟨a1,b1⟩:=zed h1;refine⟨⟨s.getD p 0,g 6,g 7,p+6⟩,?_,?_,rfl,rfl,rfl⟩
 ·unfold zoneAt;rw[if_neg (by rw[zbg hp hb];rcases h2 with rfl|rfl<;>decide),h0,show p+4=p+1+2+1 from rfl,b1];simp only;rw[if_pos];rw[zbg hp hb,zbg hp hb,Bool.and_eq_true];exact⟨by rcases h2 with rfl|rfl<;>decide,a1⟩
 ·grind
theorem zkb {s:Gr.Str} {p b:Nat} (hp:p<s.length) (hb:(s[p]'hp).toNat=b) (h2:b≠90) (h:∃j,j<2/\fldAt s (p+1) 2 58 j=none):zoneAt s p=none:=by
 obtain⟨j,hj,h⟩:=h;unfold zoneAt;rw[if_neg (by rw[zbg hp hb];simpa using h2)];have:j=0\/j=1:=by omega
 rcases this with rfl|rfl
 ·rw[fld0]at h;rw[h]
 ·rw[fld1]at h;rcases zee h with h|h
  ·grind
  ·grind
def finO (s:Gr.Str) (sh:Nat) (f:Nat->Nat) (nn p:Nat):Option (Array Value):=
 if p=s.length then some (mC sh f nn 0)else if sh=3/\p<s.length then match Gr.zoneAt s p with
  |some z=>if z.stop=s.length then some (mC sh (fset (fset f 6 z.h) 7 z.m) nn z.z.toNat)else none
  |none=>none
 else none
theorem KM.below {mb ab:Nat} {a b:World} {B:Nat} (h:KM mb ab a b) (hB:B<=a.heap.size) (h1:B<=mb) (h2:B<=ab):Below B a b:=za5.below h hB (by rintro k (e|e)<;>omega)
theorem RMem.fld {s:Gr.Str} {w:World} {sb rb mb ab fb sh:Nat} {f f':Nat->Nat} {nn z p p':Nat} {wx wy:World} (h:RMem s w sb rb mb ab fb sh f nn z p wx) (hk:KM mb ab wx wy) (hm:Blk wy mb 135 (mC sh f' nn z)) (ha:Blk wy ab 3 #[.int .i64 (p':Int)]):RMem s w sb rb mb ab fb sh f' nn z p' wy:=
 ⟨h.b.trans (hk.below h.b.size h.nm h.na),h.n,h.nm,h.na,h.mr,hk.blk h.s (h.s.ne_ h.m (by decide)) (h.s.ne_ h.a (by decide)),hk.blk h.r h.mr.symm (h.r.ne_ h.a (by decide)),hm,ha,hk.blk h.f (h.f.ne_ h.m (by decide)) (h.f.ne_ h.a (by decide))⟩
theorem zmx {sh nn z z6 z7:Nat} {f g:Nat->Nat} (h:∀j,j<6->g j=f j) (h6:g 6=z6) (h7:g 7=z7):mC sh g nn z=mC sh (fset (fset f 6 z6) 7 z7) nn z:=by
 simp[mC,fset,h 0 (by omega),h 1 (by omega),h 2 (by omega),h 3 (by omega),h 4 (by omega),h 5 (by omega),h6,h7]
theorem zrv (s:Gr.Str) (hl:s.length<=1073741823) (w wx:World) (sb rb mb ab fb sh:Nat) (f:Nat->Nat) (nn p:Nat) (T:Option (Array Value)) (HM:Hid (RMem s w sb rb mb ab fb sh f nn 0 p wx)) (hp:p<=s.length) (_hsh:sh<=3) (HT:Hid (T=finO s sh f nn p/\f 6=0/\f 7=0)) {u3 u8 u9 u10 u11 u12 u13 u14 u15 u16 u17 u18 u19 u20 u21 u22 u23 u24 u25 u26 u27 u28 u29 u30 u31 u32 u33 u34 u35 u36 u37 u38 u39 u40 u41 u42 u43 u44 u45 u46 u47 u48 u49 u50 u51 u52 u53 u54 u55 u56 u57 u58 u59 u60 u61 u62 u63 u64 u65 u66 u67 u68 u69 u70 u71 u72 u73 u74 u75 u76 u77 u78 u79 u80 u81 u82 u83 u84 u85 u86 u87 u88 u89 u90 u91 u92 u93 u94 u95 u96 u97 u98 u99 u100 u101 u102 u103 u104 u105 u106 u107 u108 u109 u110 u111 u112 u113 u114 u115 u116 u117 u118 u119 u120 u121 u122 u123 u124 u125 u126 u127 u128 u129 u130 u131 u132 u133 u134 u135 u136 u137 u138 u139 u140 u141 u142 u143 u144 u145 u146 u147 u148 u149 u150 u151 u152 u153 u154:Value}:
 Code.wp prog (tl 9 (f92.body.getD .skip)) (bodyPost prog f92 (RPost T w)) {tmps:=List.toArray (.string ⟨s.toArray⟩::.pointer (some ⟨sb,0,none⟩)::.pointer (some ⟨rb,0,none⟩)::u3::.pointer (some ⟨mb,0,none⟩)::.pointer (some ⟨ab,0,none⟩)::.pointer (some ⟨fb,0,none⟩)::.func (.func 125) #[] #[.pointer (some ⟨ab,0,none⟩),.pointer (some ⟨sb,0,none⟩),.pointer (some ⟨fb,0,none⟩)]::u8::u9::u10::u11::u12::u13::u14::u15::u16::u17::u18::u19::u20::u21::u22::u23::u24::u25::u26::u27::u28::u29::u30::u31::u32::u33::u34::u35::u36::u37::u38::u39::u40::u41::u42::u43::u44::u45::u46::u47::u48::u49::u50::u51::u52::u53::u54::u55::u56::u57::u58::u59::u60::u61::u62::u63::u64::u65::u66::u67::u68::u69::u70::u71::u72::u73::u74::u75::u76::u77::u78::u79::u80::u81::u82::u83::u84::u85::u86::u87::u88::u89::u90::u91::u92::u93::u94::u95::u96::u97::u98::u99::u100::u101::u102::u103::u104::u105::u106::u107::u108::u109::u110::u111::u112::u113::u114::u115::u116::u117::u118::u119::u120::u121::u122::u123::u124::u125::u126::u127::u128::u129::u130::u131::u132::u133::u134::u135::u136::u137::u138::u139::u140::u141::u142::u143::u144::u145::u146::u147::u148::u149::u150::u151::u152::u153::u154::[]),defers:=[]} wx:=by
 generalize hc0:tl 9 (f92.body.getD .skip)=c0;simp only[tl,f92,Option.getD_some]at hc0;subst hc0;obtain⟨zb,hzb⟩:∃zb,decide (p<s.length/\sh=3)=zb:=⟨_,rfl⟩
 have HZB:=hid hzb;clear hzb;have qA:wx.cell? ⟨ab,0,none⟩=some (.int .i64 (p:Int)):=HM.out.a.cell 0;have qAF:∀j,wx.frozen? ⟨ab,j,none⟩=false:=HM.out.a.frozen;have qS:wx.cell? ⟨sb,0,none⟩=some (.string ⟨s.toArray⟩):=HM.out.s.cell 0;have qM0:wx.cell? ⟨mb,0,none⟩=some (.int .i64 (sh:Int)):=HM.out.m.cell 0;have qM10:wx.cell? ⟨mb,10,none⟩=some (.int .u8 ((0:Nat):Int)):=HM.out.m.cell 10;have qMF:∀j,wx.frozen? ⟨mb,j,none⟩=false:=HM.out.m.frozen;go_upto_region 29 with fail;go_cut [119] (fun s119 wy=>s119=.bool zb/\wy=wx)
 case first=>
  by_cases hlt:p<s.length
  ·have hltI:(p:Int)<(s.length:Int):=by omega
   by_cases h3:sh=3
   ·have h3I:(sh:Int)=3:=by omega
    have h3b:((sh:Int)==3)=true:=by simpa using h3I
    obtain rfl:zb=true:=by rw[<-HZB.out];exact decide_eq_true ⟨hlt,h3⟩
    go_wp2;go_meet;exact⟨rfl,rfl⟩
   ·have h3I:¬(sh:Int)=3:=by omega
    have h3b:((sh:Int)==3)=false:=by simpa using h3I
    obtain rfl:zb=false:=by rw[<-HZB.out];exact decide_eq_false (fun e=>h3 e.2)
    go_wp2;go_meet;exact⟨rfl,rfl⟩
  ·have hltI:¬(p:Int)<(s.length:Int):=by omega
   obtain rfl:zb=false:=by rw[<-HZB.out];exact decide_eq_false (fun e=>hlt e.1)
   go_wp2;go_meet;exact⟨rfl,rfl⟩
 case rest=>
 obtain⟨rfl,rfl⟩:=hcut;go_upto_if 119 with fail;go_cut [] (fun wy=>∃(f':Nat->Nat) (z' p':Nat),Hid (RMem s w sb rb mb ab fb sh f' nn z' p' wy)/\Hid (T=if p'=s.length then some (mC sh f' nn z')else none))
 case first=>
  cases zb with
  |false=>
   have h:=of_decide_eq_false HZB.out;go_wp2;go_meet;exact⟨f,0,p,HM,hid (by
    rw[HT.out.1];unfold finO;by_cases hpl:p=s.length
    ·rw[if_pos hpl,if_pos hpl]
    ·rw[if_neg hpl,if_neg hpl,if_neg (fun e=>h ⟨e.2,e.1⟩)])⟩
  |true=>
   obtain⟨hlt,h3⟩:=of_decide_eq_true HZB.out;have hltI:(p:Int)<(s.length:Int):=by omega
   obtain⟨b,hb⟩:∃b:Nat,(s[p]'hlt).toNat=b:=⟨_,rfl⟩
   have hbv:(((⟨s.toArray⟩:ByteArray)[p]'(by simpa[ByteArray.size]using hlt)).toNat:Int)=(b:Int):=by rw[<-hb];rfl
   have hbl:b<256:=by rw[<-hb];exact(s[p]'hlt).toNat_lt
   have HB:=hid hb;have HTZ:Hid (T=match Gr.zoneAt s p with
    |some z=>if z.stop=s.length then some (mC sh (fset (fset f 6 z.h) 7 z.m) nn z.z.toNat)else none
    |none=>none):=hid (by rw[HT.out.1];unfold finO;rw[if_neg (by omega),if_pos ⟨h3,hlt⟩])
   clear hb h3;have hqA:∀v,(wc.setCell ⟨mb,10,none⟩ v).cell? ⟨ab,0,none⟩=some (.int .i64 (p:Int)):=fun v=>(HM.out.a.far (HM.out.a.ne_ HM.out.m (by decide)) v).cell 0
   have hqF:∀v j,(wc.setCell ⟨mb,10,none⟩ v).frozen? ⟨ab,j,none⟩=false:=fun v j=>(HM.out.a.far (HM.out.a.ne_ HM.out.m (by decide)) v).frozen j
   go_upto_region 32 with fail;obtain⟨p1,hp1⟩:=ex (p+1)
   obtain⟨w3,hw3⟩:=ex ((wc.setCell ⟨mb,10,none⟩ (.int .u8 (b:Int))).setCell ⟨ab,0,none⟩ (.int .i64 ((p:Int)+1)))
   have HM3:Hid (RMem s w sb rb mb ab fb sh f nn b p1 w3):=hid (by
    rw[<-hw3,<-hp1];have hne:=HM.out.m.ne_ HM.out.a (by decide);have hk:KM mb ab wc ((wc.setCell ⟨mb,10,none⟩ (.int .u8 (b:Int))).setCell ⟨ab,0,none⟩ (.int .i64 ((p:Int)+1))):=(KM.ofM (Kept1.set _ _)).trans (KM.ofA (Kept1.set _ _));have h:=HM.out;exact⟨h.b.trans (hk.below h.b.size h.nm h.na),h.n,h.nm,h.na,h.mr,hk.blk h.s (h.s.ne_ h.m (by decide)) (h.s.ne_ h.a (by decide)),hk.blk h.r h.mr.symm (h.r.ne_ h.a (by decide)),(h.m.set_ 10 _).far hne _,(h.a.far hne.symm _).set_ 0 _,hk.blk h.f (h.f.ne_ h.m (by decide)) (h.f.ne_ h.a (by decide))⟩)
   (try rw[hw3]);have HP1:=hid hp1;clear hw3 hqA hqF qA qAF qS qM0 qM10 qMF hp1;have qz:w3.cell? ⟨mb,10,none⟩=some (.int .u8 (b:Int)):=HM3.out.m.cell 10;by_cases h90:b=90
   ·have h90I:(b:Int)=90:=by omega
    have h90b:((b:Int)==90)=true:=by simpa using h90I
    obtain⟨ok,hok⟩:=ex (decide ((p1:Int)=(s.length:Int)))
    have hokb:((p1:Int)==(s.length:Int))=ok:=by rw[<-hok];rfl
    have HOK:Hid (T=if ok=true then some (mC sh f nn b)else none):=hid (by
     rw[HTZ.out,zto hlt (HB.out.trans h90),<-hok];simp only;rw[<-zmx (f:=f) (g:=f) (fun _ _=>rfl) HT.out.2.1 HT.out.2.2,h90];by_cases h:p1=s.length
     ·rw[if_pos (by rw[HP1.out];exact h),if_pos (by simp[h])];rfl
     ·rw[if_neg (by rw[HP1.out];exact h),if_neg (by simp;omega)])
    clear hok HT HTZ HM;go_upto_region 33 with fail;clear h90I h90b qz;obtain⟨Z,hZ⟩:∃Z:Bool->Array Value,Z=fun bo=>if bo=true then mC sh f nn b else mZ:=⟨_,rfl⟩
    have HZ0:Hid (Z false=mZ/\Z true=mC sh f nn b):=hid (by rw[hZ];exact⟨rfl,rfl⟩);clear hZ;have HD0:Hid (∃y:WL rb 135 w3 (Z false),{w3 with drawn:=w3.drawn+1}=y.w):=hid ⟨⟨w3.drewN 1,(KB.refl _ _).drewN 1,by rw[HZ0.out.1];exact HM3.out.r.drewN 1⟩,rfl⟩;have HSTO:Hid (∀y:WL rb 135 w3 (Z false),∃z':WL rb 135 w3 (Z true),(((((((((((y.w.setCell ⟨rb,0,none⟩ (.int .i64 (sh:Int))).setCell ⟨rb,1,none⟩ (.int .i64 (f 0:Int))).setCell ⟨rb,2,none⟩ (.int .i64 (f 1:Int))).setCell ⟨rb,3,none⟩ (.int .i64 (f 2:Int))).setCell ⟨rb,4,none⟩ (.int .i64 (f 3:Int))).setCell ⟨rb,5,none⟩ (.int .i64 (f 4:Int))).setCell ⟨rb,6,none⟩ (.int .i64 (f 5:Int))).setCell ⟨rb,7,none⟩ (.int .i64 (f 6:Int))).setCell ⟨rb,8,none⟩ (.int .i64 (f 7:Int))).setCell ⟨rb,9,none⟩ (.int .i64 (nn:Int))).setCell ⟨rb,10,none⟩ (.int .u8 (b:Int)))=z'.w):=hid (fun y=>⟨⟨_,kb11 y.h,by
     have h0:=WL.hc2 y HZ0.out.1;rw[HZ0.out.2];exact za0 h0⟩,rfl⟩)
    have HNE:Hid (∀bo,Nonempty (WL rb 135 w3 (Z bo))):=hid (fun bo=>by
     obtain⟨y,_⟩:=HD0.out;cases bo with
     |false=>exact⟨y⟩
     |true=>obtain⟨z',_⟩:=HSTO.out y;exact⟨z'⟩)
    have HQ:Hid (∀bo,∀y:WL rb 135 w3 (Z bo),Blk y.w mb 135 (mC sh f nn b)/\Blk y.w ab 3 #[.int .i64 (p1:Int)]/\Blk y.w sb 9 #[.string ⟨s.toArray⟩]):=hid (fun bo y=>⟨y.h.blk HM3.out.m HM3.out.mr,y.h.blk HM3.out.a (HM3.out.a.ne_ HM3.out.r (by decide)),y.h.blk HM3.out.s (HM3.out.s.ne_ HM3.out.r (by decide))⟩);refine zaz (aF:=?aF) 5 (by kernel_rfl) _ rfl rfl rfl rfl rfl (by kernel_rfl) (by kernel_rfl) (by kernel_rfl) (by kernel_rfl) (by kernel_rfl) (fun bo W=>∃y:WL rb 135 w3 (Z bo),W=y.w) HD0.out (fun bo=>?h1) ?h2 ?h3
    case h1=>
     have q0:∀y:WL rb 135 w3 (Z bo),y.w.cell? ⟨mb,0,none⟩=some (.int .i64 (sh:Int)):=fun y=>(HQ.out bo y).1.cell 0
     have q1:∀y:WL rb 135 w3 (Z bo),y.w.cell? ⟨mb,1,none⟩=some (.int .i64 (f 0:Int)):=fun y=>(HQ.out bo y).1.cell 1
     have q2:∀y:WL rb 135 w3 (Z bo),y.w.cell? ⟨mb,2,none⟩=some (.int .i64 (f 1:Int)):=fun y=>(HQ.out bo y).1.cell 2
     have q3:∀y:WL rb 135 w3 (Z bo),y.w.cell? ⟨mb,3,none⟩=some (.int .i64 (f 2:Int)):=fun y=>(HQ.out bo y).1.cell 3
     have q4:∀y:WL rb 135 w3 (Z bo),y.w.cell? ⟨mb,4,none⟩=some (.int .i64 (f 3:Int)):=fun y=>(HQ.out bo y).1.cell 4
     have q5:∀y:WL rb 135 w3 (Z bo),y.w.cell? ⟨mb,5,none⟩=some (.int .i64 (f 4:Int)):=fun y=>(HQ.out bo y).1.cell 5
     have q6:∀y:WL rb 135 w3 (Z bo),y.w.cell? ⟨mb,6,none⟩=some (.int .i64 (f 5:Int)):=fun y=>(HQ.out bo y).1.cell 6
     have q7:∀y:WL rb 135 w3 (Z bo),y.w.cell? ⟨mb,7,none⟩=some (.int .i64 (f 6:Int)):=fun y=>(HQ.out bo y).1.cell 7
     have q8:∀y:WL rb 135 w3 (Z bo),y.w.cell? ⟨mb,8,none⟩=some (.int .i64 (f 7:Int)):=fun y=>(HQ.out bo y).1.cell 8
     have q9:∀y:WL rb 135 w3 (Z bo),y.w.cell? ⟨mb,9,none⟩=some (.int .i64 (nn:Int)):=fun y=>(HQ.out bo y).1.cell 9
     have q10:∀y:WL rb 135 w3 (Z bo),y.w.cell? ⟨mb,10,none⟩=some (.int .u8 (b:Int)):=fun y=>(HQ.out bo y).1.cell 10
     have hne:=HNE.out bo;have qA:∀y:WL rb 135 w3 (Z bo),y.w.cell? ⟨ab,0,none⟩=some (.int .i64 (p1:Int)):=fun y=>(HQ.out bo y).2.1.cell 0
     have qS:∀y:WL rb 135 w3 (Z bo),y.w.cell? ⟨sb,0,none⟩=some (.string ⟨s.toArray⟩):=fun y=>(HQ.out bo y).2.2.cell 0
     simp only[List.set_cons_succ,List.set_cons_zero,nopOf,List.getElem_toArray,List.getElem_cons_succ,List.getElem_cons_zero]
     iterate 7 (go_big_quiet_step (fail))
     refine wpQuiet_nil ?_;rfl
    case h2=>
     rintro _ ⟨y,rfl⟩;obtain⟨z',hz⟩:=HSTO.out y;have hyc:Blk y.w rb 135 #[.int .i64 0,.int .i64 0,.int .i64 0,.int .i64 0,.int .i64 0,.int .i64 0,.int .i64 0,.int .i64 0,.int .i64 0,.int .i64 0,.int .u8 0]:=WL.hc2 y HZ0.out.1;have f0:∀j,y.w.frozen? ⟨rb,j,none⟩=false:=hyc.frozen;obtain⟨c0,c1,c2,c3,c4,c5,c6,c7,c8,c9,c10⟩:=zae hyc;refine⟨z'.w,?_,z',rfl⟩;rw[<-hz];simp only[List.getElem_toArray,List.getElem_cons_succ,List.getElem_cons_zero];go_simp
    case h3=>
    rintro _ ⟨y,rfl⟩;have hyc:Blk y.w rb 135 (mC sh f nn b):=WL.hc2 y HZ0.out.2;obtain⟨e0,e1,e2,e3,e4,e5,e6,e7,e8,e9,e10⟩:=zae hyc;go_wp2_with fail;have HSH:Below w.heap.size w y.w:=HM3.out.b.trans (y.h.below HM3.out.n HM3.out.b.size);refine bodyPost_ret (v:=.tuple #[.agg #[.int .i64 (sh:Int),.int .i64 (f 0:Int),.int .i64 (f 1:Int),.int .i64 (f 2:Int),.int .i64 (f 3:Int),.int .i64 (f 4:Int),.int .i64 (f 5:Int),.int .i64 (f 6:Int),.int .i64 (f 7:Int),.int .i64 (nn:Int),.int .u8 (b:Int)],.bool ok]) (by rw[results_cell_tmp rfl];go_simp) rfl ?_;unfold RPost;refine⟨HSH,sh,f,nn,b,?_,fun x hx=>?_⟩
    ·rw[HOK.out];cases ok<;>rfl
    ·rw[HOK.out]at hx;split at hx
     ·injection hx with hx;exact hx.symm
     ·cases hx
   ·have h90I:¬(b:Int)=90:=by omega
    have h90b:((b:Int)==90)=false:=by simpa using h90I
    have H90:=hid h90;clear h90;go_upto_region 34 with fail;clear h90I h90b;by_cases hpm:b=43\/b=45
    ·have HTF:Hid ((∃j,j<2/\fldAt s p1 2 58 j=none)->T=none):=hid (fun hno=>by
      rw[HTZ.out,zkb hlt HB.out H90.out (by rw[HP1.out];exact hno)])
     have HTG:Hid (∀g:Nat->Nat,(∀j,j<2->fldAt s p1 2 58 j=some (g (6+j)))->(∀j,j<6->g j=f j)->T=if posAt p1 2 2=s.length then some (mC sh g nn b)else none):=hid (fun g hg h6=>by
      obtain⟨z,e1,e2,e3,e4,e5⟩:=zpa hlt HB.out hpm (by rw[HP1.out];exact hg);rw[HTZ.out,e1];simp only;rw[e2,e3,e4,e5,<-zmx (f:=f) h6 rfl rfl,show posAt p1 2 2=p+6 from by rw[<-HP1.out];simp[posAt]])
     have HFL:=hid (zdb s hl ab sb fb mb p1 2 58 6 2 2 sh f nn b 2 58 rfl rfl (by omega) (by omega) (by omega) (by omega) (by omega) (by omega) 7 rfl (by have:=HP1.out;omega) w3 HM3.out.a HM3.out.s HM3.out.f HM3.out.m);clear HT HTZ HM HB H90;by_cases h43:b=43
     ·have a43:(b:Int)=43:=by omega
      have b43:((b:Int)==43)=true:=by simpa using a43
      clear h43 hpm;go_wp2_with fail;clear a43 b43;refine HFL.out.mono ?_;rintro e w4 ⟨hk,f',hm4,⟨rfl,hfl,hf0,ha4,hpl⟩|⟨rfl,hno,p4,hp4,ha4⟩⟩
      ·have HM4:Hid (RMem s w sb rb mb ab fb sh f' nn b (posAt p1 2 2) w4):=hid (HM3.out.fld hk hm4 ha4);have HT4:=hid (HTG.out f' hfl (fun j hj=>hf0 j (.inl hj)));clear hk hm4 ha4 hfl hf0;go_wp2;go_meet;exact⟨f',b,_,HM4,HT4⟩
      ·have HM4:Hid (RMem s w sb rb mb ab fb sh f' nn b p4 w4):=hid (HM3.out.fld hk hm4 ha4);have HTN0:=hid (HTF.out hno);clear hk hm4 ha4 hno;obtain⟨m0,m1,m2,m3,m4,m5,m6,m7,m8,m9,m10⟩:=zae HM4.out.m;obtain⟨x0,x1,x2,x3,x4,x5,x6,x7,x8,x9,x10⟩:=zae HM4.out.r;have xf:∀j,w4.frozen? ⟨rb,j,none⟩=false:=HM4.out.r.frozen;go_wp2_with fail;have HSB:Blk (((((((((((w4.setCell ⟨rb,0,none⟩ (.int .i64 (sh:Int))).setCell ⟨rb,1,none⟩ (.int .i64 (f' 0:Int))).setCell ⟨rb,2,none⟩ (.int .i64 (f' 1:Int))).setCell ⟨rb,3,none⟩ (.int .i64 (f' 2:Int))).setCell ⟨rb,4,none⟩ (.int .i64 (f' 3:Int))).setCell ⟨rb,5,none⟩ (.int .i64 (f' 4:Int))).setCell ⟨rb,6,none⟩ (.int .i64 (f' 5:Int))).setCell ⟨rb,7,none⟩ (.int .i64 (f' 6:Int))).setCell ⟨rb,8,none⟩ (.int .i64 (f' 7:Int))).setCell ⟨rb,9,none⟩ (.int .i64 (nn:Int))).setCell ⟨rb,10,none⟩ (.int .u8 (b:Int))) rb 135 (mC sh f' nn b):=za0 HM4.out.r;obtain⟨e0,e1,e2,e3,e4,e5,e6,e7,e8,e9,e10⟩:=zae HSB;have HSH:Below w.heap.size w (((((((((((w4.setCell ⟨rb,0,none⟩ (.int .i64 (sh:Int))).setCell ⟨rb,1,none⟩ (.int .i64 (f' 0:Int))).setCell ⟨rb,2,none⟩ (.int .i64 (f' 1:Int))).setCell ⟨rb,3,none⟩ (.int .i64 (f' 2:Int))).setCell ⟨rb,4,none⟩ (.int .i64 (f' 3:Int))).setCell ⟨rb,5,none⟩ (.int .i64 (f' 4:Int))).setCell ⟨rb,6,none⟩ (.int .i64 (f' 5:Int))).setCell ⟨rb,7,none⟩ (.int .i64 (f' 6:Int))).setCell ⟨rb,8,none⟩ (.int .i64 (f' 7:Int))).setCell ⟨rb,9,none⟩ (.int .i64 (nn:Int))).setCell ⟨rb,10,none⟩ (.int .u8 (b:Int))):=zb4 HM4.out.b HM4.out.n;refine bodyPost_ret (v:=.tuple #[.agg #[.int .i64 (sh:Int),.int .i64 (f' 0:Int),.int .i64 (f' 1:Int),.int .i64 (f' 2:Int),.int .i64 (f' 3:Int),.int .i64 (f' 4:Int),.int .i64 (f' 5:Int),.int .i64 (f' 6:Int),.int .i64 (f' 7:Int),.int .i64 (nn:Int),.int .u8 (b:Int)],.bool false]) (by rw[results_cell_tmp rfl];go_simp) rfl ?_;have HTN:T=none:=HTN0.out;unfold RPost;rw[HTN];exact⟨HSH,sh,f',nn,b,rfl,fun x hx=>by cases hx⟩
     ·have h45:b=45:=by omega
      have a43:¬(b:Int)=43:=by omega
      have b43:((b:Int)==43)=false:=by simpa using a43
      have a45:(b:Int)=45:=by omega
      have b45:((b:Int)==45)=true:=by simpa using a45
      clear h43 h45 hpm;go_wp2_with fail;clear a43 b43 a45 b45;refine HFL.out.mono ?_;rintro e w4 ⟨hk,f',hm4,⟨rfl,hfl,hf0,ha4,hpl⟩|⟨rfl,hno,p4,hp4,ha4⟩⟩
      ·have HM4:Hid (RMem s w sb rb mb ab fb sh f' nn b (posAt p1 2 2) w4):=hid (HM3.out.fld hk hm4 ha4);have HT4:=hid (HTG.out f' hfl (fun j hj=>hf0 j (.inl hj)));clear hk hm4 ha4 hfl hf0;go_wp2;go_meet;exact⟨f',b,_,HM4,HT4⟩
      ·have HM4:Hid (RMem s w sb rb mb ab fb sh f' nn b p4 w4):=hid (HM3.out.fld hk hm4 ha4);have HTN0:=hid (HTF.out hno);clear hk hm4 ha4 hno;obtain⟨m0,m1,m2,m3,m4,m5,m6,m7,m8,m9,m10⟩:=zae HM4.out.m;obtain⟨x0,x1,x2,x3,x4,x5,x6,x7,x8,x9,x10⟩:=zae HM4.out.r;have xf:∀j,w4.frozen? ⟨rb,j,none⟩=false:=HM4.out.r.frozen;go_wp2_with fail;have HSB:Blk (((((((((((w4.setCell ⟨rb,0,none⟩ (.int .i64 (sh:Int))).setCell ⟨rb,1,none⟩ (.int .i64 (f' 0:Int))).setCell ⟨rb,2,none⟩ (.int .i64 (f' 1:Int))).setCell ⟨rb,3,none⟩ (.int .i64 (f' 2:Int))).setCell ⟨rb,4,none⟩ (.int .i64 (f' 3:Int))).setCell ⟨rb,5,none⟩ (.int .i64 (f' 4:Int))).setCell ⟨rb,6,none⟩ (.int .i64 (f' 5:Int))).setCell ⟨rb,7,none⟩ (.int .i64 (f' 6:Int))).setCell ⟨rb,8,none⟩ (.int .i64 (f' 7:Int))).setCell ⟨rb,9,none⟩ (.int .i64 (nn:Int))).setCell ⟨rb,10,none⟩ (.int .u8 (b:Int))) rb 135 (mC sh f' nn b):=za0 HM4.out.r;obtain⟨e0,e1,e2,e3,e4,e5,e6,e7,e8,e9,e10⟩:=zae HSB;have HSH:Below w.heap.size w (((((((((((w4.setCell ⟨rb,0,none⟩ (.int .i64 (sh:Int))).setCell ⟨rb,1,none⟩ (.int .i64 (f' 0:Int))).setCell ⟨rb,2,none⟩ (.int .i64 (f' 1:Int))).setCell ⟨rb,3,none⟩ (.int .i64 (f' 2:Int))).setCell ⟨rb,4,none⟩ (.int .i64 (f' 3:Int))).setCell ⟨rb,5,none⟩ (.int .i64 (f' 4:Int))).setCell ⟨rb,6,none⟩ (.int .i64 (f' 5:Int))).setCell ⟨rb,7,none⟩ (.int .i64 (f' 6:Int))).setCell ⟨rb,8,none⟩ (.int .i64 (f' 7:Int))).setCell ⟨rb,9,none⟩ (.int .i64 (nn:Int))).setCell ⟨rb,10,none⟩ (.int .u8 (b:Int))):=zb4 HM4.out.b HM4.out.n;refine bodyPost_ret (v:=.tuple #[.agg #[.int .i64 (sh:Int),.int .i64 (f' 0:Int),.int .i64 (f' 1:Int),.int .i64 (f' 2:Int),.int .i64 (f' 3:Int),.int .i64 (f' 4:Int),.int .i64 (f' 5:Int),.int .i64 (f' 6:Int),.int .i64 (f' 7:Int),.int .i64 (nn:Int),.int .u8 (b:Int)],.bool false]) (by rw[results_cell_tmp rfl];go_simp) rfl ?_;have HTN:T=none:=HTN0.out;unfold RPost;rw[HTN];exact⟨HSH,sh,f',nn,b,rfl,fun x hx=>by cases hx⟩
    ·have n43:b≠43:=fun e=>hpm (.inl e)
     have n45:b≠45:=fun e=>hpm (.inr e)
     have HTN0:Hid (T=none):=hid (by rw[HTZ.out,zi4 hlt HB.out H90.out n43 n45]);have a43:¬(b:Int)=43:=by omega
     have b43:((b:Int)==43)=false:=by simpa using a43
     have a45:¬(b:Int)=45:=by omega
     have b45:((b:Int)==45)=false:=by simpa using a45
     clear HT HTZ HM HB n43 n45 hpm H90;obtain⟨m0,m1,m2,m3,m4,m5,m6,m7,m8,m9,m10⟩:=zae HM3.out.m;obtain⟨x0,x1,x2,x3,x4,x5,x6,x7,x8,x9,x10⟩:=zae HM3.out.r;have xf:∀j,w3.frozen? ⟨rb,j,none⟩=false:=HM3.out.r.frozen;go_wp2_with fail;have HSB:Blk (((((((((((w3.setCell ⟨rb,0,none⟩ (.int .i64 (sh:Int))).setCell ⟨rb,1,none⟩ (.int .i64 (f 0:Int))).setCell ⟨rb,2,none⟩ (.int .i64 (f 1:Int))).setCell ⟨rb,3,none⟩ (.int .i64 (f 2:Int))).setCell ⟨rb,4,none⟩ (.int .i64 (f 3:Int))).setCell ⟨rb,5,none⟩ (.int .i64 (f 4:Int))).setCell ⟨rb,6,none⟩ (.int .i64 (f 5:Int))).setCell ⟨rb,7,none⟩ (.int .i64 (f 6:Int))).setCell ⟨rb,8,none⟩ (.int .i64 (f 7:Int))).setCell ⟨rb,9,none⟩ (.int .i64 (nn:Int))).setCell ⟨rb,10,none⟩ (.int .u8 (b:Int))) rb 135 (mC sh f nn b):=za0 HM3.out.r;obtain⟨e0,e1,e2,e3,e4,e5,e6,e7,e8,e9,e10⟩:=zae HSB;have HSH:Below w.heap.size w (((((((((((w3.setCell ⟨rb,0,none⟩ (.int .i64 (sh:Int))).setCell ⟨rb,1,none⟩ (.int .i64 (f 0:Int))).setCell ⟨rb,2,none⟩ (.int .i64 (f 1:Int))).setCell ⟨rb,3,none⟩ (.int .i64 (f 2:Int))).setCell ⟨rb,4,none⟩ (.int .i64 (f 3:Int))).setCell ⟨rb,5,none⟩ (.int .i64 (f 4:Int))).setCell ⟨rb,6,none⟩ (.int .i64 (f 5:Int))).setCell ⟨rb,7,none⟩ (.int .i64 (f 6:Int))).setCell ⟨rb,8,none⟩ (.int .i64 (f 7:Int))).setCell ⟨rb,9,none⟩ (.int .i64 (nn:Int))).setCell ⟨rb,10,none⟩ (.int .u8 (b:Int))):=zb4 HM3.out.b HM3.out.n;refine bodyPost_ret (v:=.tuple #[.agg #[.int .i64 (sh:Int),.int .i64 (f 0:Int),.int .i64 (f 1:Int),.int .i64 (f 2:Int),.int .i64 (f 3:Int),.int .i64 (f 4:Int),.int .i64 (f 5:Int),.int .i64 (f 6:Int),.int .i64 (f 7:Int),.int .i64 (nn:Int),.int .u8 (b:Int)],.bool false]) (by rw[results_cell_tmp rfl];go_simp) rfl ?_;have HTN:T=none:=HTN0.out;unfold RPost;rw[HTN];exact⟨HSH,sh,f,nn,b,rfl,fun x hx=>by cases hx⟩
 case rest=>
 obtain⟨f',z',p',HM',HT'⟩:=hcut;refine(‹∀(a:Act) (w_1:World),Code.wp prog _ _ a w_1->_›) _ _ ?_;exact ztm s hl w _ sb rb mb ab fb sh f' nn z' p' T HM' HT'
theorem zrc (s:Gr.Str) (a:Nat) (ha:a=if s.head?=some 45 then 1 else 0):intB s=if a=s.length\/s.length-a>400\/((s.drop a).head?=some 48/\s.length>1)then false else(s.drop a).all Gr.dig:=by
 cases s with
 |nil=>subst ha;decide
 |cons c r=>
  by_cases hc:c=45
  ·subst hc;obtain rfl:a=1:=by rw[ha];rfl
   cases r with
   |nil=>decide
   |cons d r=>
    have e:intS (45::d::r)=d::r:=by unfold intS;rw[if_pos ⟨by simp,rfl⟩];rfl
    unfold intB;rw[e];simp only[List.drop_succ_cons,List.drop_zero];by_cases h:(d::r).length>400\/((d::r).head?=some 48/\(45::d::r).length>1)
    ·rw[if_pos (.inr h),if_pos (.inr (h.imp (fun h=>by simpa using h) id))]
    ·rw[if_neg (by rintro(h1|h1);simp at h1;exact h h1),if_neg (by rintro(h1|h1);simp at h1;exact h (h1.imp (fun h=>by simpa using h) id))]
  ·obtain rfl:a=0:=by rw[ha,if_neg (by simp[hc])]
   have e:intS (c::r)=c::r:=by unfold intS;rw[if_neg (by simp[hc])]
   unfold intB;rw[e,List.drop_zero];by_cases h:(c::r).length>400\/((c::r).head?=some 48/\(c::r).length>1)
   ·rw[if_pos (.inr h),if_pos (.inr (by simpa using h))]
   ·rw[if_neg (by rintro(h1|h1);simp at h1;exact h h1),if_neg (by rintro(h1|h1);simp at h1;exact h (by simpa using h1))]
theorem zir (c:UInt8) (b:Nat) (hb:c.toNat=b):Gr.dig c=(decide (48<=b) && decide (b<=57)):=by
 subst hb;unfold Gr.dig;rw[Bool.eq_iff_iff];simp[UInt8.le_iff_toNat_le]
theorem all_at {s:Gr.Str} {a k:Nat} (h:k<s.length) (hak:a<=k) (hd:Gr.dig s[k]=false):(s.drop a).all Gr.dig=false:=by
 rw[List.all_eq_false];refine⟨s[k],?_,by rw[hd];decide⟩;have:s[k]=(s.drop a)[k-a]'(by rw[List.length_drop];omega):=by rw[List.getElem_drop];congr 1;omega
 rw[this];exact List.getElem_mem _
theorem zea (s:Gr.Str) (hl:s.length<=1073741823) (a:Nat) (ha:a<=s.length) (w:World) (r:Bool) (hr:Hid ((s.drop a).all Gr.dig=r)) {u1 u2 u4 u5 u6 u7 u8 u9 u10 u11 u12 u13 u14 u15 u16 u17 u18 u19 u20 u21 u22 u23 u24 u25 u26 u27 u28 u29 u30 u31 u32 u33 u34 u35 u36 u37 u38 u39 u40 u41 u42 u43 u44 u45 u46 u47 u48 u49 u50 u51:Value}:
 Code.wp prog (tl 4 (f43.body.getD .skip)) (bodyPost prog f43 (fun e w'=>e=.returned (.bool r)/\w=w')) {tmps:=List.toArray (.string ⟨s.toArray⟩::u1::u2::.int .i64 (a:Int)::u4::u5::u6::u7::u8::u9::u10::u11::u12::u13::u14::u15::u16::u17::u18::u19::u20::u21::u22::u23::u24::u25::u26::u27::u28::u29::u30::u31::u32::u33::u34::u35::u36::u37::u38::u39::u40::u41::u42::u43::u44::u45::u46::u47::u48::u49::u50::u51::[]),defers:=[]} w:=by
 generalize hc0:tl 4 (f43.body.getD .skip)=c0;simp only[tl,f43,Option.getD_some]at hc0;subst hc0;go_wp2_with fail;go_loop [4] (fun s4=>∃k:Nat,a<=k/\k<=s.length/\s4=.int .i64 (k:Int)/\Hid (∀j (h:j<s.length),a<=j->j<k->Gr.dig s[j]=true)) (fun s4=>s.length-(intOf s4).toNat)
 case atStart=>exact⟨a,Nat.le_refl _,ha,rfl,hid (fun j _ h1 h2=>by omega)⟩
 case round=>
  obtain⟨k,hak,hk,rfl,hd⟩:=hrel;by_cases hlt:k<s.length
  ·have hltI:(k:Int)<(s.length:Int):=by omega
   obtain⟨b,hb⟩:∃b:Nat,(s[k]'hlt).toNat=b:=⟨_,rfl⟩
   have hbv:(((⟨s.toArray⟩:ByteArray)[k]'(by simpa[ByteArray.size]using hlt)).toNat:Int)=(b:Int):=by rw[<-hb];rfl
   have HBD:=hid (zir (s[k]'hlt) b hb);clear hb;by_cases h48:48<=b
   ·have a48:¬(b:Int)<48:=by omega
    by_cases h57:b<=57
    ·have a57:¬(57:Int)<(b:Int):=by omega
     go_wp2;go_round
     case rel=>exact⟨k+1,by omega,by omega,by go_num,hid (fun j h h1 h2=>by
      by_cases e:j=k
      ·subst e;rw[HBD.out];simp[h48,h57]
      ·exact hd.out j h h1 (by omega))⟩
     case measure=>simp[intOf];omega
    ·have a57:(57:Int)<(b:Int):=by omega
     have HF:Hid (r=false):=hid (by rw[<-hr.out];exact all_at hlt hak (by rw[HBD.out];simp[h57]));go_wp2;go_ret;rw[HF.out];exact⟨rfl,rfl⟩
   ·have a48:(b:Int)<48:=by omega
    have HF:Hid (r=false):=hid (by rw[<-hr.out];exact all_at hlt hak (by rw[HBD.out];simp[h48]));go_wp2;go_ret;rw[HF.out];exact⟨rfl,rfl⟩
  ·have hltI:¬(k:Int)<(s.length:Int):=by omega
   have HF:Hid (r=true):=hid (by
    rw[<-hr.out,List.all_eq_true];intro x hx;obtain⟨j,hj,rfl⟩:=List.getElem_of_mem hx;rw[List.length_drop]at hj;rw[List.getElem_drop];exact hd.out (a+j) (by omega) (by omega) (by omega))
   go_wp2;go_ret;rw[HF.out];exact⟨rfl,rfl⟩
theorem zck (s:Gr.Str) (hl:s.length<=1073741823) (a:Nat) (ha:a<=s.length) (w:World) (r:Bool) (hr:Hid ((if a=s.length\/s.length-a>400\/((s.drop a).head?=some 48/\s.length>1)then false else(s.drop a).all Gr.dig)=r)) {u1 u2 u4 u5 u6 u7 u8 u9 u10 u11 u12 u13 u14 u15 u16 u17 u18 u19 u20 u21 u22 u23 u24 u25 u26 u27 u28 u29 u30 u31 u32 u33 u34 u35 u36 u37 u38 u39 u40 u41 u42 u43 u44 u45 u46 u47 u48 u49 u50 u51:Value}:
 Code.wp prog (tl 3 (f43.body.getD .skip)) (bodyPost prog f43 (fun e w'=>e=.returned (.bool r)/\w=w')) {tmps:=List.toArray (.string ⟨s.toArray⟩::u1::u2::.int .i64 (a:Int)::u4::u5::u6::u7::u8::u9::u10::u11::u12::u13::u14::u15::u16::u17::u18::u19::u20::u21::u22::u23::u24::u25::u26::u27::u28::u29::u30::u31::u32::u33::u34::u35::u36::u37::u38::u39::u40::u41::u42::u43::u44::u45::u46::u47::u48::u49::u50::u51::[]),defers:=[]} w:=by
 generalize hc0:tl 3 (f43.body.getD .skip)=c0;simp only[tl,f43,Option.getD_some]at hc0;subst hc0;by_cases h1:a=s.length
 ·have h1I:((a:Int)==(s.length:Int))=true:=by rw[beq_iff_eq];omega
  have HF:Hid (r=false):=hid (by rw[<-hr.out,if_pos (.inl h1)]);clear h1;go_wp2;go_ret;rw[HF.out];exact⟨rfl,rfl⟩
 ·have h1I:((a:Int)==(s.length:Int))=false:=by rw[beq_eq_false_iff_ne];omega
  have hlt:a<s.length:=by omega
  by_cases h2:s.length-a>400
  ·have h2I:(400:Int)<(s.length:Int)-(a:Int):=by omega
   have HF:Hid (r=false):=hid (by rw[<-hr.out,if_pos (.inr (.inl h2))]);clear h1 h2;go_wp2;go_ret;rw[HF.out];exact⟨rfl,rfl⟩
  ·have h2I:¬(400:Int)<(s.length:Int)-(a:Int):=by omega
   have hd:(s.drop a).head?=some s[a]:=by rw[List.head?_drop,List.getElem?_eq_getElem hlt]
   by_cases h3:s[a]=48
   ·have b1:=zar s a hlt _ 48 48 rfl rfl h3;have b2:=zaj s a hlt _ 48 48 rfl rfl h3;by_cases h4:s.length>1
    ·have h4I:(1:Int)<(s.length:Int):=by omega
     have HF:Hid (r=false):=hid (by rw[<-hr.out,if_pos (.inr (.inr ⟨by rw[hd,h3],h4⟩))]);clear h1 h2 h3 hd;go_wp2;go_ret;rw[HF.out];exact⟨rfl,rfl⟩
    ·have h4I:¬(1:Int)<(s.length:Int):=by omega
     have HL:Hid ((s.drop a).all Gr.dig=r):=hid (by rw[<-hr.out,if_neg (by rintro(h|h|⟨_,h⟩);exact h1 h;exact h2 h;exact h4 h)]);clear h1 h2 h3 hd;go_upto_if 34 with fail;go_cut [] (fun wx=>wx=w)
     case first=>
      go_wp2;go_meet;exact rfl
     case rest=>
     subst hcut;refine(‹∀(a:Act) (w_1:World),Code.wp prog _ _ a w_1->_›) _ _ ?_;exact zea s hl a ha _ r HL
   ·have b1:=zah s a hlt _ 48 48 rfl rfl h3;have b2:=zak s a hlt _ 48 48 rfl rfl h3;have HL:Hid ((s.drop a).all Gr.dig=r):=hid (by rw[<-hr.out,if_neg (by rintro(h|h|⟨h,_⟩);exact h1 h;exact h2 h;rw[hd]at h;injection h with h;exact h3 h)]);clear h1 h2 h3 hd;go_upto_if 34 with fail;go_cut [] (fun wx=>wx=w)
    case first=>
     go_wp2;go_meet;exact rfl
    case rest=>
    subst hcut;refine(‹∀(a:Act) (w_1:World),Code.wp prog _ _ a w_1->_›) _ _ ?_;exact zea s hl a ha _ r HL
theorem ze0 (s:Gr.Str) (hl:s.length<=1073741823) (w:World):Calls prog 43 #[.string ⟨s.toArray⟩] w fun e w'=>e=.returned (.bool (intB s))/\w=w':=by
 obtain⟨r,hr⟩:=ex (intB s)
 rw[hr];have HR:=fun(a:Nat) ha=>hid ((zrc s a ha).symm.trans hr)
 clear hr;by_cases h0:0<s.length
 ·have h0I:(0:Int)<(s.length:Int):=by omega
  have hh:s.head?=some s[0]:=by rw[List.head?_eq_getElem?,List.getElem?_eq_getElem h0]
  by_cases h45:s[0]=45
  ·have b1:=zar s 0 h0 _ 45 45 rfl rfl h45;have b2:=zaj s 0 h0 _ 45 45 rfl rfl h45;have HL:=HR 1 (by rw[hh,h45];rfl);clear HR hh h45;go_enter func43,ntmps43;go_upto_if 12 with fail;go_cut [3] (fun s3 wx=>s3=.int .i64 ((1:Nat):Int)/\wx=w)
   case first=>
    go_wp2;go_meet;exact⟨rfl,rfl⟩
   case rest=>
   obtain⟨rfl,rfl⟩:=hcut;refine(‹∀(a:Act) (w_1:World),Code.wp prog _ _ a w_1->_›) _ _ ?_;exact zck s hl 1 (by omega) _ r HL
  ·have b1:=zah s 0 h0 _ 45 45 rfl rfl h45;have b2:=zak s 0 h0 _ 45 45 rfl rfl h45;have HL:=HR 0 (by rw[hh,if_neg (by intro e;injection e with e;exact h45 e)]);clear HR hh h45;go_enter func43,ntmps43;go_upto_if 12 with fail;go_cut [3] (fun s3 wx=>s3=.int .i64 ((0:Nat):Int)/\wx=w)
   case first=>
    go_wp2;go_meet;exact⟨rfl,rfl⟩
   case rest=>
   obtain⟨rfl,rfl⟩:=hcut;refine(‹∀(a:Act) (w_1:World),Code.wp prog _ _ a w_1->_›) _ _ ?_;exact zck s hl 0 (by omega) _ r HL
 ·have h0I:¬(0:Int)<(s.length:Int):=by omega
  have HL:=HR 0 (by rw[show s=[]from List.eq_nil_of_length_eq_zero (by omega)];rfl);clear HR;go_enter func43,ntmps43;go_upto_if 12 with fail;go_cut [3] (fun s3 wx=>s3=.int .i64 ((0:Nat):Int)/\wx=w)
  case first=>
   go_wp2;go_meet;exact⟨rfl,rfl⟩
  case rest=>
  obtain⟨rfl,rfl⟩:=hcut;refine(‹∀(a:Act) (w_1:World),Code.wp prog _ _ a w_1->_›) _ _ ?_;exact zck s hl 0 (by omega) _ r HL
end Go.Proofs.YtoigpackhninoaaGreatDoor
