import Derived.Test.YtoigpackhninoaaGreatDoorZ14
import Derived.Test.YtoigpackhninoaaGreatDoorZ20
namespace Go.Proofs.YtoigpackhninoaaGreatDoor
open Gr
open _root_.Go.Proofs.Tryz
open Lib (hid)
set_option maxRecDepth 100000
set_option maxHeartbeats 16000000
open Go.RowKit
theorem zpz (x:Gr.Dn) (A:Option Addr) (c:Nat) (hl:x.d.length<=1073741823) (w:World):
 Calls prog 112 #[.agg #[.bool x.neg,.slice A x.d.length c,.int .i64 x.e]] w fun e w'=>e=.returned (.int .i64 (lim x:Nat))/\Below w.heap.size w w':=by
 obtain⟨neg,d,e⟩:=x;simp only at hl ⊢;have hb:Below w.heap.size w (w.alloc (.cells #[.bool neg,.slice A d.length c,.int .i64 e] 125)):=(Below.refl _ _).alloc (Nat.le_refl _) _;have HB:=hid hb;clear hb;by_cases h1:400<d.length
 ·have hF:Hid (lim ⟨neg,d,e⟩=6):=hid (by unfold lim;rw[if_pos h1]);have h1I:(400:Int)<(d.length:Int):=by omega
  go_enter func112,ntmps112;go_wp2;go_ret;rw[hF.out];exact⟨rfl,HB.out⟩
 ·have h1I:¬(400:Int)<(d.length:Int):=by omega
  by_cases h2:e< -2000
  ·have hF:Hid (lim ⟨neg,d,e⟩=2):=hid (by unfold lim;rw[if_neg h1,if_pos (.inl h2)]);go_enter func112,ntmps112;go_wp2;go_ret;rw[hF.out];exact⟨rfl,HB.out⟩
  ·by_cases h3:2000<e
   ·have hF:Hid (lim ⟨neg,d,e⟩=2):=hid (by unfold lim;rw[if_neg h1,if_pos (.inr h3)]);go_enter func112,ntmps112;go_wp2;go_ret;rw[hF.out];exact⟨rfl,HB.out⟩
   ·have hF:Hid (lim ⟨neg,d,e⟩=0):=hid (by unfold lim;rw[if_neg h1,if_neg (fun h=>h.elim h2 h3)]);go_enter func112,ntmps112;go_wp2;go_ret;rw[hF.out];exact⟨rfl,HB.out⟩
def signS (neg:Bool):Gr.Str:=if neg=true then[45]else[]
theorem zsx (neg:Bool) (A:Option Addr) (n c:Nat) (e:Int) (w:World):
 Calls prog 172 #[.agg #[.bool neg,.slice A n c,.int .i64 e]] w fun e' w'=>e'=.returned (.string ⟨(signS neg).toArray⟩)/\Below w.heap.size w w':=by
 have hb:Below w.heap.size w (w.alloc (.cells #[.bool neg,.slice A n c,.int .i64 e] 125)):=(Below.refl _ _).alloc (Nat.le_refl _) _;have HB:=hid hb;clear hb;cases neg
 all_goals
  go_enter func172,ntmps172;go_wp2;go_ret;exact⟨rfl,HB.out⟩
theorem zd1 (w:World) (s:List UInt8) (A:Option Addr) (c:Nat) {B:Nat} (h:RowAt byteL w B A s):(convert 119 9 (.slice A s.length c)).run prog w=.ok (.string ⟨s.toArray⟩) w:=by
 cases s with
 |nil=>
  cases A with
  |none=>exact run_convert_bytes_nil (P:=prog) w 119 5 underlying119 underlying5 0 c 9 underlying9
  |some a=>exact run_convert_bytes_back (P:=prog) w 119 9 5 a c [] underlying119 underlying5 underlying9 (fun j hj=>by simp at hj)
 |cons b r=>
  obtain⟨ad,rfl,_,_⟩:=h.get (k:=0) (by simp);refine run_convert_bytes_back (P:=prog) w 119 9 5 ad c (b::r) underlying119 underlying5 underlying9 (fun j hj=>?_);obtain⟨ad',e,_,h0,_⟩:=h.get hj;cases e;have:=h0 _ rfl;simpa[byteL]using this
theorem zmv (neg:Bool) (A:Option Addr) (d:List Nat) (c:Nat) (E:Int) (hl:d.length<=1073741823) (hd:∀v∈d,v<10) (w:World) (h:RowAt byteL w w.heap.size A (d8 d)):
 Calls prog 173 #[.agg #[.bool neg,.slice A d.length c,.int .i64 E]] w fun e' w'=>e'=.returned (.string ⟨(d.map Gr.ch).toArray⟩)/\Below w.heap.size w w':=by
 have hmk:=fun W=>zcw d.length (by omega) W
 have HD:=hid hd;have HRow:=hid h;clear hd h;go_enter func173,ntmps173;go_upto_region 2 with fail;obtain⟨w0,hw0⟩:=ex (w.alloc (.cells #[.bool neg,.slice A d.length c,.int .i64 E] 125))
 have hb0:Blk w0 w.heap.size 125 #[.bool neg,.slice A d.length c,.int .i64 E]:=by rw[<-hw0];exact Blk.new _ _ _
 have hl0:Below w.heap.size w w0:=by rw[<-hw0];exact(Below.refl _ _).alloc (Nat.le_refl _) _
 have hs0:w0.heap.size=w.heap.size+1:=by rw[<-hw0];simp
 obtain⟨gb,hgb⟩:=ex w.heap.size
 (try rw[hw0]);(try rw[hgb]);rw[hgb]at hb0 hl0 hs0 HRow;obtain⟨w1,hw1⟩:=ex (w0.alloc (.cells (ucells (List.replicate d.length 0)) 5))
 have hb1:Blk w1 (gb+1) 5 (ucells (List.replicate d.length 0)):=by rw[<-hw1,<-hs0];exact Blk.new _ _ _
 have hl1:Below (gb+1) w0 w1:=by rw[<-hw1,<-hs0];exact(Below.refl _ _).alloc (Nat.le_refl _) _
 have HB1:Hid (Blk w1 gb 125 #[.bool neg,.slice A d.length c,.int .i64 E]/\Blk w1 (gb+1) 5 (ucells (List.replicate d.length 0))/\Below gb w w1):=hid ⟨hb0.below hl1 (by omega),hb1,hl0.trans (hl1.mono (by omega))⟩;have HGB:=hid hgb;(try rw[hs0]);(try rw[hw1]);clear hw0 hgb hb0 hl0 hs0 hw1 hb1 hl1 hmk;have q1:w1.cell? ⟨gb,1,none⟩=some (.slice A d.length c):=HB1.out.1.cell 1;go_wp2_with fail;clear q1;go_loopw [13] (fun s13 wr=>∃k:Nat,k<=d.length/\s13=.int .i64 k/\Hid (Blk wr (gb+1) 5 (ucells ((d.take k).map Gr.ch++List.replicate (d.length-k) 0))/\Below gb w wr)) (fun s13 _=>d.length-(intOf s13).toNat)
 case atStart=>exact⟨0,by omega,rfl,hid ⟨by simpa using HB1.out.2.1,HB1.out.2.2⟩⟩
 case round=>
  obtain⟨k,hk,rfl,HV⟩:=hrel;by_cases hlt:k<d.length
  ·have hltI:(k:Int)<(d.length:Int):=by omega
   obtain⟨v,hv⟩:=ex (d[k])
   have hv10:v<10:=by rw[<-hv];exact HD.out _ (List.getElem_mem hlt)
   obtain⟨ad,hade,_,y0⟩:=zvt (HRow.out.below HV.out.2) hlt hv hv10;subst hade;have pfd:∀j,wr.frozen? ⟨gb+1,j,none⟩=false:=HV.out.1.frozen;have hlen1:((d.take k).map Gr.ch).length=k:=by simp;omega
   obtain⟨dv,zd⟩:∃dv,wr.cell? ⟨gb+1,k,none⟩=some dv:=by
    rw[HV.out.1.cell];refine⟨_,Array.getElem?_eq_getElem (i:=k) ?_⟩;simp[ucells];omega
   have HNX:Hid ((d.take (k+1)).map Gr.ch=(d.take k).map Gr.ch++[Gr.ch v]/\((d.take k).map Gr.ch).length=k):=hid ⟨by
    rw[List.take_succ_eq_append_getElem hlt,List.map_append,hv];rfl,hlen1⟩
   have hvI:(v:Int)<10:=by omega
   clear hv hlen1;go_wp2_with fail;obtain⟨xb,hxb⟩:∃xb:UInt8,xb=Gr.ch v:=⟨_,rfl⟩
   have hxi:48+(v:Int)=(xb.toNat:Int):=by rw[hxb];unfold Gr.ch;rw[UInt8.toNat_ofNat'];omega
   rw[hxi];have HN:Hid (Blk (wr.setCell ⟨gb+1,k,none⟩ (.int .u8 (xb.toNat:Int))) (gb+1) 5 (ucells ((d.take (k+1)).map Gr.ch++List.replicate (d.length-(k+1)) 0))/\Below gb w (wr.setCell ⟨gb+1,k,none⟩ (.int .u8 (xb.toNat:Int)))):=hid ⟨by
    have h1:=HV.out.1.set_ k (.int .u8 (xb.toNat:Int));rw[zd0]at h1;have h2:=zlb ((d.take k).map Gr.ch) (d.length-k) xb (by omega);rw[HNX.out.2]at h2;rw[h2]at h1;rw[HNX.out.1,<-hxb,show d.length-(k+1)=d.length-k-1 from by omega];exact h1,HV.out.2.setCell (by simp) _⟩
   clear hxi hxb;go_roundw
   case rel=>exact⟨k+1,by omega,by go_num,HN⟩
   case measure=>simp[intOf];omega
  ·have hltI:¬(k:Int)<(d.length:Int):=by omega
   have hr:RowAt byteL wr (gb+2) (some ⟨gb+1,0,none⟩) (d.map Gr.ch):=by
    have:=HV.out.1;rw[show k=d.length from by omega,List.take_length,Nat.sub_self,List.replicate_zero,List.append_nil]at this;exact RowAt.ofBlk this (zar _) (by omega)
   have hcv:=zd1 wr _ (some ⟨gb+1,0,none⟩) d.length hr;rw[List.length_map]at hcv;clear hr;go_wp2;go_ret;exact⟨rfl,by rw[HGB.out];exact HV.out.2⟩
def mZ:Array Value:=#[.int .i64 0,.int .i64 0,.int .i64 0,.int .i64 0,.int .i64 0,.int .i64 0,.int .i64 0,.int .i64 0,.int .i64 0,.int .i64 0,.int .u8 0]
structure RMem (s:Gr.Str) (w:World) (sb rb mb ab fb:Nat) (sh:Nat) (f:Nat->Nat) (nn z p:Nat) (wx:World):Prop where
 b:Below w.heap.size w wx
 n:w.heap.size<=rb
 nm:w.heap.size<=mb
 na:w.heap.size<=ab
 mr:mb≠rb
 s:Blk wx sb 9 #[.string ⟨s.toArray⟩]
 r:Blk wx rb 135 mZ
 m:Blk wx mb 135 (mC sh f nn z)
 a:Blk wx ab 3 #[.int .i64 (p:Int)]
 f:Blk wx fb 170 #[.func (.func 124) #[] #[.pointer (some ⟨ab,0,none⟩),.pointer (some ⟨sb,0,none⟩)]]
theorem RMem.up {s:Gr.Str} {w:World} {sb rb mb ab fb sh:Nat} {f:Nat->Nat} {nn z p:Nat} {wx wy:World} (h:RMem s w sb rb mb ab fb sh f nn z p wx) (hb:Below wx.heap.size wx wy):RMem s w sb rb mb ab fb sh f nn z p wy:=
 ⟨h.b.trans (hb.mono h.b.size),h.n,h.nm,h.na,h.mr,h.s.below hb h.s.lt,h.r.below hb h.r.lt,h.m.below hb h.m.lt,h.a.below hb h.a.lt,h.f.below hb h.f.lt⟩
theorem WL.hc2 {g:Nat} {t:TypeId} {w0:World} {cs cs':Array Value} (y:WL g t w0 cs) (e:cs=cs'):Blk y.w g t cs':=by subst e;exact y.hc
def RPost (T:Option (Array Value)) (w:World) (e:Ending) (w':World):Prop:=Below w.heap.size w w'/\∃(sh:Nat) (f:Nat->Nat) (nn z:Nat),e=.returned (.tuple #[.agg (mC sh f nn z),.bool T.isSome])/\∀x,T=some x->x=mC sh f nn z
theorem zba {w:World} {g:Nat} {t:TypeId} {c0 c1 c2 c3 c4 c5 c6 c7 c8 c9 c10 v0 v1 v2 v3 v4 v5 v6 v7 v8 v9 v10:Value} (h:Blk w g t #[c0,c1,c2,c3,c4,c5,c6,c7,c8,c9,c10]):Blk (((((((((((w.setCell ⟨g,0,none⟩ (v0)).setCell ⟨g,1,none⟩ (v1)).setCell ⟨g,2,none⟩ (v2)).setCell ⟨g,3,none⟩ (v3)).setCell ⟨g,4,none⟩ (v4)).setCell ⟨g,5,none⟩ (v5)).setCell ⟨g,6,none⟩ (v6)).setCell ⟨g,7,none⟩ (v7)).setCell ⟨g,8,none⟩ (v8)).setCell ⟨g,9,none⟩ (v9)).setCell ⟨g,10,none⟩ (v10)) g t #[v0,v1,v2,v3,v4,v5,v6,v7,v8,v9,v10]:=by
 have h1:=(((((((((((h.set_ 0 v0).set_ 1 v1).set_ 2 v2).set_ 3 v3).set_ 4 v4).set_ 5 v5).set_ 6 v6).set_ 7 v7).set_ 8 v8).set_ 9 v9).set_ 10 v10)
 simp only[List.setIfInBounds_toArray,List.set_cons_zero,List.set_cons_succ]at h1;exact h1
theorem kb11 {w0 w:World} {g:Nat} (h:KB g w0 w) {v0 v1 v2 v3 v4 v5 v6 v7 v8 v9 v10:Value}:KB g w0 (((((((((((w.setCell ⟨g,0,none⟩ (v0)).setCell ⟨g,1,none⟩ (v1)).setCell ⟨g,2,none⟩ (v2)).setCell ⟨g,3,none⟩ (v3)).setCell ⟨g,4,none⟩ (v4)).setCell ⟨g,5,none⟩ (v5)).setCell ⟨g,6,none⟩ (v6)).setCell ⟨g,7,none⟩ (v7)).setCell ⟨g,8,none⟩ (v8)).setCell ⟨g,9,none⟩ (v9)).setCell ⟨g,10,none⟩ (v10)):=
 (((((((((((h.set 0 _).set 1 _).set 2 _).set 3 _).set 4 _).set 5 _).set 6 _).set 7 _).set 8 _).set 9 _).set 10 _)
theorem zco {w0 w:World} {g B:Nat} (h:Below B w0 w) (hB:B<=g) {v0 v1 v2 v3 v4 v5 v6 v7 v8 v9 v10:Value}:Below B w0 (((((((((((w.setCell ⟨g,0,none⟩ (v0)).setCell ⟨g,1,none⟩ (v1)).setCell ⟨g,2,none⟩ (v2)).setCell ⟨g,3,none⟩ (v3)).setCell ⟨g,4,none⟩ (v4)).setCell ⟨g,5,none⟩ (v5)).setCell ⟨g,6,none⟩ (v6)).setCell ⟨g,7,none⟩ (v7)).setCell ⟨g,8,none⟩ (v8)).setCell ⟨g,9,none⟩ (v9)).setCell ⟨g,10,none⟩ (v10)):=
 (((((((((((h.setCell (p:=⟨g,0,none⟩) hB _).setCell (p:=⟨g,1,none⟩) hB _).setCell (p:=⟨g,2,none⟩) hB _).setCell (p:=⟨g,3,none⟩) hB _).setCell (p:=⟨g,4,none⟩) hB _).setCell (p:=⟨g,5,none⟩) hB _).setCell (p:=⟨g,6,none⟩) hB _).setCell (p:=⟨g,7,none⟩) hB _).setCell (p:=⟨g,8,none⟩) hB _).setCell (p:=⟨g,9,none⟩) hB _).setCell (p:=⟨g,10,none⟩) hB _)
theorem zx5 (s:Gr.Str) (_hl:s.length<=1073741823) (w wx:World) (sb rb mb ab fb sh:Nat) (f:Nat->Nat) (nn z p:Nat) (T:Option (Array Value)) (HM:Hid (RMem s w sb rb mb ab fb sh f nn z p wx)) (HT:Hid (T=if p=s.length then some (mC sh f nn z)else none)) {u3 u8 u9 u10 u11 u12 u13 u14 u15 u16 u17 u18 u19 u20 u21 u22 u23 u24 u25 u26 u27 u28 u29 u30 u31 u32 u33 u34 u35 u36 u37 u38 u39 u40 u41 u42 u43 u44 u45 u46 u47 u48 u49 u50 u51 u52 u53 u54 u55 u56 u57 u58 u59 u60 u61 u62 u63 u64 u65 u66 u67 u68 u69 u70 u71 u72 u73 u74 u75 u76 u77 u78 u79 u80 u81 u82 u83 u84 u85 u86 u87 u88 u89 u90 u91 u92 u93 u94 u95 u96 u97 u98 u99 u100 u101 u102 u103 u104 u105 u106 u107 u108 u109 u110 u111 u112 u113 u114 u115 u116 u117 u118 u119 u120 u121 u122 u123 u124 u125 u126 u127 u128 u129 u130 u131 u132 u133 u134 u135 u136 u137 u138 u139 u140 u141 u142 u143 u144 u145 u146 u147 u148 u149 u150 u151 u152 u153 u154:Value}:
 Code.wp prog (tl 10 (f92.body.getD .skip)) (bodyPost prog f92 (RPost T w)) {tmps:=List.toArray (.string ⟨s.toArray⟩::.pointer (some ⟨sb,0,none⟩)::.pointer (some ⟨rb,0,none⟩)::u3::.pointer (some ⟨mb,0,none⟩)::.pointer (some ⟨ab,0,none⟩)::.pointer (some ⟨fb,0,none⟩)::.func (.func 125) #[] #[.pointer (some ⟨ab,0,none⟩),.pointer (some ⟨sb,0,none⟩),.pointer (some ⟨fb,0,none⟩)]::u8::u9::u10::u11::u12::u13::u14::u15::u16::u17::u18::u19::u20::u21::u22::u23::u24::u25::u26::u27::u28::u29::u30::u31::u32::u33::u34::u35::u36::u37::u38::u39::u40::u41::u42::u43::u44::u45::u46::u47::u48::u49::u50::u51::u52::u53::u54::u55::u56::u57::u58::u59::u60::u61::u62::u63::u64::u65::u66::u67::u68::u69::u70::u71::u72::u73::u74::u75::u76::u77::u78::u79::u80::u81::u82::u83::u84::u85::u86::u87::u88::u89::u90::u91::u92::u93::u94::u95::u96::u97::u98::u99::u100::u101::u102::u103::u104::u105::u106::u107::u108::u109::u110::u111::u112::u113::u114::u115::u116::u117::u118::u119::u120::u121::u122::u123::u124::u125::u126::u127::u128::u129::u130::u131::u132::u133::u134::u135::u136::u137::u138::u139::u140::u141::u142::u143::u144::u145::u146::u147::u148::u149::u150::u151::u152::u153::u154::[]),defers:=[]} wx:=by
 generalize hc0:tl 10 (f92.body.getD .skip)=c0;simp only[tl,f92,Option.getD_some]at hc0;subst hc0;obtain⟨ok,hok⟩:=ex (decide ((p:Int)=(s.length:Int)))
 have hokb:((p:Int)==(s.length:Int))=ok:=by rw[<-hok];rfl
 have HOK:Hid (T=if ok=true then some (mC sh f nn z)else none):=hid (by
  rw[HT.out,<-hok];by_cases h:p=s.length
  ·rw[if_pos h,if_pos (by simp[h])]
  ·rw[if_neg h,if_neg (by simp;omega)])
 clear hok HT;go_upto_region 36 with fail;obtain⟨Z,hZ⟩:∃Z:Bool->Array Value,Z=fun b=>if b=true then mC sh f nn z else mZ:=⟨_,rfl⟩
 have HZ0:Hid (Z false=mZ/\Z true=mC sh f nn z):=hid (by rw[hZ];exact⟨rfl,rfl⟩);clear hZ;have HD0:Hid (∃y:WL rb 135 wx (Z false),{wx with drawn:=wx.drawn+1}=y.w):=hid ⟨⟨wx.drewN 1,(KB.refl _ _).drewN 1,by rw[HZ0.out.1];exact HM.out.r.drewN 1⟩,rfl⟩;have HSTO:Hid (∀y:WL rb 135 wx (Z false),∃z':WL rb 135 wx (Z true),(((((((((((y.w.setCell ⟨rb,0,none⟩ (.int .i64 (sh:Int))).setCell ⟨rb,1,none⟩ (.int .i64 (f 0:Int))).setCell ⟨rb,2,none⟩ (.int .i64 (f 1:Int))).setCell ⟨rb,3,none⟩ (.int .i64 (f 2:Int))).setCell ⟨rb,4,none⟩ (.int .i64 (f 3:Int))).setCell ⟨rb,5,none⟩ (.int .i64 (f 4:Int))).setCell ⟨rb,6,none⟩ (.int .i64 (f 5:Int))).setCell ⟨rb,7,none⟩ (.int .i64 (f 6:Int))).setCell ⟨rb,8,none⟩ (.int .i64 (f 7:Int))).setCell ⟨rb,9,none⟩ (.int .i64 (nn:Int))).setCell ⟨rb,10,none⟩ (.int .u8 (z:Int)))=z'.w):=hid (fun y=>⟨⟨_,kb11 y.h,by
  have h0:=WL.hc2 y HZ0.out.1;rw[HZ0.out.2];exact zba h0⟩,rfl⟩)
 have HNE:Hid (∀b,Nonempty (WL rb 135 wx (Z b))):=hid (fun b=>by
  obtain⟨y,_⟩:=HD0.out;cases b with
  |false=>exact⟨y⟩
  |true=>obtain⟨z',_⟩:=HSTO.out y;exact⟨z'⟩)
 have HQ:Hid (∀b,∀y:WL rb 135 wx (Z b),Blk y.w mb 135 (mC sh f nn z)/\Blk y.w ab 3 #[.int .i64 (p:Int)]/\Blk y.w sb 9 #[.string ⟨s.toArray⟩]):=hid (fun b y=>⟨y.h.blk HM.out.m HM.out.mr,y.h.blk HM.out.a (HM.out.a.ne_ HM.out.r (by decide)),y.h.blk HM.out.s (HM.out.s.ne_ HM.out.r (by decide))⟩);refine za9 (aF:=?aF) 5 (by kernel_rfl) _ rfl rfl rfl rfl rfl (by kernel_rfl) (by kernel_rfl) (by kernel_rfl) (by kernel_rfl) (by kernel_rfl) (fun b W=>∃y:WL rb 135 wx (Z b),W=y.w) HD0.out (fun b=>?h1) ?h2 ?h3
 case h1=>
  have q0:∀y:WL rb 135 wx (Z b),y.w.cell? ⟨mb,0,none⟩=some (.int .i64 (sh:Int)):=fun y=>(HQ.out b y).1.cell 0
  have q1:∀y:WL rb 135 wx (Z b),y.w.cell? ⟨mb,1,none⟩=some (.int .i64 (f 0:Int)):=fun y=>(HQ.out b y).1.cell 1
  have q2:∀y:WL rb 135 wx (Z b),y.w.cell? ⟨mb,2,none⟩=some (.int .i64 (f 1:Int)):=fun y=>(HQ.out b y).1.cell 2
  have q3:∀y:WL rb 135 wx (Z b),y.w.cell? ⟨mb,3,none⟩=some (.int .i64 (f 2:Int)):=fun y=>(HQ.out b y).1.cell 3
  have q4:∀y:WL rb 135 wx (Z b),y.w.cell? ⟨mb,4,none⟩=some (.int .i64 (f 3:Int)):=fun y=>(HQ.out b y).1.cell 4
  have q5:∀y:WL rb 135 wx (Z b),y.w.cell? ⟨mb,5,none⟩=some (.int .i64 (f 4:Int)):=fun y=>(HQ.out b y).1.cell 5
  have q6:∀y:WL rb 135 wx (Z b),y.w.cell? ⟨mb,6,none⟩=some (.int .i64 (f 5:Int)):=fun y=>(HQ.out b y).1.cell 6
  have q7:∀y:WL rb 135 wx (Z b),y.w.cell? ⟨mb,7,none⟩=some (.int .i64 (f 6:Int)):=fun y=>(HQ.out b y).1.cell 7
  have q8:∀y:WL rb 135 wx (Z b),y.w.cell? ⟨mb,8,none⟩=some (.int .i64 (f 7:Int)):=fun y=>(HQ.out b y).1.cell 8
  have q9:∀y:WL rb 135 wx (Z b),y.w.cell? ⟨mb,9,none⟩=some (.int .i64 (nn:Int)):=fun y=>(HQ.out b y).1.cell 9
  have q10:∀y:WL rb 135 wx (Z b),y.w.cell? ⟨mb,10,none⟩=some (.int .u8 (z:Int)):=fun y=>(HQ.out b y).1.cell 10
  have hne:=HNE.out b;have qA:∀y:WL rb 135 wx (Z b),y.w.cell? ⟨ab,0,none⟩=some (.int .i64 (p:Int)):=fun y=>(HQ.out b y).2.1.cell 0
  have qS:∀y:WL rb 135 wx (Z b),y.w.cell? ⟨sb,0,none⟩=some (.string ⟨s.toArray⟩):=fun y=>(HQ.out b y).2.2.cell 0
  simp only[List.set_cons_succ,List.set_cons_zero,nopOf,List.getElem_toArray,List.getElem_cons_succ,List.getElem_cons_zero]
  iterate 7 (go_big_quiet_step (fail))
  refine wpQuiet_nil ?_;rfl
 case h2=>
  rintro _ ⟨y,rfl⟩;obtain⟨z',hz⟩:=HSTO.out y;have hyc:Blk y.w rb 135 #[.int .i64 0,.int .i64 0,.int .i64 0,.int .i64 0,.int .i64 0,.int .i64 0,.int .i64 0,.int .i64 0,.int .i64 0,.int .i64 0,.int .u8 0]:=WL.hc2 y HZ0.out.1;have f0:∀j,y.w.frozen? ⟨rb,j,none⟩=false:=hyc.frozen;obtain⟨c0,c1,c2,c3,c4,c5,c6,c7,c8,c9,c10⟩:=zaf hyc;refine⟨z'.w,?_,z',rfl⟩;rw[<-hz];simp only[List.getElem_toArray,List.getElem_cons_succ,List.getElem_cons_zero];go_simp
 case h3=>
 rintro _ ⟨y,rfl⟩;have hyc:Blk y.w rb 135 (mC sh f nn z):=WL.hc2 y HZ0.out.2;obtain⟨e0,e1,e2,e3,e4,e5,e6,e7,e8,e9,e10⟩:=zaf hyc;go_wp2_with fail;have HSH:Below w.heap.size w y.w:=HM.out.b.trans (y.h.below HM.out.n HM.out.b.size);refine bodyPost_ret (v:=.tuple #[.agg #[.int .i64 (sh:Int),.int .i64 (f 0:Int),.int .i64 (f 1:Int),.int .i64 (f 2:Int),.int .i64 (f 3:Int),.int .i64 (f 4:Int),.int .i64 (f 5:Int),.int .i64 (f 6:Int),.int .i64 (f 7:Int),.int .i64 (nn:Int),.int .u8 (z:Int)],.bool ok]) (by rw[results_cell_tmp rfl];go_simp) rfl ?_;unfold RPost;refine⟨HSH,sh,f,nn,z,?_,fun x hx=>?_⟩
 ·rw[HOK.out];cases ok<;>rfl
 ·rw[HOK.out]at hx;split at hx
  ·injection hx with hx;exact hx.symm
  ·cases hx
theorem fld0 (s:Gr.Str) (a first c:Nat):fldAt s a first c 0=numAt s a first:=rfl
theorem fld1 (s:Gr.Str) (a first c:Nat):fldAt s a first c 1=if isAt s (a+first) (UInt8.ofNat c)=true then numAt s (a+first+1) 2 else none:=by
 unfold fldAt posAt;simp
theorem fld2 (s:Gr.Str) (a first c:Nat):fldAt s a first c 2=if isAt s (a+first+3) (UInt8.ofNat c)=true then numAt s (a+first+4) 2 else none:=by
 unfold fldAt posAt;simp[Nat.add_assoc]
theorem zff {c:Prop} [Decidable c] {o:Option Nat} {v:Nat} (h:(if c then o else none)=some v):c/\o=some v:=by
 grind
theorem zfg {c:Prop} [Decidable c] {o:Option Nat} (h:(if c then o else none)=none):¬c\/o=none:=by
 grind
theorem zta {s:Gr.Str} {g:Nat->Nat} (h:∀j,j<3->fldAt s 0 4 45 j=some (g (0+j))):dateAt s=some (g 0,g 1,g 2):=by
 have h0:=h 0 (by omega);have h1:=h 1 (by omega);have h2:=h 2 (by omega);rw[fld0]at h0;rw[fld1]at h1;rw[fld2]at h2;obtain⟨a1,b1⟩:=zff h1;obtain⟨a2,b2⟩:=zff h2;unfold dateAt;rw[h0,show(5:Nat)=0+4+1 from rfl,show(8:Nat)=0+4+4 from rfl,b1,b2];show(if(isAt s (0+4) (UInt8.ofNat 45) && isAt s (0+4+3) (UInt8.ofNat 45))=true then _ else _)=_;rw[a1,a2];rfl
theorem zm0 {s:Gr.Str} (h:∃j,j<3/\fldAt s 0 4 45 j=none):dateAt s=none:=by
 obtain⟨j,hj,h⟩:=h;unfold dateAt;have:j=0\/j=1\/j=2:=by omega
 rcases this with rfl|rfl|rfl
 ·rw[fld0]at h;rw[h]
 ·rw[fld1]at h;rcases zfg h with h|h
  ·grind
  ·grind
 ·rw[fld2]at h;rcases zfg h with h|h
  ·grind
  ·grind
structure ClkIs (s:Gr.Str) (a h m c:Nat):Prop where
 h:numAt s a 2=some h
 m:numAt s (a+3) 2=some m
 c:numAt s (a+6) 2=some c
 i:isAt s (a+2) 58=true
 j:isAt s (a+5) 58=true
theorem zv3 {s:Gr.Str} {a:Nat} {g:Nat->Nat} (h:∀j,j<3->fldAt s a 2 58 j=some (g (3+j))):ClkIs s a (g 3) (g 4) (g 5):=by
 have h0:=h 0 (by omega);have h1:=h 1 (by omega);have h2:=h 2 (by omega);rw[fld0]at h0;rw[fld1]at h1;rw[fld2]at h2;obtain⟨a1,b1⟩:=zff h1;obtain⟨a2,b2⟩:=zff h2;exact⟨h0,b1,b2,a1,a2⟩
theorem zx6 {s:Gr.Str} {a:Nat} (h:∃j,j<3/\fldAt s a 2 58 j=none):clockAt s a=none:=by
 obtain⟨j,hj,h⟩:=h;unfold clockAt;have:j=0\/j=1\/j=2:=by omega
 rcases this with rfl|rfl|rfl
 ·rw[fld0]at h;rw[h]
 ·rw[fld1]at h;rcases zfg h with h|h
  ·grind
  ·grind
 ·rw[fld2]at h;rcases zfg h with h|h
  ·grind
  ·grind
theorem zqe {s:Gr.Str} {a h m c:Nat} (k:ClkIs s a h m c) (hd:isAt s (a+8) 46=false):clockAt s a=some ⟨h,m,c,0,a+8⟩:=by
 unfold clockAt;rw[k.h,k.m,k.c];simp only;rw[k.i,k.j,hd];rfl
theorem zv4 {s:Gr.Str} {a h m c:Nat} (k:ClkIs s a h m c) (hd:isAt s (a+8) 46=true):clockAt s a=if((s.drop (a+9)).takeWhile Gr.dig).length=0\/9<((s.drop (a+9)).takeWhile Gr.dig).length then none
 else some ⟨h,m,c,Gr.val ((s.drop (a+9)).takeWhile Gr.dig)*10 ^ (9-((s.drop (a+9)).takeWhile Gr.dig).length),a+9+((s.drop (a+9)).takeWhile Gr.dig).length⟩:=by
 unfold clockAt;rw[k.h,k.m,k.c];simp only;rw[k.i,k.j,hd];rfl
theorem zbt {s:Gr.Str} {p b:Nat} (hp:p<s.length) (hb:(s[p]'hp).toNat=b) (c:UInt8):isAt s p c=decide (b=c.toNat):=by
 unfold isAt;rw[List.getElem?_eq_getElem hp,<-hb,Bool.eq_iff_iff];simp;exact⟨fun e=>by rw[e],fun e=>UInt8.toNat_inj.1 e⟩
theorem zx7 {s:Gr.Str} {p:Nat} (hp:p<s.length) (hb:(s[p]'hp).toNat=90):zoneAt s p=some ⟨90,0,0,p+1⟩:=by
 unfold zoneAt;rw[if_pos (by rw[zbt hp hb];rfl)]
theorem zlh {s:Gr.Str} {p b:Nat} (hp:p<s.length) (hb:(s[p]'hp).toNat=b) (h1:b≠90) (h2:b≠43) (h3:b≠45):zoneAt s p=none:=by
 unfold zoneAt;rw[if_neg (by rw[zbt hp hb];simpa using h1)];split
 ·rw[if_neg];rw[zbt hp hb,zbt hp hb];simp[h2,h3]
 ·rfl
theorem ztb {s:Gr.Str} {p b:Nat} {g:Nat->Nat} (hp:p<s.length) (hb:(s[p]'hp).toNat=b) (h2:b=43\/b=45) (h:∀j,j<2->fldAt s (p+1) 2 58 j=some (g (6+j))):∃z:Gr.Zn,zoneAt s p=some z/\z.z.toNat=b/\z.h=g 6/\z.m=g 7/\z.stop=p+6:=by
 have h0:=h 0 (by omega);have h1:=h 1 (by omega);rw[fld0]at h0;rw[fld1]at h1;obtain⟨a1,b1⟩:=zff h1;refine⟨⟨s.getD p 0,g 6,g 7,p+6⟩,?_,?_,rfl,rfl,rfl⟩
 ·unfold zoneAt;rw[if_neg (by rw[zbt hp hb];rcases h2 with rfl|rfl<;>decide),h0,show p+4=p+1+2+1 from rfl,b1];simp only;rw[if_pos];rw[zbt hp hb,zbt hp hb,Bool.and_eq_true];exact⟨by rcases h2 with rfl|rfl<;>decide,a1⟩
 ·grind
theorem zm1 {s:Gr.Str} {p b:Nat} (hp:p<s.length) (hb:(s[p]'hp).toNat=b) (h2:b≠90) (h:∃j,j<2/\fldAt s (p+1) 2 58 j=none):zoneAt s p=none:=by
 obtain⟨j,hj,h⟩:=h;unfold zoneAt;rw[if_neg (by rw[zbt hp hb];simpa using h2)];have:j=0\/j=1:=by omega
 rcases this with rfl|rfl
 ·rw[fld0]at h;rw[h]
 ·rw[fld1]at h;rcases zfg h with h|h
  ·grind
  ·grind
end Go.Proofs.YtoigpackhninoaaGreatDoor
