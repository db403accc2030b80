import Derived.Test.YtoigpackhninoaaGreatDoorZ11
import Derived.Lib.LaidU8T
import Derived.PinnedBridge
import Derived.Lay
import Derived.Deep.DeepWitnessRowRef
namespace Go.Proofs.YtoigpackhninoaaGreatDoor
open _root_.Go.Proofs.Tryz
open Go.Shelf Go.Lib Go.ChangeShapes Go.WideShapes Go.ChangeAt Go.RowKit
def laid7:List (String×DataW Unit):=Rows.graphLimitsRow.laid
theorem own:ownKnob prog.godebug=none:=by kernel_rfl
theorem zp6:Rows.laid_unicode_utf8_first=Lib.firstData:=by kernel_rfl
theorem zn3:(Rows.laid_unicode_utf8_acceptRanges:DataW Unit)=Lib.acceptData:=by kernel_rfl
noncomputable def laidWorld (os:Os):World:=World.laidAll prog os laid7
theorem zp7 (os:Os) (args:Array Value):laidMet prog laid7 ((laidWorld os).forCall (fun _ _=>0) ⟨#[],args,[]⟩).memory:=laidMet_laidAll _ (by kernel_rfl) (by kernel_rfl)
theorem zn4:("unicode/utf8.first",Lib.firstData)∈laid7:=by
 rw[<-zp6];exact .tail _ (.tail _ (.tail _ (.tail _ (.tail _ (.tail _ (.head _))))))
theorem zk0:("unicode/utf8.acceptRanges",Lib.acceptData)∈laid7:=by
 rw[<-zn3];exact .tail _ (.tail _ (.tail _ (.head _)))
theorem zhf {W:World} (h:laidMet prog laid7 W):Lib.Utf8Tabs 1 2 W:=
 utf8Tabs_of_readsT (ρ:=lays197_ren) {lays197 with} ⟨by kernel_rfl,by kernel_rfl,by kernel_rfl,by kernel_rfl,by kernel_rfl,by kernel_rfl,by kernel_rfl⟩ (Lib.laidMet.reads h zn4) (Lib.laidMet.reads h zk0)
theorem zqv {W:World} {n:String} {k:IntKind} {zs:List Int} {t e:TypeId} {m g:Nat} (hg:prog.globalNamed n=some g) (hty:(prog.globals[g]?).map (·.type)=some t) (ht:prog.underlying t=some (.array m e)) (he:prog.underlying e=some (.int k)) (hce:prog.cellsOf e=1) (hct:prog.cellsOf t=m)
 (h:Lib.VarReads prog W n (Lib.tabData k zs)):Lib.TabIs prog W n k zs:=by
 obtain⟨g',t',cs,fuel,p,hg',ht',hvar,hd⟩:=h;obtain rfl:=Option.some.inj (hg.symm.trans hg');obtain rfl:=Option.some.inj (hty.symm.trans ht');unfold Lib.TabIs;rw[hvar,<-Lib.cells_of_tab ht he hce hct hd]
theorem zjf {W:World} {n:String} {t g:Nat} {ms:Array (String×TypeId)} {nm:String} {d:DataW Unit} (hg:prog.globalNamed n=some g) (hty:(prog.globals[g]?).map (·.type)=some t) (ht:prog.underlying t=some (.interface ms))
 (h:Lib.VarReads prog W n (.iface nm d)):∃te p,W.cell? ⟨g,0,none⟩=some (.iface te p):=by
 obtain⟨g',t',cs,fuel,p,hg',ht',hvar,hd⟩:=h;obtain rfl:=Option.some.inj (hg.symm.trans hg');obtain rfl:=Option.some.inj (hty.symm.trans ht');cases fuel with
 |zero=>simp[DataW.trod]at hd
 |succ fuel=>
  have h0:=World.var?_cell hg hvar 0;unfold DataW.trod at hd;rw[ht]at hd;split at hd<;>simp_all;rename_i hcs;rw[<-Array.getElem?_toList,hcs];exact⟨_,_,rfl⟩
theorem zty:(Rows.laid_internal_strconv_uint64pow10:DataW Unit)=Lib.tabData .u64 Lib.pow10Tab:=by kernel_rfl
theorem ztz:(Rows.laid_math_bits_deBruijn64tab:DataW Unit)=Lib.tabData .u8 (Lib.deBruijn64tab.map Int.ofNat):=by kernel_rfl
theorem zk1 {W:World} (hl:laidMet prog laid7 W):UT W:=by
 have h:=zhf hl;have m2:("math/bits.deBruijn64tab",(Rows.laid_math_bits_deBruijn64tab:DataW Unit))∈laid7:=.tail _ (.head _);have m3:("internal/strconv.uint64pow10",(Rows.laid_internal_strconv_uint64pow10:DataW Unit))∈laid7:=.tail _ (.tail _ (.head _));have m5:("strconv.ErrRange",(Rows.laid_strconv_ErrRange:DataW Unit))∈laid7:=.tail _ (.tail _ (.tail _ (.tail _ (.head _))));have m6:("strconv.ErrSyntax",(Rows.laid_strconv_ErrSyntax:DataW Unit))∈laid7:=.tail _ (.tail _ (.tail _ (.tail _ (.tail _ (.head _)))));rw[ztz]at m2;rw[zty]at m3;refine⟨h,?_,?_,?_,?_,?_⟩
 ·have h0:=(h.2 0 (by decide)).1;rcases Nat.lt_or_ge 2 W.heap.size with h1|h1
  ·exact h1
  ·rw[World.cell?]at h0;simp[Array.getElem?_eq_none h1]at h0
 ·exact zqv (t:=249) (e:=72) (m:=20) (g:=7) (by kernel_rfl) (by kernel_rfl) underlying249 underlying72 (by kernel_rfl) (by kernel_rfl) (Lib.laidMet.reads hl m3)
 ·have ht:=zqv (t:=228) (e:=5) (m:=64) (g:=6) (by kernel_rfl) (by kernel_rfl) underlying228 underlying5 (by kernel_rfl) (by kernel_rfl) (Lib.laidMet.reads hl m2);intro j hj;have:=ht.cell (g:=6) (by kernel_rfl) j (by simpa using hj);rw[this]
  congr 2
  rw[List.getD_eq_getElem?_getD,List.getD_eq_getElem?_getD,List.getElem?_map];cases Lib.deBruijn64tab[j]? <;>rfl
 ·exact zjf (t:=150) (g:=4) (by kernel_rfl) (by kernel_rfl) underlying150 (Lib.laidMet.reads hl m6)
 ·exact zjf (t:=150) (g:=5) (by kernel_rfl) (by kernel_rfl) underlying150 (Lib.laidMet.reads hl m5)
set_option maxRecDepth 100000
set_option maxHeartbeats 16000000
open Go.RowKit Go.WideShapes Go.ChangeShapes Go.Deep
section
variable {H:Type} {enc:TypeId×Value->H} {W:World} {r:Reach} {b0 base fuel:Nat} {sp:Nat->Bool} {hd:Bool} {v:Value} {d:DataW H} {p:List MemPlace} {cs:List Value} {x:DataW H×List MemPlace}
end
end Go.Proofs.YtoigpackhninoaaGreatDoor
