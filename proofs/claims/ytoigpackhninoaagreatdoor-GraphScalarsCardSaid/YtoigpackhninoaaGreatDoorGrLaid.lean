/- The seven tables of the library, as the rows list them. -/
import Derived.Test.YtoigpackhninoaaGreatDoorRows
import Derived.Test.YtoigpackhninoaaGreatDoorZ12
import Derived.Lib.LaidU8T
import Derived.PinnedBridge
import Derived.Lay
import Derived.Deep.DeepHandedRow
import Derived.Deep.DeepWitnessRowRef
import Derived.ProofKit
import Derived.SizedLaws
namespace Go.Proofs.YtoigpackhninoaaGreatDoor
open Go.Shelf Go.Lib Go.ChangeShapes Go.WideShapes Go.ChangeAt Go.RowKit
def laid7:List (String×DataW Unit):=Rows.graphLimitsRow.laid
theorem own:ownKnob Tryz.prog.godebug=none:=by kernel_rfl
theorem first_eq:Rows.laid_unicode_utf8_first=Lib.firstData:=by kernel_rfl
theorem accept_eq:(Rows.laid_unicode_utf8_acceptRanges:DataW Unit)=Lib.acceptData:=by kernel_rfl
noncomputable def laidWorld (os:Os):World:=World.laidAll Tryz.prog os laid7
theorem laid_met (os:Os) (args:Array Value):laidMet Tryz.prog laid7 ((laidWorld os).forCall (fun _ _=>0) ⟨#[],args,[]⟩).memory:=laidMet_laidAll _ (by kernel_rfl) (by kernel_rfl)
theorem mem_first:("unicode/utf8.first",Lib.firstData)∈laid7:=by
 rw[<-first_eq];exact .tail _ (.tail _ (.tail _ (.tail _ (.tail _ (.tail _ (.head _))))))
theorem mem_accept:("unicode/utf8.acceptRanges",Lib.acceptData)∈laid7:=by
 rw[<-accept_eq];exact .tail _ (.tail _ (.tail _ (.head _)))
theorem tabs_of_laid {W:World} (h:laidMet Tryz.prog laid7 W):Lib.Utf8Tabs 1 2 W:=
 utf8Tabs_of_readsT (ρ:=Tryz.lays197_ren) {Tryz.lays197 with} ⟨by kernel_rfl,by kernel_rfl,by kernel_rfl,by kernel_rfl,by kernel_rfl,by kernel_rfl,by kernel_rfl⟩ (Lib.laidMet.reads h mem_first) (Lib.laidMet.reads h mem_accept)
theorem tab_of {W:World} {n:String} {k:IntKind} {zs:List Int} {t e:TypeId} {m g:Nat} (hg:Tryz.prog.globalNamed n=some g) (hty:(Tryz.prog.globals[g]?).map (·.type)=some t) (ht:Tryz.prog.underlying t=some (.array m e)) (he:Tryz.prog.underlying e=some (.int k)) (hce:Tryz.prog.cellsOf e=1) (hct:Tryz.prog.cellsOf t=m)
 (h:Lib.VarReads Tryz.prog W n (Lib.tabData k zs)):Lib.TabIs Tryz.prog W n k zs:=by
 obtain⟨g',t',cs,fuel,p,hg',ht',hvar,hd⟩:=h;obtain rfl:=Option.some.inj (hg.symm.trans hg');obtain rfl:=Option.some.inj (hty.symm.trans ht');unfold Lib.TabIs;rw[hvar,<-Lib.cells_of_tab ht he hce hct hd]
theorem iface_of {W:World} {n:String} {t g:Nat} {ms:Array (String×TypeId)} {nm:String} {d:DataW Unit} (hg:Tryz.prog.globalNamed n=some g) (hty:(Tryz.prog.globals[g]?).map (·.type)=some t) (ht:Tryz.prog.underlying t=some (.interface ms))
 (h:Lib.VarReads Tryz.prog W n (.iface nm d)):∃te p,W.cell? ⟨g,0,none⟩=some (.iface te p):=by
 obtain⟨g',t',cs,fuel,p,hg',ht',hvar,hd⟩:=h;obtain rfl:=Option.some.inj (hg.symm.trans hg');obtain rfl:=Option.some.inj (hty.symm.trans ht');cases fuel with
 |zero=>simp[DataW.trod]at hd
 |succ fuel=>
  have h0:=World.var?_cell hg hvar 0;unfold DataW.trod at hd;rw[ht]at hd;split at hd<;>simp_all;rename_i hcs;rw[<-Array.getElem?_toList,hcs];exact⟨_,_,rfl⟩
theorem pow_eq:(Rows.laid_internal_strconv_uint64pow10:DataW Unit)=Lib.tabData .u64 Lib.pow10Tab:=by kernel_rfl
theorem bru_eq:(Rows.laid_math_bits_deBruijn64tab:DataW Unit)=Lib.tabData .u8 (Lib.deBruijn64tab.map Int.ofNat):=by kernel_rfl
theorem ut_of_laid {W:World} (hl:laidMet Tryz.prog laid7 W):UT W:=by
 have h:=tabs_of_laid hl;have m2:("math/bits.deBruijn64tab",(Rows.laid_math_bits_deBruijn64tab:DataW Unit))∈laid7:=.tail _ (.head _);have m3:("internal/strconv.uint64pow10",(Rows.laid_internal_strconv_uint64pow10:DataW Unit))∈laid7:=.tail _ (.tail _ (.head _));have m5:("strconv.ErrRange",(Rows.laid_strconv_ErrRange:DataW Unit))∈laid7:=.tail _ (.tail _ (.tail _ (.tail _ (.head _))));have m6:("strconv.ErrSyntax",(Rows.laid_strconv_ErrSyntax:DataW Unit))∈laid7:=.tail _ (.tail _ (.tail _ (.tail _ (.tail _ (.head _)))));rw[bru_eq]at m2;rw[pow_eq]at m3;refine⟨h,?_,?_,?_,?_,?_⟩
 ·have h0:=(h.2 0 (by decide)).1;rcases Nat.lt_or_ge 2 W.heap.size with h1|h1
  ·exact h1
  ·rw[World.cell?]at h0;simp[Array.getElem?_eq_none h1]at h0
 ·exact tab_of (t:=249) (e:=72) (m:=20) (g:=7) (by kernel_rfl) (by kernel_rfl) Tryz.underlying249 Tryz.underlying72 (by kernel_rfl) (by kernel_rfl) (Lib.laidMet.reads hl m3)
 ·have ht:=tab_of (t:=228) (e:=5) (m:=64) (g:=6) (by kernel_rfl) (by kernel_rfl) Tryz.underlying228 Tryz.underlying5 (by kernel_rfl) (by kernel_rfl) (Lib.laidMet.reads hl m2);intro j hj;have:=ht.cell (g:=6) (by kernel_rfl) j (by simpa using hj);rw[this]
  congr 2
  rw[List.getD_eq_getElem?_getD,List.getD_eq_getElem?_getD,List.getElem?_map];cases Lib.deBruijn64tab[j]? <;>rfl
 ·exact iface_of (t:=150) (g:=4) (by kernel_rfl) (by kernel_rfl) Tryz.underlying150 (Lib.laidMet.reads hl m6)
 ·exact iface_of (t:=150) (g:=5) (by kernel_rfl) (by kernel_rfl) Tryz.underlying150 (Lib.laidMet.reads hl m5)
end Go.Proofs.YtoigpackhninoaaGreatDoor
