import Derived.Lib.LaidU8T
import Derived.PinnedBridge
import Derived.Lay
import Derived.Deep.DeepWitnessRowRef
import Derived.Test.YtpjmhafmeieloaaGreatDoorZ25
namespace Go.Proofs.YtpjmhafmeieloaaGreatDoor
open _root_.Go.Proofs.Tryz
open Go.Shelf Go.Lib Go.ChangeShapes Go.WideShapes Go.ChangeAt Go.RowKit
def laid7:List (String×DataW Unit):=Rows.graphTagsRow.laid
theorem own:ownKnob prog.godebug=none:=by kernel_rfl
theorem zui:Rows.laid_unicode_utf8_first=Lib.firstData:=by kernel_rfl
theorem zr4:(Rows.laid_unicode_utf8_acceptRanges:DataW Unit)=Lib.acceptData:=by kernel_rfl
noncomputable def laidWorld (os:Os):World:=World.laidAll prog os laid7
theorem zuj (os:Os) (args:Array Value):laidMet prog laid7 ((laidWorld os).forCall (fun _ _=>0) ⟨#[],args,[]⟩).memory:=laidMet_laidAll _ (by kernel_rfl) (by kernel_rfl)
theorem zr5:("unicode/utf8.first",Lib.firstData)∈laid7:=by
 rw[<-zui];exact .tail _ (.tail _ (.tail _ (.tail _ (.tail _ (.tail _ (.head _))))))
theorem znz:("unicode/utf8.acceptRanges",Lib.acceptData)∈laid7:=by
 rw[<-zr4];exact .tail _ (.tail _ (.tail _ (.head _)))
theorem zje {W:World} (h:laidMet prog laid7 W):Lib.Utf8Tabs 1 2 W:=
 utf8Tabs_of_readsT (ρ:=lays197_ren) {lays197 with} ⟨by kernel_rfl,by kernel_rfl,by kernel_rfl,by kernel_rfl,by kernel_rfl,by kernel_rfl,by kernel_rfl⟩ (Lib.laidMet.reads h zr5) (Lib.laidMet.reads h znz)
theorem zu8 {W:World} {n:String} {k:IntKind} {zs:List Int} {t e:TypeId} {m g:Nat} (hg:prog.globalNamed n=some g) (hty:(prog.globals[g]?).map (·.type)=some t) (ht:prog.underlying t=some (.array m e)) (he:prog.underlying e=some (.int k)) (hce:prog.cellsOf e=1) (hct:prog.cellsOf t=m)
 (h:Lib.VarReads prog W n (Lib.tabData k zs)):Lib.TabIs prog W n k zs:=by
 obtain⟨g',t',cs,fuel,p,b,c,a,d⟩:=h;obtain rfl:=Option.some.inj (hg.symm.trans b);obtain rfl:=Option.some.inj (hty.symm.trans c);unfold Lib.TabIs;rw[a,<-Lib.cells_of_tab ht he hce hct d]
theorem zlt {W:World} {n:String} {t g:Nat} {ms:Array (String×TypeId)} {nm:String} {d:DataW Unit} (hg:prog.globalNamed n=some g) (hty:(prog.globals[g]?).map (·.type)=some t) (ht:prog.underlying t=some (.interface ms))
 (h:Lib.VarReads prog W n (.iface nm d)):∃te p,W.cell? ⟨g,0,none⟩=some (.iface te p):=by
 obtain⟨g',t',cs,a,p,e,f,b,c⟩:=h;obtain rfl:=Option.some.inj (hg.symm.trans e);obtain rfl:=Option.some.inj (hty.symm.trans f);cases a with
 |zero=>simp[DataW.trod]at c
 |succ a=>
  have h0:=World.var?_cell hg b 0;unfold DataW.trod at c;rw[ht]at c;split at c<;>simp_all;rename_i hcs;rw[<-Array.getElem?_toList,hcs];exact⟨_,_,rfl⟩
theorem zyu:(Rows.laid_internal_strconv_uint64pow10:DataW Unit)=Lib.tabData .u64 Lib.pow10Tab:=by kernel_rfl
theorem zyv:(Rows.laid_math_bits_deBruijn64tab:DataW Unit)=Lib.tabData .u8 (Lib.deBruijn64tab.map Int.ofNat):=by kernel_rfl
theorem zn0 {W:World} (hl:laidMet prog laid7 W):UT W:=by
 have h:=zje hl;have b:("math/bits.deBruijn64tab",(Rows.laid_math_bits_deBruijn64tab:DataW Unit))∈laid7:=.tail _ (.head _);have c:("internal/strconv.uint64pow10",(Rows.laid_internal_strconv_uint64pow10:DataW Unit))∈laid7:=.tail _ (.tail _ (.head _));have k:("strconv.ErrRange",(Rows.laid_strconv_ErrRange:DataW Unit))∈laid7:=.tail _ (.tail _ (.tail _ (.tail _ (.head _))));have f:("strconv.ErrSyntax",(Rows.laid_strconv_ErrSyntax:DataW Unit))∈laid7:=.tail _ (.tail _ (.tail _ (.tail _ (.tail _ (.head _)))));rw[zyv]at b;rw[zyu]at c;refine⟨h,?_,?_,?_,?_,?_⟩
 .have a:=(h.2 0 (by decide)).1;rcases Nat.lt_or_ge 2 W.heap.size with h1|h1
  .exact h1
  .rw[World.cell?]at a;simp[Array.getElem?_eq_none h1]at a
 .exact zu8 (t:=229) (e:=117) (m:=20) (g:=7) (by kernel_rfl) (by kernel_rfl) underlying229 underlying117 (by kernel_rfl) (by kernel_rfl) (Lib.laidMet.reads hl c)
 .have d:=zu8 (t:=201) (e:=5) (m:=64) (g:=6) (by kernel_rfl) (by kernel_rfl) underlying201 underlying5 (by kernel_rfl) (by kernel_rfl) (Lib.laidMet.reads hl b);intro j i;have:=d.cell (g:=6) (by kernel_rfl) j (by simpa using i);rw[this]
  congr 2
  rw[List.getD_eq_getElem?_getD,List.getD_eq_getElem?_getD,List.getElem?_map];cases Lib.deBruijn64tab[j]? <;>rfl
 .exact zlt (t:=103) (g:=4) (by kernel_rfl) (by kernel_rfl) underlying103 (Lib.laidMet.reads hl f)
 .exact zlt (t:=103) (g:=5) (by kernel_rfl) (by kernel_rfl) underlying103 (Lib.laidMet.reads hl k)
open Gr
open _root_.Go.Lib (hid)
set_option maxRecDepth 100000
set_option maxHeartbeats 16000000
open Go.RowKit
def RCkOk (w:World) (g:Value) (chk:Nat):Prop:=∀W,Below w.heap.size w W->Calls prog 18 #[g] W fun e w'=>e=.returned (.int .i64 (chk:Nat))/\Below W.heap.size W w'
theorem RCkOk.later {w w':World} {g:Value} {chk:Nat} (h:RCkOk w g chk) (hb:Below w.heap.size w w'):RCkOk w' g chk:=fun W a=>h W (hb.trans (a.mono hb.size))
theorem zr1 (A:Option Addr) (n c:Nat) (root:Int) (chk:Nat) (w:World) (h:RCkOk w (.agg #[.slice A n c,.int .i64 root]) chk):
 Calls prog 19 #[.agg #[.slice A n c,.int .i64 root]] w fun e w'=>e=.returned (.tuple #[if chk=0 then .agg #[.slice A n c,.int .i64 root]else gZero,.int .i64 (chk:Nat)])/\Below w.heap.size w w':=by
 have z:=hid h;clear h;go_enter func19,ntmps19;go_upto_region 1 with fail;obtain⟨j,b⟩:=ex ((w.alloc (.cells #[.slice A n c,.int .i64 root] 24)).alloc (.cells #[.slice none 0 0,.int .i64 0] 24))
 obtain⟨p,a⟩:=ex w.heap.size
 have u:Blk j p 24 #[.slice A n c,.int .i64 root]:=by rw[<-b,<-a];exact(Blk.new _ _ _).alloc _
 have x:Blk j (p+1) 24 #[.slice none 0 0,.int .i64 0]:=by rw[<-b,<-a];have:=Blk.new (w.alloc (.cells #[.slice A n c,.int .i64 root] 24)) 24 #[.slice none 0 0,.int .i64 0];rwa[World.size_alloc]at this
 have s:Below p w j:=by rw[<-b,<-a];exact((Below.refl _ _).alloc (Nat.le_refl _) _).alloc (by simp) _
 have t:=hid s;have l:=hid a;have r:Hid (RCkOk j (.agg #[.slice A n c,.int .i64 root]) chk):=hid (z.out.later (by rw[a];exact s));have g:=hid u;have q:=hid x;obtain⟨C,B⟩:=cells2 u;(try rw[b]);(try rw[a]);clear b a u x s;go_wp2_with fail;refine(r.out j (Below.refl _ _)).mono ?_;rintro e y ⟨rfl,d⟩;have k:=g.out.below d g.out.lt;have f:=q.out.below d q.out.lt;have m:Hid (Below p w y):=hid (t.out.trans (d.mono (by have:=g.out.lt;omega)));obtain⟨k0,k1⟩:=cells2 k;obtain⟨d0,d1⟩:=cells2 f;have df:∀i,y.frozen? ⟨p+1,i,none⟩=false:=f.frozen;have o:=hid f;clear d k f C B;by_cases h0:chk=0
 .subst h0;go_wp2_with fail;have e0:=((o.out.set_ 0 (.slice A n c)).set_ 1 (.int .i64 root)).cell 0;have e1:=((o.out.set_ 0 (.slice A n c)).set_ 1 (.int .i64 root)).cell 1;refine bodyPost_ret (v:=.tuple #[.agg #[.slice A n c,.int .i64 root],.int .i64 0]) (by rw[results_cell_tmp rfl];go_simp) rfl ⟨rfl,?_⟩;rw[l.out];exact(m.out.setCell (by simp) _).setCell (by simp) _
 .have h0I:((chk:Int)==0)=false:=by rw[beq_eq_false_iff_ne];omega
  go_wp2_with fail;refine bodyPost_ret (v:=.tuple #[gZero,.int .i64 chk]) (by rw[results_cell_tmp rfl];go_simp;rfl) rfl ⟨by first|rfl|rw[if_neg h0],?_⟩;rw[l.out];exact(m.out.setCell (by simp) _).setCell (by simp) _
theorem zue (sclr:Int->Gr.Str->Bool) (ns:List Gr.Nd) (root:Nat) (hr:Refs ns) (hroot:root<ns.length):checkI sclr (ns.map Gr.Nd.ni) (root:Int)=checkG sclr ns root:=by
 unfold checkI checkG;rw[List.length_map,zim,zpp ns root hr hroot];by_cases h1:ns.length>4096
 .rw[if_pos h1,if_pos h1]
 .rw[if_neg h1,if_neg h1,if_neg (by simp;intro e;rw[e]at hroot;simp at hroot),Int.toNat_natCast]
theorem zyt {F:FuncId} {args:Array Value} {A:Option Addr} {n c chk:Nat} {w:World} (h:Calls prog F args w fun e w'=>e=.returned (.tuple #[if chk=0 then .agg #[.slice A n c,.int .i64 0]else gZero,.int .i64 (chk:Nat)])/\Below w.heap.size w w'):
 Calls prog F args w fun e w'=>Below w.heap.size w w'/\∃A4 n4 c4,e=.returned (.tuple #[.agg #[.slice A4 n4 c4,.int .i64 0],.int .i64 (chk:Nat)])/\Hid ((chk=0->A4=A/\n4=n/\c4=c)/\(chk≠0->A4=none/\n4=0/\c4=0)):=by
 refine h.mono ?_;rintro e w' ⟨rfl,a⟩;refine⟨a,?_⟩;by_cases h0:chk=0
 .exact⟨A,n,c,by rw[if_pos h0],hid ⟨fun _=>⟨rfl,rfl,rfl⟩,fun h=>absurd h0 h⟩⟩
 .exact⟨none,0,0,by rw[if_neg h0];rfl,hid ⟨fun h=>absurd h h0,fun _=>⟨rfl,rfl,rfl⟩⟩⟩
theorem zuf (A:Option Addr) (n c chk:Nat) (w:World) (h:RCkOk w (.agg #[.slice A n c,.int .i64 0]) chk):
 Calls prog 19 #[.agg #[.slice A n c,.int .i64 0]] w fun e w'=>Below w.heap.size w w'/\∃A4 n4 c4,e=.returned (.tuple #[.agg #[.slice A4 n4 c4,.int .i64 0],.int .i64 (chk:Nat)])/\Hid ((chk=0->A4=A/\n4=n/\c4=c)/\(chk≠0->A4=none/\n4=0/\c4=0)):=zyt (zr1 _ _ _ _ _ w h)
theorem zzb (A:Option Addr) (c:Nat) (root:Int) (vs:List NV) (is:List Gr.Ni) (hl:is.length<=1000) (hks:∀n∈is,n.keys.length<=1000/\n.items.length<=1000/\n.text.length<=1000) (w:World) (h:IAt w w.heap.size A vs is):RCkOk w (.agg #[.slice A is.length c,.int .i64 root]) (checkI sclX is root):=fun W a=>by
 rw[<-zfe sclX za5];exact zgl A c root vs is hl hks W ((h.below a).more a.size)
theorem zzc {ns:List Gr.Nd} {root:Nat} (hr:Refs ns) (h0:root<ns.length) (hl:ns.length<=1000) (hks:∀n∈ns,n.keys.length<=1000/\n.items.length<=1000/\n.text.length<=1000) (A:Option Addr) (c:Nat) (vs:List NV) (W:World) (hG:GAt W W.heap.size A vs ns):
 RCkOk W (.agg #[.slice A ns.length c,.int .i64 (root:Nat)]) (checkG sclX ns root):=fun b a=>by
 have:=zgl A c root vs (ns.map Gr.Nd.ni) (by simpa using hl) (fun n e=>by
  obtain⟨x,d,rfl⟩:=List.mem_map.1 e;have:=hks x d;simp only[Gr.Nd.ni,List.length_map];omega) b ((hG.below a).more a.size).toI
 rw[zfe sclX za5,zue sclX ns root hr h0,List.length_map]at this;exact this
end Go.Proofs.YtpjmhafmeieloaaGreatDoor
