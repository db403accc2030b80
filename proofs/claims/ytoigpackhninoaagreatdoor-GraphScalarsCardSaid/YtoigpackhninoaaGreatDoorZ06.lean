/- The library's tables, as the rows list them. Strings as lists of bytes: what slicing and adding give. Walks: the closure fields of instant.read. Walks: instant.read: its memory, its end. What fields reads, in the reference's words: plain. -/
import Derived.Test.YtoigpackhninoaaGreatDoorZ05
import Derived.Lib.LaidTab
import Derived.Shelf.Spec.TrailingZeros
import Derived.Laws.Concat
import Derived.Test.YtoigpackhninoaaGreatDoorZ23
import Derived.Test.YtoigpackhninoaaGreatDoorZ19
import Derived.Test.YtoigpackhninoaaGreatDoorZ02
namespace Go.Proofs.YtoigpackhninoaaGreatDoor
open Go.RowKit
theorem cell_keep {w w':World} (hb:Below w.heap.size w w') {a:Addr} {v:Value} (hc:w.cell? a=some v):w'.cell? a=some v:=(hb.cell (World.block_lt_of_cell? w a hc)).trans hc
theorem tab_keep {P:Program} {n:String} {g:Nat} {k:IntKind} {zs:List Int} {w w':World} (hg:P.globalNamed n=some g) (h:Lib.TabIs P w n k zs) (hb:Below w.heap.size w w'):Lib.TabIs P w' n k zs:=by
 unfold Lib.TabIs World.var? at h ⊢;rw[hg]at h ⊢;simp only[Option.bind_some]at h ⊢;have hlt:g<w.heap.size:=by
  rcases Nat.lt_or_ge g w.heap.size with h'|h'
  ·exact h'
  ·rw[Array.getElem?_eq_none h']at h;cases h
 rw[hb.block g hlt];exact h
def Stays (T:World->Prop):Prop:=∀w w',T w->Below w.heap.size w w'->T w'
structure UT (w:World):Prop where
 utf:Lib.Utf8Tabs 1 2 w
 sz:3<=w.heap.size
 pow:Lib.TabIs Tryz.prog w "internal/strconv.uint64pow10" .u64 Lib.pow10Tab
 bru:TabAt 6 Lib.deBruijn64tab w
 es:∃te p,w.cell? ⟨4,0,none⟩=some (.iface te p)
 er:∃te p,w.cell? ⟨5,0,none⟩=some (.iface te p)
theorem UT.stays:Stays UT:=fun w w' h hb=>by
 refine⟨tabs_below h.utf (hb.mono h.sz) (Nat.le_refl _),Nat.le_trans h.sz hb.size,tab_keep (show Tryz.prog.globalNamed "internal/strconv.uint64pow10" =some 7 by kernel_rfl) h.pow hb,fun j hj=>cell_keep hb (h.bru j hj),?_,?_⟩
 ·obtain⟨te,p,h1⟩:=h.es;exact⟨te,p,cell_keep hb h1⟩
 ·obtain⟨te,p,h1⟩:=h.er;exact⟨te,p,cell_keep hb h1⟩
end Go.Proofs.YtoigpackhninoaaGreatDoor
namespace Go.Proofs.YtoigpackhninoaaGreatDoor
open Go.RowKit
theorem str_hi (s:Gr.Str) (k:Nat) (i:Int) (hi:i=k) (h:k<=s.length) (W:World):(Instr.slice 9 (.string ⟨s.toArray⟩) none (some (.int .i64 i)) none).run Tryz.prog W=.ok (.string ⟨(s.take k).toArray⟩) W:=by
 subst hi;rw[run_slice_string_h (P:=Tryz.prog) W 9 ⟨s.toArray⟩ Tryz.underlying9 .i64 k (by omega) (by simp[ByteArray.size];omega)]
 congr 2
 apply ByteArray.ext;simp
theorem str_lo (s:Gr.Str) (k:Nat) (i:Int) (hi:i=k) (h:k<=s.length) (W:World):(Instr.slice 9 (.string ⟨s.toArray⟩) (some (.int .i64 i)) none none).run Tryz.prog W=.ok (.string ⟨(s.drop k).toArray⟩) W:=by
 subst hi;rw[run_slice_string_l (P:=Tryz.prog) W 9 ⟨s.toArray⟩ Tryz.underlying9 .i64 k (by omega) (by simp[ByteArray.size];omega)]
 congr 2
 apply ByteArray.ext;simp[ByteArray.size];rw[List.take_of_length_le (by simp)]
theorem str_add (a b:Gr.Str):(⟨a.toArray⟩:ByteArray)++⟨b.toArray⟩=⟨(a++b).toArray⟩:=by
 apply ByteArray.ext;simp
theorem add_run (a b:Gr.Str) (h:a.length+b.length<=9223372036854775807) (W:World):(Op.stringOp .add ⟨a.toArray⟩ ⟨b.toArray⟩).run Tryz.prog W=.ok (.string ⟨(a++b).toArray⟩) W:=by
 rw[run_string_add_sum (P:=Tryz.prog) (w:=W) ⟨a.toArray⟩ ⟨b.toArray⟩ (by simpa[ByteArray.size]using h),str_add]
end Go.Proofs.YtoigpackhninoaaGreatDoor
namespace Go.Proofs.YtoigpackhninoaaGreatDoor
set_option maxRecDepth 100000
set_option maxHeartbeats 16000000
open Go.RowKit
def posAt (a first i:Nat):Nat:=if i=0 then a else a+first+3*(i-1)
def fldAt (s:Gr.Str) (a first:Nat) (c:Nat) (i:Nat):Option Nat:=if i=0 then Gr.numAt s a first else if Gr.isAt s (posAt a first i) (UInt8.ofNat c)=true then Gr.numAt s (posAt a first i+1) 2 else none
def mC (sh:Nat) (f:Nat->Nat) (nn z:Nat):Array Value:=#[.int .i64 (sh:Int),.int .i64 (f 0:Int),.int .i64 (f 1:Int),.int .i64 (f 2:Int),.int .i64 (f 3:Int),.int .i64 (f 4:Int),.int .i64 (f 5:Int),.int .i64 (f 6:Int),.int .i64 (f 7:Int),.int .i64 (nn:Int),.int .u8 (z:Int)]
def fset (f:Nat->Nat) (i v:Nat):Nat->Nat:=fun j=>if j=i then v else f j
theorem mC_set {sh nn z:Nat} {f:Nat->Nat} {i:Nat} (h:i<8) (v:Nat):(mC sh f nn z).setIfInBounds (1+i) (.int .i64 (v:Int))=mC sh (fset f i v) nn z:=by
 have:i=0\/i=1\/i=2\/i=3\/i=4\/i=5\/i=6\/i=7:=by omega
 rcases this with rfl|rfl|rfl|rfl|rfl|rfl|rfl|rfl<;>rfl
theorem mC_get {sh nn z:Nat} {f:Nat->Nat} {i:Nat} (h:i<8):(mC sh f nn z)[1+i]? =some (.int .i64 (f i:Int)):=by
 have:i=0\/i=1\/i=2\/i=3\/i=4\/i=5\/i=6\/i=7:=by omega
 rcases this with rfl|rfl|rfl|rfl|rfl|rfl|rfl|rfl<;>rfl
theorem posAt_pos {a first i:Nat} (h:0<i):posAt a first (i+1)=posAt a first i+1+2:=by
 unfold posAt;rw[if_neg (by omega),if_neg (by omega)];omega
theorem posAt_one {a first:Nat}:posAt a first 1=a+first:=by simp[posAt]
theorem isAt_no {s:Gr.Str} {p c b:Nat} (hp:p<s.length) (hb:(s[p]'hp).toNat=b) (hc:c<256) (h:b≠c):Gr.isAt s p (UInt8.ofNat c)=false:=by
 unfold Gr.isAt;rw[List.getElem?_eq_getElem hp];simp;intro e;apply h;rw[<-hb,e];simp;omega
theorem isAt_yes {s:Gr.Str} {p c b:Nat} (hp:p<s.length) (hb:(s[p]'hp).toNat=b) (h:b=c):Gr.isAt s p (UInt8.ofNat c)=true:=by
 unfold Gr.isAt;rw[List.getElem?_eq_getElem hp];subst h;rw[<-hb];simp
theorem isAt_out {s:Gr.Str} {p:Nat} {c:UInt8} (hp:s.length<=p):Gr.isAt s p c=false:=by
 unfold Gr.isAt;rw[List.getElem?_eq_none hp];rfl
def KM (mb ab:Nat) (w w':World):Prop:=KeptBut' w w' (fun k=>k=mb\/k=ab)
theorem KM.refl (mb ab:Nat) (w:World):KM mb ab w w:=⟨rfl,rfl,rfl,Nat.le_refl _,fun _ _ _=>rfl⟩
theorem KM.trans {mb ab:Nat} {a b c:World} (h:KM mb ab a b) (h2:KM mb ab b c):KM mb ab a c:=
 ⟨h2.os.trans h.os,h2.tape.trans h.tape,h2.output.trans h.output,Nat.le_trans h.size h2.size,fun k hk hg=>(h2.block k (Nat.lt_of_lt_of_le hk h.size) hg).trans (h.block k hk hg)⟩
theorem KM.ofA {mb ab:Nat} {a b:World} (h:Kept1 ab a b):KM mb ab a b:=⟨h.os,h.tape,h.output,Nat.le_of_eq h.size.symm,fun k _ hg=>h.block k (fun e=>hg (.inr e))⟩
theorem KM.ofM {mb ab:Nat} {a b:World} (h:Kept1 mb a b):KM mb ab a b:=⟨h.os,h.tape,h.output,Nat.le_of_eq h.size.symm,fun k _ hg=>h.block k (fun e=>hg (.inl e))⟩
theorem KM.blk {mb ab k:Nat} {a b:World} {t:TypeId} {cs:Array Value} (h:KM mb ab a b) (hb:Blk a k t cs) (h1:k≠mb) (h2:k≠ab):Blk b k t cs:=(h.block k hb.lt (by rintro(e|e);exact h1 e;exact h2 e)).trans hb
def FldPost (s:Gr.Str) (a first c o n mb ab sh:Nat) (f:Nat->Nat) (nn z:Nat) (w:World) (e:Ending) (w':World):Prop:=
 KM mb ab w w'/\∃f':Nat->Nat,Blk w' mb 135 (mC sh f' nn z)/\((e=.returned (.bool true)/\(∀j,j<n->fldAt s a first c j=some (f' (o+j)))/\(∀j,j<o\/o+n<=j->f' j=f j)/\Blk w' ab 3 #[.int .i64 (posAt a first n:Int)]/\posAt a first n<=s.length)\/(e=.returned (.bool false)/\(∃j,j<n/\fldAt s a first c j=none)/\∃p:Nat,p<=s.length/\Blk w' ab 3 #[.int .i64 (p:Int)]))
theorem fields_any (s:Gr.Str) (hl:s.length<=1073741823) (ab sb fb mb a first c o n k:Nat) (sh:Nat) (f:Nat->Nat) (nn z:Nat) (j jc:Int) (hj:j=(first:Int)) (hjc:jc=(c:Int)) (hc:c<256) (hfirst:first<=9) (hn:n<=3) (hnk:n<=k) (hk:k<=8) (ho:o+n<=8) (O:Nat) (hO:O=1+o) (ha:a<=s.length) (w:World) (hA:Blk w ab 3 #[.int .i64 (a:Int)]) (hS:Blk w sb 9 #[.string ⟨s.toArray⟩]) (hF:Blk w fb 170 #[.func (.func 124) #[] #[.pointer (some ⟨ab,0,none⟩),.pointer (some ⟨sb,0,none⟩)]]) (hM:Blk w mb 135 (mC sh f nn z)):
 Calls Tryz.prog 125 #[.slice (some ⟨mb,O,none⟩) n k,.int .i64 j,.int .u8 jc,.pointer (some ⟨ab,0,none⟩),.pointer (some ⟨sb,0,none⟩),.pointer (some ⟨fb,0,none⟩)] w (FldPost s a first c o n mb ab sh f nn z w):=by
 subst hj;subst hjc;subst hO;have hsa:sb≠ab:=hS.ne_ hA (by decide);have hsm:sb≠mb:=hS.ne_ hM (by decide);have hfa:fb≠ab:=hF.ne_ hA (by decide);have hfm:fb≠mb:=hF.ne_ hM (by decide);have hma:mb≠ab:=hM.ne_ hA (by decide);have HA:=Lib.hid hA;have HS:=Lib.hid hS;have HFB:=Lib.hid hF;have HM:=Lib.hid hM;have HNE:=Lib.hid (show(sb≠ab/\sb≠mb)/\(fb≠ab/\fb≠mb)/\mb≠ab from⟨⟨hsa,hsm⟩,⟨hfa,hfm⟩,hma⟩);clear hA hS hF hM hsa hsm hfa hfm hma;have HN1:Hid (∀(W:World) (p q:Nat),q<=9->p<=s.length->Blk W ab 3 #[.int .i64 (p:Int)]->Blk W sb 9 #[.string ⟨s.toArray⟩]->Calls Tryz.prog 124 #[.int .i64 (q:Int),.pointer (some ⟨ab,0,none⟩),.pointer (some ⟨sb,0,none⟩)] W (Num1Post s p q ab W)):=Lib.hid (fun W p q hq hp h1 h2=>num1_any s hl ab sb p q _ rfl hq hp W h1 h2);go_enter Tryz.func125,Tryz.ntmps125;go_wp2_with fail;go_loopw [10,11,12,13,16] (fun s10 s11 s12 s13 s16 wr=>∃i:Nat,i<=n/\s16=.int .i64 (i:Int)/\Hid (∃f':Nat->Nat,KM mb ab w wr/\Blk wr mb 135 (mC sh f' nn z)/\(∀j,j<i->fldAt s a first c j=some (f' (o+j)))/\(∀j,j<o\/o+n<=j->f' j=f j)/\Blk wr ab 3 #[.int .i64 (posAt a first i:Int)]/\posAt a first i<=s.length)) (fun _ _ _ _ s16 _=>n-(intOf s16).toNat)
 case atStart=>exact⟨0,by omega,rfl,Lib.hid ⟨f,KM.refl _ _ _,HM.out,fun j hj=>absurd hj (by omega),fun _ _=>rfl,by simpa[posAt]using HA.out,by simpa[posAt]using ha⟩⟩
 case round=>
  obtain⟨i,hi,rfl,HV⟩:=hrel;obtain⟨f',hk1,hm1,hfl,hf0,hp1,hpl⟩:=HV.out;obtain⟨p,hp⟩:∃p,posAt a first i=p:=⟨_,rfl⟩
  rw[hp]at hp1 hpl;have qS:wr.cell? ⟨sb,0,none⟩=some (.string ⟨s.toArray⟩):=(hk1.blk HS.out HNE.out.1.2 HNE.out.1.1).cell 0;have qA:wr.cell? ⟨ab,0,none⟩=some (.int .i64 (p:Int)):=hp1.cell 0;have qAF:∀j,wr.frozen? ⟨ab,j,none⟩=false:=hp1.frozen;have qF:wr.cell? ⟨fb,0,none⟩=some (.func (.func 124) #[] #[.pointer (some ⟨ab,0,none⟩),.pointer (some ⟨sb,0,none⟩)]):=(hk1.blk HFB.out HNE.out.2.1.2 HNE.out.2.1.1).cell 0;have qF1:∀v,(wr.setCell ⟨ab,0,none⟩ v).cell? ⟨fb,0,none⟩=some (.func (.func 124) #[] #[.pointer (some ⟨ab,0,none⟩),.pointer (some ⟨sb,0,none⟩)]):=fun v=>((hk1.blk HFB.out HNE.out.2.1.2 HNE.out.2.1.1).far HNE.out.2.1.1 v).cell 0
  have HP:=Lib.hid hp;have HX:Hid (KM mb ab w wr/\Blk wr mb 135 (mC sh f' nn z)/\(∀j,j<i->fldAt s a first c j=some (f' (o+j)))/\(∀j,j<o\/o+n<=j->f' j=f j)/\Blk wr ab 3 #[.int .i64 (p:Int)]/\Blk wr sb 9 #[.string ⟨s.toArray⟩]):=Lib.hid ⟨hk1,hm1,hfl,hf0,hp1,hk1.blk HS.out HNE.out.1.2 HNE.out.1.1⟩;clear hk1 hm1 hfl hf0 hp1 hp HV;have HDONE:Hid (∀(W:World) (q:Nat) (x:Option Nat),q<=s.length->x=none->fldAt s a first c i=x->i<n->KM mb ab wr W->Blk W mb 135 (mC sh f' nn z)->Blk W ab 3 #[.int .i64 (q:Int)]->FldPost s a first c o n mb ab sh f nn z w (.returned (.bool false)) W):=Lib.hid (fun W q x hq hx hfx hin hkw hmw haw=>⟨HX.out.1.trans hkw,f',hmw,.inr ⟨rfl,⟨i,hin,hfx.trans hx⟩,q,hq,haw⟩⟩);have HGO:Hid (∀(W:World) (v:Nat),fldAt s a first c i=some v->KM mb ab wr W->Blk W mb 135 (mC sh f' nn z)->Blk W ab 3 #[.int .i64 (posAt a first (i+1):Int)]->i<n->posAt a first (i+1)<=s.length->∃i':Nat,i'<=n/\Value.int .i64 ((i:Int)+1)=.int .i64 (i':Int)/\Hid (∃f'':Nat->Nat,KM mb ab w (W.setCell ⟨mb,1+o+i,none⟩ (.int .i64 (v:Int)))/\Blk (W.setCell ⟨mb,1+o+i,none⟩ (.int .i64 (v:Int))) mb 135 (mC sh f'' nn z)/\(∀j,j<i'->fldAt s a first c j=some (f'' (o+j)))/\(∀j,j<o\/o+n<=j->f'' j=f j)/\Blk (W.setCell ⟨mb,1+o+i,none⟩ (.int .i64 (v:Int))) ab 3 #[.int .i64 (posAt a first i':Int)]/\posAt a first i'<=s.length)):=Lib.hid (fun W v hv hkw hmw haw hin hpl=>by
   refine⟨i+1,by omega,rfl,Lib.hid ⟨fset f' (o+i) v,HX.out.1.trans (hkw.trans (KM.ofM (Kept1.set _ _))),?_,?_,?_,?_,hpl⟩⟩
   ·have:=hmw.set_ (1+o+i) (.int .i64 (v:Int));rw[show 1+o+i=1+(o+i)from by omega]at this ⊢;rwa[mC_set (by omega)]at this
   ·intro j hj;by_cases e:j=i
    ·subst e;rw[hv];simp[fset]
    ·rw[HX.out.2.2.1 j (by omega)];simp[fset,e]
   ·intro j hj;rw[<-HX.out.2.2.2.1 j hj];unfold fset;rw[if_neg (by omega)]
   ·exact haw.far HNE.out.2.2.symm _)
  by_cases hlt:i<n
  ·have hltI:(i:Int)<(n:Int):=by omega
   by_cases h0:i=0
   ·have h0I:(i:Int)=0:=by omega
    have h0J:¬(0:Int)<(i:Int):=by omega
    subst h0;go_wp2_with fail;refine(HN1.out _ p first hfirst hpl HX.out.2.2.2.2.1 HX.out.2.2.2.2.2).mono ?_;rintro e w2 ⟨hk2,⟨v,hv,rfl,ha2⟩|⟨hv,rfl,p2,hp2,ha2⟩⟩
    ·have hm2:=hk2.blk HX.out.2.1 HNE.out.2.2;have qm:w2.cell? ⟨mb,1+o,none⟩=some (.int .i64 (f' o:Int)):=by rw[hm2.cell];exact mC_get (i:=o) (by omega)
     have qmF:∀j,w2.frozen? ⟨mb,j,none⟩=false:=hm2.frozen;have HR:Hid (fldAt s a first c 0=some v/\Blk w2 ab 3 #[.int .i64 (posAt a first 1:Int)]/\posAt a first 1<=s.length):=Lib.hid (by
      have hpa:p=a:=by rw[<-HP.out];rfl
      subst hpa;rw[posAt_one];exact⟨by simpa[fldAt]using hv,ha2,(numAt_bd hv (by omega)).2.2⟩)
     have HK2:=Lib.hid (And.intro hk2 hm2);clear hk2 hv ha2 hm2;go_wp2_with fail;go_roundw
     case rel=>
      obtain⟨i',g1,g2,g3⟩:=HGO.out w2 v HR.out.1 (KM.ofA HK2.out.1) HK2.out.2 HR.out.2.1 hlt HR.out.2.2;exact⟨i',g1,by simpa using g2,g3⟩
     case measure=>simp[intOf];omega
    ·have HR:Hid (FldPost s a first c o n mb ab sh f nn z w (.returned (.bool false)) w2):=Lib.hid (HDONE.out w2 p2 _ hp2 rfl (by
      have hpa:p=a:=by rw[<-HP.out];rfl
      subst hpa;simpa[fldAt]using hv) hlt (KM.ofA hk2) (hk2.blk HX.out.2.1 HNE.out.2.2) ha2)
     clear hk2 hv ha2;go_wp2_with fail;go_ret;exact HR.out
   ·have h0I:¬(i:Int)=0:=by omega
    have h0J:(0:Int)<(i:Int):=by omega
    by_cases hps:p<s.length
    ·have hpsI:¬(s.length:Int)<=(p:Int):=by omega
     obtain⟨b,hb⟩:∃b:Nat,(s[p]'hps).toNat=b:=⟨_,rfl⟩
     have hbv:(((⟨s.toArray⟩:ByteArray)[p]'(by simpa[ByteArray.size]using hps)).toNat:Int)=(b:Int):=by rw[<-hb];rfl
     have hbl:b<256:=by rw[<-hb];exact(s[p]'hps).toNat_lt
     have HB:=Lib.hid hb;clear hb;by_cases hbc:b=c
     ·have hbcI:(b:Int)=(c:Int):=by omega
      go_wp2_with fail;refine(HN1.out _ (p+1) 2 (by omega) (by omega) (HX.out.2.2.2.2.1.set_ 0 _) (HX.out.2.2.2.2.2.far HNE.out.1.1 _)).mono ?_;rintro e w2 ⟨hk2,⟨v,hv,rfl,ha2⟩|⟨hv,rfl,p2,hp2,ha2⟩⟩
      ·have hk3:=(Kept1.set (g:=ab) (w:=wr) 0 (.int .i64 ((p+1:Nat):Int))).trans hk2;have hm2:=hk3.blk HX.out.2.1 HNE.out.2.2;have qm:w2.cell? ⟨mb,1+o+i,none⟩=some (.int .i64 (f' (o+i):Int)):=by rw[hm2.cell,show 1+o+i=1+(o+i)from by omega];exact mC_get (by omega)
       have qmF:∀j,w2.frozen? ⟨mb,j,none⟩=false:=hm2.frozen;have HR:Hid (fldAt s a first c i=some v/\Blk w2 ab 3 #[.int .i64 (posAt a first (i+1):Int)]/\posAt a first (i+1)<=s.length):=Lib.hid (by
        rw[posAt_pos (by omega),HP.out];refine⟨?_,ha2,(numAt_bd hv (by omega)).2.2⟩;unfold fldAt;rw[if_neg h0,HP.out,if_pos (isAt_yes hps HB.out hbc)];exact hv)
       have HK2:=Lib.hid (And.intro hk3 hm2);clear hk2 hk3 hv ha2 hm2;go_wp2_with fail;go_roundw
       case rel=>
        exact HGO.out w2 v HR.out.1 (KM.ofA HK2.out.1) HK2.out.2 HR.out.2.1 hlt HR.out.2.2
       case measure=>simp[intOf];omega
      ·have hk3:=(Kept1.set (g:=ab) (w:=wr) 0 (.int .i64 ((p+1:Nat):Int))).trans hk2;have HR:Hid (FldPost s a first c o n mb ab sh f nn z w (.returned (.bool false)) w2):=Lib.hid (HDONE.out w2 p2 _ hp2 rfl (by
        unfold fldAt;rw[if_neg h0,HP.out,if_pos (isAt_yes hps HB.out hbc)];exact hv) hlt (KM.ofA hk3) (hk3.blk HX.out.2.1 HNE.out.2.2) ha2)
       clear hk2 hk3 hv ha2;go_wp2_with fail;go_ret;exact HR.out
     ·have hbcI:¬(b:Int)=(c:Int):=by omega
      go_wp2_with fail;go_ret;exact HDONE.out wr p _ hpl rfl (by unfold fldAt;rw[if_neg h0,HP.out,isAt_no hps HB.out hc hbc];rfl) hlt (KM.refl _ _ _) HX.out.2.1 HX.out.2.2.2.2.1
    ·have hpsI:(s.length:Int)<=(p:Int):=by omega
     go_wp2_with fail;go_ret;exact HDONE.out wr p _ hpl rfl (by unfold fldAt;rw[if_neg h0,HP.out,isAt_out (by omega)];rfl) hlt (KM.refl _ _ _) HX.out.2.1 HX.out.2.2.2.2.1
  ·obtain rfl:i=n:=by omega
   have hltI:¬(i:Int)<(i:Int):=by omega
   clear hlt;go_wp2_with fail;go_ret;exact⟨HX.out.1,f',HX.out.2.1,.inl ⟨rfl,HX.out.2.2.1,HX.out.2.2.2.1,by rw[HP.out];exact HX.out.2.2.2.2.1,by rw[HP.out];exact hpl⟩⟩
end Go.Proofs.YtoigpackhninoaaGreatDoor
namespace Go.Proofs.YtoigpackhninoaaGreatDoor
set_option maxRecDepth 100000
set_option maxHeartbeats 16000000
open Go.RowKit
def mZ:Array Value:=#[.int .i64 0,.int .i64 0,.int .i64 0,.int .i64 0,.int .i64 0,.int .i64 0,.int .i64 0,.int .i64 0,.int .i64 0,.int .i64 0,.int .u8 0]
structure RMem (s:Gr.Str) (w:World) (sb rb mb ab fb:Nat) (sh:Nat) (f:Nat->Nat) (nn z p:Nat) (wx:World):Prop where
 b:Below w.heap.size w wx
 n:w.heap.size<=rb
 nm:w.heap.size<=mb
 na:w.heap.size<=ab
 mr:mb≠rb
 s:Blk wx sb 9 #[.string ⟨s.toArray⟩]
 r:Blk wx rb 135 mZ
 m:Blk wx mb 135 (mC sh f nn z)
 a:Blk wx ab 3 #[.int .i64 (p:Int)]
 f:Blk wx fb 170 #[.func (.func 124) #[] #[.pointer (some ⟨ab,0,none⟩),.pointer (some ⟨sb,0,none⟩)]]
theorem RMem.up {s:Gr.Str} {w:World} {sb rb mb ab fb sh:Nat} {f:Nat->Nat} {nn z p:Nat} {wx wy:World} (h:RMem s w sb rb mb ab fb sh f nn z p wx) (hb:Below wx.heap.size wx wy):RMem s w sb rb mb ab fb sh f nn z p wy:=
 ⟨h.b.trans (hb.mono h.b.size),h.n,h.nm,h.na,h.mr,h.s.below hb h.s.lt,h.r.below hb h.r.lt,h.m.below hb h.m.lt,h.a.below hb h.a.lt,h.f.below hb h.f.lt⟩
theorem WL.hc2 {g:Nat} {t:TypeId} {w0:World} {cs cs':Array Value} (y:WL g t w0 cs) (e:cs=cs'):Blk y.w g t cs':=by subst e;exact y.hc
def RPost (T:Option (Array Value)) (w:World) (e:Ending) (w':World):Prop:=Below w.heap.size w w'/\∃(sh:Nat) (f:Nat->Nat) (nn z:Nat),e=.returned (.tuple #[.agg (mC sh f nn z),.bool T.isSome])/\∀x,T=some x->x=mC sh f nn z
theorem stored11 {w:World} {g:Nat} {t:TypeId} {c0 c1 c2 c3 c4 c5 c6 c7 c8 c9 c10 v0 v1 v2 v3 v4 v5 v6 v7 v8 v9 v10:Value} (h:Blk w g t #[c0,c1,c2,c3,c4,c5,c6,c7,c8,c9,c10]):Blk (((((((((((w.setCell ⟨g,0,none⟩ (v0)).setCell ⟨g,1,none⟩ (v1)).setCell ⟨g,2,none⟩ (v2)).setCell ⟨g,3,none⟩ (v3)).setCell ⟨g,4,none⟩ (v4)).setCell ⟨g,5,none⟩ (v5)).setCell ⟨g,6,none⟩ (v6)).setCell ⟨g,7,none⟩ (v7)).setCell ⟨g,8,none⟩ (v8)).setCell ⟨g,9,none⟩ (v9)).setCell ⟨g,10,none⟩ (v10)) g t #[v0,v1,v2,v3,v4,v5,v6,v7,v8,v9,v10]:=by
 have h1:=(((((((((((h.set_ 0 v0).set_ 1 v1).set_ 2 v2).set_ 3 v3).set_ 4 v4).set_ 5 v5).set_ 6 v6).set_ 7 v7).set_ 8 v8).set_ 9 v9).set_ 10 v10)
 simp only[List.setIfInBounds_toArray,List.set_cons_zero,List.set_cons_succ]at h1;exact h1
theorem kb11 {w0 w:World} {g:Nat} (h:KB g w0 w) (v0 v1 v2 v3 v4 v5 v6 v7 v8 v9 v10:Value):KB g w0 (((((((((((w.setCell ⟨g,0,none⟩ (v0)).setCell ⟨g,1,none⟩ (v1)).setCell ⟨g,2,none⟩ (v2)).setCell ⟨g,3,none⟩ (v3)).setCell ⟨g,4,none⟩ (v4)).setCell ⟨g,5,none⟩ (v5)).setCell ⟨g,6,none⟩ (v6)).setCell ⟨g,7,none⟩ (v7)).setCell ⟨g,8,none⟩ (v8)).setCell ⟨g,9,none⟩ (v9)).setCell ⟨g,10,none⟩ (v10)):=
 (((((((((((h.set 0 _).set 1 _).set 2 _).set 3 _).set 4 _).set 5 _).set 6 _).set 7 _).set 8 _).set 9 _).set 10 _)
theorem below11 {w0 w:World} {g B:Nat} (h:Below B w0 w) (hB:B<=g) (v0 v1 v2 v3 v4 v5 v6 v7 v8 v9 v10:Value):Below B w0 (((((((((((w.setCell ⟨g,0,none⟩ (v0)).setCell ⟨g,1,none⟩ (v1)).setCell ⟨g,2,none⟩ (v2)).setCell ⟨g,3,none⟩ (v3)).setCell ⟨g,4,none⟩ (v4)).setCell ⟨g,5,none⟩ (v5)).setCell ⟨g,6,none⟩ (v6)).setCell ⟨g,7,none⟩ (v7)).setCell ⟨g,8,none⟩ (v8)).setCell ⟨g,9,none⟩ (v9)).setCell ⟨g,10,none⟩ (v10)):=
 (((((((((((h.setCell (p:=⟨g,0,none⟩) hB _).setCell (p:=⟨g,1,none⟩) hB _).setCell (p:=⟨g,2,none⟩) hB _).setCell (p:=⟨g,3,none⟩) hB _).setCell (p:=⟨g,4,none⟩) hB _).setCell (p:=⟨g,5,none⟩) hB _).setCell (p:=⟨g,6,none⟩) hB _).setCell (p:=⟨g,7,none⟩) hB _).setCell (p:=⟨g,8,none⟩) hB _).setCell (p:=⟨g,9,none⟩) hB _).setCell (p:=⟨g,10,none⟩) hB _)
theorem rd_end (s:Gr.Str) (_hl:s.length<=1073741823) (w wx:World) (sb rb mb ab fb sh:Nat) (f:Nat->Nat) (nn z p:Nat) (T:Option (Array Value)) (HM:Hid (RMem s w sb rb mb ab fb sh f nn z p wx)) (HT:Hid (T=if p=s.length then some (mC sh f nn z)else none)) (u3 u8 u9 u10 u11 u12 u13 u14 u15 u16 u17 u18 u19 u20 u21 u22 u23 u24 u25 u26 u27 u28 u29 u30 u31 u32 u33 u34 u35 u36 u37 u38 u39 u40 u41 u42 u43 u44 u45 u46 u47 u48 u49 u50 u51 u52 u53 u54 u55 u56 u57 u58 u59 u60 u61 u62 u63 u64 u65 u66 u67 u68 u69 u70 u71 u72 u73 u74 u75 u76 u77 u78 u79 u80 u81 u82 u83 u84 u85 u86 u87 u88 u89 u90 u91 u92 u93 u94 u95 u96 u97 u98 u99 u100 u101 u102 u103 u104 u105 u106 u107 u108 u109 u110 u111 u112 u113 u114 u115 u116 u117 u118 u119 u120 u121 u122 u123 u124 u125 u126 u127 u128 u129 u130 u131 u132 u133 u134 u135 u136 u137 u138 u139 u140 u141 u142 u143 u144 u145 u146 u147 u148 u149 u150 u151 u152 u153 u154:Value):
 Code.wp Tryz.prog (tl 10 (Tryz.f92.body.getD .skip)) (bodyPost Tryz.prog Tryz.f92 (RPost T w)) {tmps:=List.toArray (.string ⟨s.toArray⟩::.pointer (some ⟨sb,0,none⟩)::.pointer (some ⟨rb,0,none⟩)::u3::.pointer (some ⟨mb,0,none⟩)::.pointer (some ⟨ab,0,none⟩)::.pointer (some ⟨fb,0,none⟩)::.func (.func 125) #[] #[.pointer (some ⟨ab,0,none⟩),.pointer (some ⟨sb,0,none⟩),.pointer (some ⟨fb,0,none⟩)]::u8::u9::u10::u11::u12::u13::u14::u15::u16::u17::u18::u19::u20::u21::u22::u23::u24::u25::u26::u27::u28::u29::u30::u31::u32::u33::u34::u35::u36::u37::u38::u39::u40::u41::u42::u43::u44::u45::u46::u47::u48::u49::u50::u51::u52::u53::u54::u55::u56::u57::u58::u59::u60::u61::u62::u63::u64::u65::u66::u67::u68::u69::u70::u71::u72::u73::u74::u75::u76::u77::u78::u79::u80::u81::u82::u83::u84::u85::u86::u87::u88::u89::u90::u91::u92::u93::u94::u95::u96::u97::u98::u99::u100::u101::u102::u103::u104::u105::u106::u107::u108::u109::u110::u111::u112::u113::u114::u115::u116::u117::u118::u119::u120::u121::u122::u123::u124::u125::u126::u127::u128::u129::u130::u131::u132::u133::u134::u135::u136::u137::u138::u139::u140::u141::u142::u143::u144::u145::u146::u147::u148::u149::u150::u151::u152::u153::u154::[]),defers:=[]} wx:=by
 generalize hc0:tl 10 (Tryz.f92.body.getD .skip)=c0;simp only[tl,Tryz.f92,Option.getD_some]at hc0;subst hc0;obtain⟨ok,hok⟩:∃ok,decide ((p:Int)=(s.length:Int))=ok:=⟨_,rfl⟩
 have hokb:((p:Int)==(s.length:Int))=ok:=by rw[<-hok];rfl
 have HOK:Hid (T=if ok=true then some (mC sh f nn z)else none):=Lib.hid (by
  rw[HT.out,<-hok];by_cases h:p=s.length
  ·rw[if_pos h,if_pos (by simp[h])]
  ·rw[if_neg h,if_neg (by simp;omega)])
 clear hok HT;go_upto_region 36 with fail;obtain⟨Z,hZ⟩:∃Z:Bool->Array Value,Z=fun b=>if b=true then mC sh f nn z else mZ:=⟨_,rfl⟩
 have HZ0:Hid (Z false=mZ/\Z true=mC sh f nn z):=Lib.hid (by rw[hZ];exact⟨rfl,rfl⟩);clear hZ;have HD0:Hid (∃y:WL rb 135 wx (Z false),{wx with drawn:=wx.drawn+1}=y.w):=Lib.hid ⟨⟨wx.drewN 1,(KB.refl _ _).drewN 1,by rw[HZ0.out.1];exact HM.out.r.drewN 1⟩,rfl⟩;have HSTO:Hid (∀y:WL rb 135 wx (Z false),∃z':WL rb 135 wx (Z true),(((((((((((y.w.setCell ⟨rb,0,none⟩ (.int .i64 (sh:Int))).setCell ⟨rb,1,none⟩ (.int .i64 (f 0:Int))).setCell ⟨rb,2,none⟩ (.int .i64 (f 1:Int))).setCell ⟨rb,3,none⟩ (.int .i64 (f 2:Int))).setCell ⟨rb,4,none⟩ (.int .i64 (f 3:Int))).setCell ⟨rb,5,none⟩ (.int .i64 (f 4:Int))).setCell ⟨rb,6,none⟩ (.int .i64 (f 5:Int))).setCell ⟨rb,7,none⟩ (.int .i64 (f 6:Int))).setCell ⟨rb,8,none⟩ (.int .i64 (f 7:Int))).setCell ⟨rb,9,none⟩ (.int .i64 (nn:Int))).setCell ⟨rb,10,none⟩ (.int .u8 (z:Int)))=z'.w):=Lib.hid (fun y=>⟨⟨_,kb11 y.h _ _ _ _ _ _ _ _ _ _ _,by
  have h0:=WL.hc2 y HZ0.out.1;rw[HZ0.out.2];exact stored11 h0⟩,rfl⟩)
 have HNE:Hid (∀b,Nonempty (WL rb 135 wx (Z b))):=Lib.hid (fun b=>by
  obtain⟨y,_⟩:=HD0.out;cases b with
  |false=>exact⟨y⟩
  |true=>obtain⟨z',_⟩:=HSTO.out y;exact⟨z'⟩)
 have HQ:Hid (∀b,∀y:WL rb 135 wx (Z b),Blk y.w mb 135 (mC sh f nn z)/\Blk y.w ab 3 #[.int .i64 (p:Int)]/\Blk y.w sb 9 #[.string ⟨s.toArray⟩]):=Lib.hid (fun b y=>⟨y.h.blk HM.out.m HM.out.mr,y.h.blk HM.out.a (HM.out.a.ne_ HM.out.r (by decide)),y.h.blk HM.out.s (HM.out.s.ne_ HM.out.r (by decide))⟩);refine wp_region_late (aF:=?aF) 5 (by kernel_rfl) _ rfl rfl rfl rfl rfl (by kernel_rfl) (by kernel_rfl) (by kernel_rfl) (by kernel_rfl) (by kernel_rfl) (fun b W=>∃y:WL rb 135 wx (Z b),W=y.w) HD0.out (fun b=>?h1) ?h2 ?h3
 case h1=>
  have q0:∀y:WL rb 135 wx (Z b),y.w.cell? ⟨mb,0,none⟩=some (.int .i64 (sh:Int)):=fun y=>(HQ.out b y).1.cell 0
  have q1:∀y:WL rb 135 wx (Z b),y.w.cell? ⟨mb,1,none⟩=some (.int .i64 (f 0:Int)):=fun y=>(HQ.out b y).1.cell 1
  have q2:∀y:WL rb 135 wx (Z b),y.w.cell? ⟨mb,2,none⟩=some (.int .i64 (f 1:Int)):=fun y=>(HQ.out b y).1.cell 2
  have q3:∀y:WL rb 135 wx (Z b),y.w.cell? ⟨mb,3,none⟩=some (.int .i64 (f 2:Int)):=fun y=>(HQ.out b y).1.cell 3
  have q4:∀y:WL rb 135 wx (Z b),y.w.cell? ⟨mb,4,none⟩=some (.int .i64 (f 3:Int)):=fun y=>(HQ.out b y).1.cell 4
  have q5:∀y:WL rb 135 wx (Z b),y.w.cell? ⟨mb,5,none⟩=some (.int .i64 (f 4:Int)):=fun y=>(HQ.out b y).1.cell 5
  have q6:∀y:WL rb 135 wx (Z b),y.w.cell? ⟨mb,6,none⟩=some (.int .i64 (f 5:Int)):=fun y=>(HQ.out b y).1.cell 6
  have q7:∀y:WL rb 135 wx (Z b),y.w.cell? ⟨mb,7,none⟩=some (.int .i64 (f 6:Int)):=fun y=>(HQ.out b y).1.cell 7
  have q8:∀y:WL rb 135 wx (Z b),y.w.cell? ⟨mb,8,none⟩=some (.int .i64 (f 7:Int)):=fun y=>(HQ.out b y).1.cell 8
  have q9:∀y:WL rb 135 wx (Z b),y.w.cell? ⟨mb,9,none⟩=some (.int .i64 (nn:Int)):=fun y=>(HQ.out b y).1.cell 9
  have q10:∀y:WL rb 135 wx (Z b),y.w.cell? ⟨mb,10,none⟩=some (.int .u8 (z:Int)):=fun y=>(HQ.out b y).1.cell 10
  have hne:=HNE.out b;have qA:∀y:WL rb 135 wx (Z b),y.w.cell? ⟨ab,0,none⟩=some (.int .i64 (p:Int)):=fun y=>(HQ.out b y).2.1.cell 0
  have qS:∀y:WL rb 135 wx (Z b),y.w.cell? ⟨sb,0,none⟩=some (.string ⟨s.toArray⟩):=fun y=>(HQ.out b y).2.2.cell 0
  simp only[List.set_cons_succ,List.set_cons_zero,nopOf,List.getElem_toArray,List.getElem_cons_succ,List.getElem_cons_zero]
  iterate 7 (go_big_quiet_step (fail))
  refine wpQuiet_nil ?_;rfl
 case h2=>
  rintro _ ⟨y,rfl⟩;obtain⟨z',hz⟩:=HSTO.out y;have hyc:Blk y.w rb 135 #[.int .i64 0,.int .i64 0,.int .i64 0,.int .i64 0,.int .i64 0,.int .i64 0,.int .i64 0,.int .i64 0,.int .i64 0,.int .i64 0,.int .u8 0]:=WL.hc2 y HZ0.out.1;have f0:∀j,y.w.frozen? ⟨rb,j,none⟩=false:=hyc.frozen;obtain⟨c0,c1,c2,c3,c4,c5,c6,c7,c8,c9,c10⟩:=cells11 hyc;refine⟨z'.w,?_,z',rfl⟩;rw[<-hz];simp only[List.getElem_toArray,List.getElem_cons_succ,List.getElem_cons_zero];go_simp
 case h3=>
 rintro _ ⟨y,rfl⟩;have hyc:Blk y.w rb 135 (mC sh f nn z):=WL.hc2 y HZ0.out.2;obtain⟨e0,e1,e2,e3,e4,e5,e6,e7,e8,e9,e10⟩:=cells11 hyc;go_wp2_with fail;have HSH:Below w.heap.size w y.w:=HM.out.b.trans (y.h.below HM.out.n HM.out.b.size);refine bodyPost_ret (v:=.tuple #[.agg #[.int .i64 (sh:Int),.int .i64 (f 0:Int),.int .i64 (f 1:Int),.int .i64 (f 2:Int),.int .i64 (f 3:Int),.int .i64 (f 4:Int),.int .i64 (f 5:Int),.int .i64 (f 6:Int),.int .i64 (f 7:Int),.int .i64 (nn:Int),.int .u8 (z:Int)],.bool ok]) (by rw[results_cell_tmp rfl];go_simp) rfl ?_;unfold RPost;refine⟨HSH,sh,f,nn,z,?_,fun x hx=>?_⟩
 ·rw[HOK.out];cases ok<;>rfl
 ·rw[HOK.out]at hx;split at hx
  ·injection hx with hx;exact hx.symm
  ·cases hx
end Go.Proofs.YtoigpackhninoaaGreatDoor
namespace Go.Proofs.YtoigpackhninoaaGreatDoor
open Go.RowKit
theorem fld0 (s:Gr.Str) (a first c:Nat):fldAt s a first c 0=Gr.numAt s a first:=rfl
theorem fld1 (s:Gr.Str) (a first c:Nat):fldAt s a first c 1=if Gr.isAt s (a+first) (UInt8.ofNat c)=true then Gr.numAt s (a+first+1) 2 else none:=by
 unfold fldAt posAt;simp
theorem fld2 (s:Gr.Str) (a first c:Nat):fldAt s a first c 2=if Gr.isAt s (a+first+3) (UInt8.ofNat c)=true then Gr.numAt s (a+first+4) 2 else none:=by
 unfold fldAt posAt;simp[Nat.add_assoc]
theorem if_some {c:Prop} [Decidable c] {o:Option Nat} {v:Nat} (h:(if c then o else none)=some v):c/\o=some v:=by
 split at h
 ·rename_i hc;exact⟨hc,h⟩
 ·cases h
theorem if_none {c:Prop} [Decidable c] {o:Option Nat} (h:(if c then o else none)=none):¬c\/o=none:=by
 split at h
 ·exact .inr h
 ·rename_i hc;exact .inl hc
theorem date_fld {s:Gr.Str} {g:Nat->Nat} (h:∀j,j<3->fldAt s 0 4 45 j=some (g (0+j))):Gr.dateAt s=some (g 0,g 1,g 2):=by
 have h0:=h 0 (by omega);have h1:=h 1 (by omega);have h2:=h 2 (by omega);rw[fld0]at h0;rw[fld1]at h1;rw[fld2]at h2;obtain⟨a1,b1⟩:=if_some h1;obtain⟨a2,b2⟩:=if_some h2;unfold Gr.dateAt;rw[h0,show(5:Nat)=0+4+1 from rfl,show(8:Nat)=0+4+4 from rfl,b1,b2];show(if(Gr.isAt s (0+4) (UInt8.ofNat 45) && Gr.isAt s (0+4+3) (UInt8.ofNat 45))=true then _ else _)=_;rw[a1,a2];rfl
theorem date_nofld {s:Gr.Str} (h:∃j,j<3/\fldAt s 0 4 45 j=none):Gr.dateAt s=none:=by
 obtain⟨j,hj,h⟩:=h;unfold Gr.dateAt;have:j=0\/j=1\/j=2:=by omega
 rcases this with rfl|rfl|rfl
 ·rw[fld0]at h;rw[h]
 ·rw[fld1]at h;rcases if_none h with h|h
  ·split
   ·rw[if_neg];intro e;rw[Bool.and_eq_true]at e;exact h e.1
   ·rfl
  ·rw[show(5:Nat)=0+4+1 from rfl,h];split
   ·rename_i e _;cases e
   ·rfl
 ·rw[fld2]at h;rcases if_none h with h|h
  ·split
   ·rw[if_neg];intro e;rw[Bool.and_eq_true]at e;exact h e.2
   ·rfl
  ·rw[show(8:Nat)=0+4+4 from rfl,h];split
   ·rename_i e;cases e
   ·rfl
structure ClkIs (s:Gr.Str) (a h m c:Nat):Prop where
 h:Gr.numAt s a 2=some h
 m:Gr.numAt s (a+3) 2=some m
 c:Gr.numAt s (a+6) 2=some c
 i:Gr.isAt s (a+2) 58=true
 j:Gr.isAt s (a+5) 58=true
theorem clk_fld {s:Gr.Str} {a:Nat} {g:Nat->Nat} (h:∀j,j<3->fldAt s a 2 58 j=some (g (3+j))):ClkIs s a (g 3) (g 4) (g 5):=by
 have h0:=h 0 (by omega);have h1:=h 1 (by omega);have h2:=h 2 (by omega);rw[fld0]at h0;rw[fld1]at h1;rw[fld2]at h2;obtain⟨a1,b1⟩:=if_some h1;obtain⟨a2,b2⟩:=if_some h2;exact⟨h0,b1,b2,a1,a2⟩
theorem clk_no {s:Gr.Str} {a:Nat} (h:∃j,j<3/\fldAt s a 2 58 j=none):Gr.clockAt s a=none:=by
 obtain⟨j,hj,h⟩:=h;unfold Gr.clockAt;have:j=0\/j=1\/j=2:=by omega
 rcases this with rfl|rfl|rfl
 ·rw[fld0]at h;rw[h]
 ·rw[fld1]at h;rcases if_none h with h|h
  ·split
   ·rw[if_neg];intro e;rw[Bool.and_eq_true]at e;exact h e.1
   ·rfl
  ·rw[show a+3=a+2+1 from rfl,h];split
   ·rename_i e _;cases e
   ·rfl
 ·rw[fld2]at h;rcases if_none h with h|h
  ·split
   ·rw[if_neg];intro e;rw[Bool.and_eq_true]at e;exact h e.2
   ·rfl
  ·rw[show a+6=a+2+4 from rfl,h];split
   ·rename_i e;cases e
   ·rfl
theorem clk_plain {s:Gr.Str} {a h m c:Nat} (k:ClkIs s a h m c) (hd:Gr.isAt s (a+8) 46=false):Gr.clockAt s a=some ⟨h,m,c,0,a+8⟩:=by
 unfold Gr.clockAt;rw[k.h,k.m,k.c];simp only;rw[k.i,k.j,hd];rfl
theorem clk_dot {s:Gr.Str} {a h m c:Nat} (k:ClkIs s a h m c) (hd:Gr.isAt s (a+8) 46=true):Gr.clockAt s a=if((s.drop (a+9)).takeWhile Gr.dig).length=0\/9<((s.drop (a+9)).takeWhile Gr.dig).length then none
 else some ⟨h,m,c,Gr.val ((s.drop (a+9)).takeWhile Gr.dig)*10 ^ (9-((s.drop (a+9)).takeWhile Gr.dig).length),a+9+((s.drop (a+9)).takeWhile Gr.dig).length⟩:=by
 unfold Gr.clockAt;rw[k.h,k.m,k.c];simp only;rw[k.i,k.j,hd];rfl
theorem isAt_b {s:Gr.Str} {p b:Nat} (hp:p<s.length) (hb:(s[p]'hp).toNat=b) (c:UInt8):Gr.isAt s p c=decide (b=c.toNat):=by
 unfold Gr.isAt;rw[List.getElem?_eq_getElem hp,<-hb,Bool.eq_iff_iff];simp;exact⟨fun e=>by rw[e],fun e=>UInt8.toNat_inj.1 e⟩
theorem zone_Z {s:Gr.Str} {p:Nat} (hp:p<s.length) (hb:(s[p]'hp).toNat=90):Gr.zoneAt s p=some ⟨90,0,0,p+1⟩:=by
 unfold Gr.zoneAt;rw[if_pos (by rw[isAt_b hp hb];rfl)]
theorem zone_bad {s:Gr.Str} {p b:Nat} (hp:p<s.length) (hb:(s[p]'hp).toNat=b) (h1:b≠90) (h2:b≠43) (h3:b≠45):Gr.zoneAt s p=none:=by
 unfold Gr.zoneAt;rw[if_neg (by rw[isAt_b hp hb];simpa using h1)];split
 ·rw[if_neg];rw[isAt_b hp hb,isAt_b hp hb];simp[h2,h3]
 ·rfl
theorem zone_fld {s:Gr.Str} {p b:Nat} {g:Nat->Nat} (hp:p<s.length) (hb:(s[p]'hp).toNat=b) (h2:b=43\/b=45) (h:∀j,j<2->fldAt s (p+1) 2 58 j=some (g (6+j))):∃z:Gr.Zn,Gr.zoneAt s p=some z/\z.z.toNat=b/\z.h=g 6/\z.m=g 7/\z.stop=p+6:=by
 have h0:=h 0 (by omega);have h1:=h 1 (by omega);rw[fld0]at h0;rw[fld1]at h1;obtain⟨a1,b1⟩:=if_some h1;refine⟨⟨s.getD p 0,g 6,g 7,p+6⟩,?_,?_,rfl,rfl,rfl⟩
 ·unfold Gr.zoneAt;rw[if_neg (by rw[isAt_b hp hb];rcases h2 with rfl|rfl<;>decide),h0,show p+4=p+1+2+1 from rfl,b1];simp only;rw[if_pos];rw[isAt_b hp hb,isAt_b hp hb,Bool.and_eq_true];exact⟨by rcases h2 with rfl|rfl<;>decide,a1⟩
 ·show(s.getD p 0).toNat=b;rw[List.getD_eq_getElem?_getD,List.getElem?_eq_getElem hp,<-hb];rfl
theorem zone_nofld {s:Gr.Str} {p b:Nat} (hp:p<s.length) (hb:(s[p]'hp).toNat=b) (h2:b≠90) (h:∃j,j<2/\fldAt s (p+1) 2 58 j=none):Gr.zoneAt s p=none:=by
 obtain⟨j,hj,h⟩:=h;unfold Gr.zoneAt;rw[if_neg (by rw[isAt_b hp hb];simpa using h2)];have:j=0\/j=1:=by omega
 rcases this with rfl|rfl
 ·rw[fld0]at h;rw[h]
 ·rw[fld1]at h;rcases if_none h with h|h
  ·split
   ·rw[if_neg];intro e;rw[Bool.and_eq_true]at e;exact h e.2
   ·rfl
  ·rw[show p+4=p+1+2+1 from rfl,h];split
   ·rename_i e;cases e
   ·rfl
end Go.Proofs.YtoigpackhninoaaGreatDoor
