import Derived.Test.YtoigpackhninoaaGreatDoorZ20
namespace Go.Proofs.YtoigpackhninoaaGreatDoor
open Gr
open _root_.Go.Proofs.Tryz
open _root_.Go.Lib (hid)
set_option maxRecDepth 100000
set_option maxHeartbeats 16000000
open Go.RowKit
def zi2 (s:Gr.Str) (a n ab:Nat) (w:World) (e:Ending) (w':World):Prop:=Kept1 ab w w'/\((∃v:Nat,numAt s a n=some v/\e=.returned (.tuple #[.int .i64 (v:Int),.bool true])/\Blk w' ab 3 #[.int .i64 ((a+n:Nat):Int)])\/(numAt s a n=none/\e=.returned (.tuple #[.int .i64 0,.bool false])/\∃a':Nat,a'<=s.length/\Blk w' ab 3 #[.int .i64 (a':Int)]))
theorem zo8 (s:Gr.Str) (hl:s.length<=1073741823) (ab sb a n:Nat) (j:Int) (hj:j=(n:Int)) (hn:n<=9) (ha:a<=s.length) (w:World) (hA:Blk w ab 3 #[.int .i64 (a:Int)]) (hS:Blk w sb 9 #[.string ⟨s.toArray⟩]):
 Calls prog 124 #[.int .i64 j,.pointer (some ⟨ab,0,none⟩),.pointer (some ⟨sb,0,none⟩)] w (zi2 s a n ab w):=by
 subst hj;have hne:sb≠ab:=by
  intro e;subst e;have:=hA.symm.trans hS;simp at this
 have HA:=hid hA;have HS:=hid hS;clear hA hS;go_enter func124,ntmps124;go_wp2_with fail;go_loopw [6,8] (fun s6 s8 wr=>∃k v:Nat,k<=n/\v<=999999999/\a+k<=s.length/\s6=.int .i64 (v:Int)/\s8=.int .i64 (k:Int)/\Hid (((s.drop a).take k).all Gr.dig=true/\v=Gr.val ((s.drop a).take k)/\Blk wr ab 3 #[.int .i64 ((a+k:Nat):Int)]/\Kept1 ab w wr)) (fun _ s8 _=>n-(intOf s8).toNat)
 case atStart=>exact⟨0,0,by omega,by omega,by omega,rfl,rfl,hid ⟨by simp,by simp[Gr.val],HA.out,Kept1.refl _ _⟩⟩
 case round=>
  obtain⟨k,v,hk,hv,hak,rfl,rfl,HV⟩:=hrel;have qA:wr.cell? ⟨ab,0,none⟩=some (.int .i64 ((a+k:Nat):Int)):=HV.out.2.2.1.cell 0;have qF:∀j,wr.frozen? ⟨ab,j,none⟩=false:=HV.out.2.2.1.frozen;have qS:wr.cell? ⟨sb,0,none⟩=some (.string ⟨s.toArray⟩):=(HV.out.2.2.2.blk HS.out hne).cell 0;by_cases hlt:k<n
  ·have hltI:(k:Int)<(n:Int):=by omega
   by_cases hltS:a+k<s.length
   ·have hlI:¬(s.length:Int)<=((a+k:Nat):Int):=by omega
    obtain⟨b,hb⟩:∃b:Nat,(s[a+k]'hltS).toNat=b:=⟨_,rfl⟩
    have hbv:(((⟨s.toArray⟩:ByteArray)[a+k]'(by simpa[ByteArray.size]using hltS)).toNat:Int)=(b:Int):=by rw[<-hb];rfl
    have hbl:b<256:=by rw[<-hb];exact(s[a+k]'hltS).toNat_lt
    have HBD:=hid (zda (s[a+k]'hltS) b hb);clear hb;by_cases h48:48<=b
    ·have a48:¬(b:Int)<48:=by omega
     have b48:(48:Int)<=(b:Int):=by omega
     by_cases h57:b<=57
     ·have a57:¬(57:Int)<(b:Int):=by omega
      have HT:=hid (zb1 s a k hltS);have HNX:Hid (((s.drop a).take (k+1)).all Gr.dig=true/\10*v+(b-48)=Gr.val ((s.drop a).take (k+1))):=hid (by
       rw[HT.out,List.all_append,HV.out.1,zba,<-HV.out.2.1,HBD.out.2];exact⟨by simp[HBD.out.1,h48,h57],rfl⟩)
      have hvn:10*v+(b-48)<=999999999:=by
       rw[HNX.out.2];have:=zi1 _ HNX.out.1 (by simp;omega);omega
      have HN2:Hid (Blk (wr.setCell ⟨ab,0,none⟩ (.int .i64 (((a+k:Nat):Int)+1))) ab 3 #[.int .i64 ((a+(k+1):Nat):Int)]/\Kept1 ab w (wr.setCell ⟨ab,0,none⟩ (.int .i64 (((a+k:Nat):Int)+1)))):=hid ⟨by rw[show((a+(k+1):Nat):Int)=((a+k:Nat):Int)+1 from by omega];exact HV.out.2.2.1.set_ 0 _,HV.out.2.2.2.trans (Kept1.set 0 _)⟩;go_wp2;go_roundw
      case rel=>exact⟨k+1,10*v+(b-48),by omega,hvn,by omega,by exact congrArg (Value.int .i64) (by omega),by go_num,hid ⟨HNX.out.1,HNX.out.2,HN2.out.1,HN2.out.2⟩⟩
      case measure=>simp[intOf];omega
     ·have a57:(57:Int)<(b:Int):=by omega
      have HF:=hid (zcy s a n k hlt hltS (by rw[HBD.out.1];simp[h57]));go_wp2;go_ret2;exact⟨HV.out.2.2.2,.inr ⟨HF.out,rfl,a+k,by omega,HV.out.2.2.1⟩⟩
    ·have a48:(b:Int)<48:=by omega
     have HF:=hid (zcy s a n k hlt hltS (by rw[HBD.out.1];simp[h48]));go_wp2;go_ret2;exact⟨HV.out.2.2.2,.inr ⟨HF.out,rfl,a+k,by omega,HV.out.2.2.1⟩⟩
   ·have hlI:(s.length:Int)<=((a+k:Nat):Int):=by omega
    have HF:=hid (zcl s a n (by omega));go_wp2;go_ret2;exact⟨HV.out.2.2.2,.inr ⟨HF.out,rfl,a+k,by omega,HV.out.2.2.1⟩⟩
  ·obtain rfl:k=n:=by omega
   have hltI:¬(k:Int)<(k:Int):=by omega
   have HF:Hid (numAt s a k=some v):=hid (by rw[zgu s a k (by omega) HV.out.1,HV.out.2.1]);clear hlt;go_wp2;go_ret2;exact⟨HV.out.2.2.2,.inl ⟨v,HF.out,rfl,HV.out.2.2.1⟩⟩
def posAt (a first i:Nat):Nat:=if i=0 then a else a+first+3*(i-1)
def fldAt (s:Gr.Str) (a first:Nat) (c:Nat) (i:Nat):Option Nat:=if i=0 then numAt s a first else if isAt s (posAt a first i) (UInt8.ofNat c)=true then numAt s (posAt a first i+1) 2 else none
def mC (sh:Nat) (f:Nat->Nat) (nn z:Nat):Array Value:=#[.int .i64 (sh:Int),.int .i64 (f 0:Int),.int .i64 (f 1:Int),.int .i64 (f 2:Int),.int .i64 (f 3:Int),.int .i64 (f 4:Int),.int .i64 (f 5:Int),.int .i64 (f 6:Int),.int .i64 (f 7:Int),.int .i64 (nn:Int),.int .u8 (z:Int)]
def fset (f:Nat->Nat) (i v:Nat):Nat->Nat:=fun j=>if j=i then v else f j
theorem ztl {sh nn z:Nat} {f:Nat->Nat} {i:Nat} (h:i<8) (v:Nat):(mC sh f nn z).setIfInBounds (1+i) (.int .i64 (v:Int))=mC sh (fset f i v) nn z:=by
 have:i=0\/i=1\/i=2\/i=3\/i=4\/i=5\/i=6\/i=7:=by omega
 rcases this with rfl|rfl|rfl|rfl|rfl|rfl|rfl|rfl<;>rfl
theorem zqh {sh nn z:Nat} {f:Nat->Nat} {i:Nat} (h:i<8):(mC sh f nn z)[1+i]? =some (.int .i64 (f i:Int)):=by
 have:i=0\/i=1\/i=2\/i=3\/i=4\/i=5\/i=6\/i=7:=by omega
 rcases this with rfl|rfl|rfl|rfl|rfl|rfl|rfl|rfl<;>rfl
theorem zmu {a first i:Nat} (h:0<i):posAt a first (i+1)=posAt a first i+1+2:=by
 unfold posAt;rw[if_neg (by omega),if_neg (by omega)];omega
theorem zmv {a first:Nat}:posAt a first 1=a+first:=by simp[posAt]
theorem zrs {s:Gr.Str} {p c b:Nat} (hp:p<s.length) (hb:(s[p]'hp).toNat=b) (hc:c<256) (h:b≠c):isAt s p (UInt8.ofNat c)=false:=by
 unfold isAt;rw[List.getElem?_eq_getElem hp];simp;intro e;apply h;rw[<-hb,e];simp;omega
theorem zi3 {s:Gr.Str} {p c b:Nat} (hp:p<s.length) (hb:(s[p]'hp).toNat=b) (h:b=c):isAt s p (UInt8.ofNat c)=true:=by
 unfold isAt;rw[List.getElem?_eq_getElem hp];subst h;rw[<-hb];simp
theorem zfy {s:Gr.Str} {p:Nat} {c:UInt8} (hp:s.length<=p):isAt s p c=false:=by
 unfold isAt;rw[List.getElem?_eq_none hp];rfl
def KM (mb ab:Nat) (w w':World):Prop:=za5 w w' (fun k=>k=mb\/k=ab)
theorem KM.refl (mb ab:Nat) (w:World):KM mb ab w w:=⟨rfl,rfl,rfl,Nat.le_refl _,fun _ _ _=>rfl⟩
theorem KM.trans {mb ab:Nat} {a b c:World} (h:KM mb ab a b) (h2:KM mb ab b c):KM mb ab a c:=
 ⟨h2.os.trans h.os,h2.tape.trans h.tape,h2.output.trans h.output,Nat.le_trans h.size h2.size,fun k hk hg=>(h2.block k (Nat.lt_of_lt_of_le hk h.size) hg).trans (h.block k hk hg)⟩
theorem KM.ofA {mb ab:Nat} {a b:World} (h:Kept1 ab a b):KM mb ab a b:=⟨h.os,h.tape,h.output,Nat.le_of_eq h.size.symm,fun k _ hg=>h.block k (fun e=>hg (.inr e))⟩
theorem KM.ofM {mb ab:Nat} {a b:World} (h:Kept1 mb a b):KM mb ab a b:=⟨h.os,h.tape,h.output,Nat.le_of_eq h.size.symm,fun k _ hg=>h.block k (fun e=>hg (.inl e))⟩
theorem KM.blk {mb ab k:Nat} {a b:World} {t:TypeId} {cs:Array Value} (h:KM mb ab a b) (hb:Blk a k t cs) (h1:k≠mb) (h2:k≠ab):Blk b k t cs:=(h.block k hb.lt (by rintro(e|e);exact h1 e;exact h2 e)).trans hb
def FldPost (s:Gr.Str) (a first c o n mb ab sh:Nat) (f:Nat->Nat) (nn z:Nat) (w:World) (e:Ending) (w':World):Prop:=
 KM mb ab w w'/\∃f':Nat->Nat,Blk w' mb 135 (mC sh f' nn z)/\((e=.returned (.bool true)/\(∀j,j<n->fldAt s a first c j=some (f' (o+j)))/\(∀j,j<o\/o+n<=j->f' j=f j)/\Blk w' ab 3 #[.int .i64 (posAt a first n:Int)]/\posAt a first n<=s.length)\/(e=.returned (.bool false)/\(∃j,j<n/\fldAt s a first c j=none)/\∃p:Nat,p<=s.length/\Blk w' ab 3 #[.int .i64 (p:Int)]))
theorem zdb (s:Gr.Str) (hl:s.length<=1073741823) (ab sb fb mb a first c o n k:Nat) (sh:Nat) (f:Nat->Nat) (nn z:Nat) (j jc:Int) (hj:j=(first:Int)) (hjc:jc=(c:Int)) (hc:c<256) (hfirst:first<=9) (hn:n<=3) (hnk:n<=k) (hk:k<=8) (ho:o+n<=8) (O:Nat) (hO:O=1+o) (ha:a<=s.length) (w:World) (hA:Blk w ab 3 #[.int .i64 (a:Int)]) (hS:Blk w sb 9 #[.string ⟨s.toArray⟩]) (hF:Blk w fb 170 #[.func (.func 124) #[] #[.pointer (some ⟨ab,0,none⟩),.pointer (some ⟨sb,0,none⟩)]]) (hM:Blk w mb 135 (mC sh f nn z)):
 Calls prog 125 #[.slice (some ⟨mb,O,none⟩) n k,.int .i64 j,.int .u8 jc,.pointer (some ⟨ab,0,none⟩),.pointer (some ⟨sb,0,none⟩),.pointer (some ⟨fb,0,none⟩)] w (FldPost s a first c o n mb ab sh f nn z w):=by
 subst hj;subst hjc;subst hO;have hsa:sb≠ab:=hS.ne_ hA (by decide);have hsm:sb≠mb:=hS.ne_ hM (by decide);have hfa:fb≠ab:=hF.ne_ hA (by decide);have hfm:fb≠mb:=hF.ne_ hM (by decide);have hma:mb≠ab:=hM.ne_ hA (by decide);have HA:=hid hA;have HS:=hid hS;have HFB:=hid hF;have HM:=hid hM;have HNE:=hid (show(sb≠ab/\sb≠mb)/\(fb≠ab/\fb≠mb)/\mb≠ab from⟨⟨hsa,hsm⟩,⟨hfa,hfm⟩,hma⟩);clear hA hS hF hM hsa hsm hfa hfm hma;have HN1:Hid (∀(W:World) (p q:Nat),q<=9->p<=s.length->Blk W ab 3 #[.int .i64 (p:Int)]->Blk W sb 9 #[.string ⟨s.toArray⟩]->Calls prog 124 #[.int .i64 (q:Int),.pointer (some ⟨ab,0,none⟩),.pointer (some ⟨sb,0,none⟩)] W (zi2 s p q ab W)):=hid (fun W p q hq hp h1 h2=>zo8 s hl ab sb p q _ rfl hq hp W h1 h2);go_enter func125,ntmps125;go_wp2_with fail;go_loopw [10,11,12,13,16] (fun s10 s11 s12 s13 s16 wr=>∃i:Nat,i<=n/\s16=.int .i64 (i:Int)/\Hid (∃f':Nat->Nat,KM mb ab w wr/\Blk wr mb 135 (mC sh f' nn z)/\(∀j,j<i->fldAt s a first c j=some (f' (o+j)))/\(∀j,j<o\/o+n<=j->f' j=f j)/\Blk wr ab 3 #[.int .i64 (posAt a first i:Int)]/\posAt a first i<=s.length)) (fun _ _ _ _ s16 _=>n-(intOf s16).toNat)
 case atStart=>exact⟨0,by omega,rfl,hid ⟨f,KM.refl _ _ _,HM.out,fun j hj=>absurd hj (by omega),fun _ _=>rfl,by simpa[posAt]using HA.out,by simpa[posAt]using ha⟩⟩
 case round=>
  obtain⟨i,hi,rfl,HV⟩:=hrel;obtain⟨f',hk1,hm1,hfl,hf0,hp1,hpl⟩:=HV.out;obtain⟨p,hp⟩:=ex (posAt a first i)
  rw[hp]at hp1 hpl;have qS:wr.cell? ⟨sb,0,none⟩=some (.string ⟨s.toArray⟩):=(hk1.blk HS.out HNE.out.1.2 HNE.out.1.1).cell 0;have qA:wr.cell? ⟨ab,0,none⟩=some (.int .i64 (p:Int)):=hp1.cell 0;have qAF:∀j,wr.frozen? ⟨ab,j,none⟩=false:=hp1.frozen;have qF:wr.cell? ⟨fb,0,none⟩=some (.func (.func 124) #[] #[.pointer (some ⟨ab,0,none⟩),.pointer (some ⟨sb,0,none⟩)]):=(hk1.blk HFB.out HNE.out.2.1.2 HNE.out.2.1.1).cell 0;have qF1:∀v,(wr.setCell ⟨ab,0,none⟩ v).cell? ⟨fb,0,none⟩=some (.func (.func 124) #[] #[.pointer (some ⟨ab,0,none⟩),.pointer (some ⟨sb,0,none⟩)]):=fun v=>((hk1.blk HFB.out HNE.out.2.1.2 HNE.out.2.1.1).far HNE.out.2.1.1 v).cell 0
  have HP:=hid hp;have HX:Hid (KM mb ab w wr/\Blk wr mb 135 (mC sh f' nn z)/\(∀j,j<i->fldAt s a first c j=some (f' (o+j)))/\(∀j,j<o\/o+n<=j->f' j=f j)/\Blk wr ab 3 #[.int .i64 (p:Int)]/\Blk wr sb 9 #[.string ⟨s.toArray⟩]):=hid ⟨hk1,hm1,hfl,hf0,hp1,hk1.blk HS.out HNE.out.1.2 HNE.out.1.1⟩;clear hk1 hm1 hfl hf0 hp1 hp HV;have HDONE:Hid (∀(W:World) (q:Nat) (x:Option Nat),q<=s.length->x=none->fldAt s a first c i=x->i<n->KM mb ab wr W->Blk W mb 135 (mC sh f' nn z)->Blk W ab 3 #[.int .i64 (q:Int)]->FldPost s a first c o n mb ab sh f nn z w (.returned (.bool false)) W):=hid (fun W q x hq hx hfx hin hkw hmw haw=>⟨HX.out.1.trans hkw,f',hmw,.inr ⟨rfl,⟨i,hin,hfx.trans hx⟩,q,hq,haw⟩⟩);have HGO:Hid (∀(W:World) (v:Nat),fldAt s a first c i=some v->KM mb ab wr W->Blk W mb 135 (mC sh f' nn z)->Blk W ab 3 #[.int .i64 (posAt a first (i+1):Int)]->i<n->posAt a first (i+1)<=s.length->∃i':Nat,i'<=n/\Value.int .i64 ((i:Int)+1)=.int .i64 (i':Int)/\Hid (∃f'':Nat->Nat,KM mb ab w (W.setCell ⟨mb,1+o+i,none⟩ (.int .i64 (v:Int)))/\Blk (W.setCell ⟨mb,1+o+i,none⟩ (.int .i64 (v:Int))) mb 135 (mC sh f'' nn z)/\(∀j,j<i'->fldAt s a first c j=some (f'' (o+j)))/\(∀j,j<o\/o+n<=j->f'' j=f j)/\Blk (W.setCell ⟨mb,1+o+i,none⟩ (.int .i64 (v:Int))) ab 3 #[.int .i64 (posAt a first i':Int)]/\posAt a first i'<=s.length)):=hid (fun W v hv hkw hmw haw hin hpl=>by
   refine⟨i+1,by omega,rfl,hid ⟨fset f' (o+i) v,HX.out.1.trans (hkw.trans (KM.ofM (Kept1.set _ _))),?_,?_,?_,?_,hpl⟩⟩
   ·have:=hmw.set_ (1+o+i) (.int .i64 (v:Int));rw[show 1+o+i=1+(o+i)from by omega]at this ⊢;rwa[ztl (by omega)]at this
   ·intro j hj;by_cases e:j=i
    ·subst e;rw[hv];simp[fset]
    ·rw[HX.out.2.2.1 j (by omega)];simp[fset,e]
   ·intro j hj;rw[<-HX.out.2.2.2.1 j hj];unfold fset;rw[if_neg (by omega)]
   ·exact haw.far HNE.out.2.2.symm _)
  by_cases hlt:i<n
  ·have hltI:(i:Int)<(n:Int):=by omega
   by_cases h0:i=0
   ·have h0I:(i:Int)=0:=by omega
    have h0J:¬(0:Int)<(i:Int):=by omega
    subst h0;go_wp2_with fail;refine(HN1.out _ p first hfirst hpl HX.out.2.2.2.2.1 HX.out.2.2.2.2.2).mono ?_;rintro e w2 ⟨hk2,⟨v,hv,rfl,ha2⟩|⟨hv,rfl,p2,hp2,ha2⟩⟩
    ·have hm2:=hk2.blk HX.out.2.1 HNE.out.2.2;have qm:w2.cell? ⟨mb,1+o,none⟩=some (.int .i64 (f' o:Int)):=by rw[hm2.cell];exact zqh (i:=o) (by omega)
     have qmF:∀j,w2.frozen? ⟨mb,j,none⟩=false:=hm2.frozen;have HR:Hid (fldAt s a first c 0=some v/\Blk w2 ab 3 #[.int .i64 (posAt a first 1:Int)]/\posAt a first 1<=s.length):=hid (by
      have hpa:p=a:=by rw[<-HP.out];rfl
      subst hpa;rw[zmv];exact⟨by simpa[fldAt]using hv,ha2,(zcb hv (by omega)).2.2⟩)
     have HK2:=hid (And.intro hk2 hm2);clear hk2 hv ha2 hm2;go_wp2;go_roundw
     case rel=>
      obtain⟨i',g1,g2,g3⟩:=HGO.out w2 v HR.out.1 (KM.ofA HK2.out.1) HK2.out.2 HR.out.2.1 hlt HR.out.2.2;exact⟨i',g1,by simpa using g2,g3⟩
     case measure=>simp[intOf];omega
    ·have HR:Hid (FldPost s a first c o n mb ab sh f nn z w (.returned (.bool false)) w2):=hid (HDONE.out w2 p2 _ hp2 rfl (by
      have hpa:p=a:=by rw[<-HP.out];rfl
      subst hpa;simpa[fldAt]using hv) hlt (KM.ofA hk2) (hk2.blk HX.out.2.1 HNE.out.2.2) ha2)
     clear hk2 hv ha2;go_wp2;go_ret;exact HR.out
   ·have h0I:¬(i:Int)=0:=by omega
    have h0J:(0:Int)<(i:Int):=by omega
    by_cases hps:p<s.length
    ·have hpsI:¬(s.length:Int)<=(p:Int):=by omega
     obtain⟨b,hb⟩:∃b:Nat,(s[p]'hps).toNat=b:=⟨_,rfl⟩
     have hbv:(((⟨s.toArray⟩:ByteArray)[p]'(by simpa[ByteArray.size]using hps)).toNat:Int)=(b:Int):=by rw[<-hb];rfl
     have hbl:b<256:=by rw[<-hb];exact(s[p]'hps).toNat_lt
     have HB:=hid hb;clear hb;by_cases hbc:b=c
     ·have hbcI:(b:Int)=(c:Int):=by omega
      go_wp2_with fail;refine(HN1.out _ (p+1) 2 (by omega) (by omega) (HX.out.2.2.2.2.1.set_ 0 _) (HX.out.2.2.2.2.2.far HNE.out.1.1 _)).mono ?_;rintro e w2 ⟨hk2,⟨v,hv,rfl,ha2⟩|⟨hv,rfl,p2,hp2,ha2⟩⟩
      ·have hk3:=(Kept1.set (g:=ab) (w:=wr) 0 (.int .i64 ((p+1:Nat):Int))).trans hk2;have hm2:=hk3.blk HX.out.2.1 HNE.out.2.2;have qm:w2.cell? ⟨mb,1+o+i,none⟩=some (.int .i64 (f' (o+i):Int)):=by rw[hm2.cell,show 1+o+i=1+(o+i)from by omega];exact zqh (by omega)
       have qmF:∀j,w2.frozen? ⟨mb,j,none⟩=false:=hm2.frozen;have HR:Hid (fldAt s a first c i=some v/\Blk w2 ab 3 #[.int .i64 (posAt a first (i+1):Int)]/\posAt a first (i+1)<=s.length):=hid (by
        rw[zmu (by omega),HP.out];refine⟨?_,ha2,(zcb hv (by omega)).2.2⟩;unfold fldAt;rw[if_neg h0,HP.out,if_pos (zi3 hps HB.out hbc)];exact hv)
       have HK2:=hid (And.intro hk3 hm2);clear hk2 hk3 hv ha2 hm2;go_wp2;go_roundw
       case rel=>
        exact HGO.out w2 v HR.out.1 (KM.ofA HK2.out.1) HK2.out.2 HR.out.2.1 hlt HR.out.2.2
       case measure=>simp[intOf];omega
      ·have hk3:=(Kept1.set (g:=ab) (w:=wr) 0 (.int .i64 ((p+1:Nat):Int))).trans hk2;have HR:Hid (FldPost s a first c o n mb ab sh f nn z w (.returned (.bool false)) w2):=hid (HDONE.out w2 p2 _ hp2 rfl (by
        unfold fldAt;rw[if_neg h0,HP.out,if_pos (zi3 hps HB.out hbc)];exact hv) hlt (KM.ofA hk3) (hk3.blk HX.out.2.1 HNE.out.2.2) ha2)
       clear hk2 hk3 hv ha2;go_wp2;go_ret;exact HR.out
     ·have hbcI:¬(b:Int)=(c:Int):=by omega
      go_wp2;go_ret;exact HDONE.out wr p _ hpl rfl (by unfold fldAt;rw[if_neg h0,HP.out,zrs hps HB.out hc hbc];rfl) hlt (KM.refl _ _ _) HX.out.2.1 HX.out.2.2.2.2.1
    ·have hpsI:(s.length:Int)<=(p:Int):=by omega
     go_wp2;go_ret;exact HDONE.out wr p _ hpl rfl (by unfold fldAt;rw[if_neg h0,HP.out,zfy (by omega)];rfl) hlt (KM.refl _ _ _) HX.out.2.1 HX.out.2.2.2.2.1
  ·obtain rfl:i=n:=by omega
   have hltI:¬(i:Int)<(i:Int):=by omega
   clear hlt;go_wp2;go_ret;exact⟨HX.out.1,f',HX.out.2.1,.inl ⟨rfl,HX.out.2.2.1,HX.out.2.2.2.1,by rw[HP.out];exact HX.out.2.2.2.2.1,by rw[HP.out];exact hpl⟩⟩
end Go.Proofs.YtoigpackhninoaaGreatDoor
