import Derived.Test.YtoigpackhninoaaGreatDoorGrCheck
namespace Go.Proofs.YtoigpackhninoaaGreatDoor
open _root_.Go.Proofs.Tryz
set_option maxRecDepth 100000
set_option maxHeartbeats 16000000
open Go.RowKit
theorem zi6 (text:Gr.Str):ScalOk UT 0 text text.isEmpty:=by
 intro w _;have ht:=zg2 text;go_enter func42,ntmps42;go_wp2;go_ret;exact⟨rfl,Below.refl _ _⟩
theorem zes (text:Gr.Str) (hl:text.length<=1073741823):ScalOk UT 2 text (Gr.intB text):=by
 intro w _;have HC:=Lib.hid (fun W=>zef text hl W);obtain⟨r,hr⟩:=ex (Gr.intB text)
 rw[hr]at HC ⊢;clear hr;go_enter func42,ntmps42;go_wp2_with fail;refine(HC.out _).mono ?_;rintro e w2 ⟨rfl,hb⟩;have HB:=Lib.hid hb;clear hb;go_wp2;go_ret;exact⟨rfl,HB.out⟩
def utfB (s:Gr.Str):Bool:=(Utf.bad s).isNone
theorem zfn (text:Gr.Str) (hl:text.length<=1073741823):ScalOk UT 5 text (utfB text):=by
 intro w hw;have HC:=Lib.hid (zg1 text hl w hw.1 hw.2 _ rfl);unfold utfB;cases hr:Utf.bad text with
 |none=>
  rw[hr]at HC;unfold ckVal at HC;simp only at HC;clear hr hw;go_enter func42,ntmps42;go_wp2_with fail;refine HC.out.mono ?_;rintro e w2 ⟨rfl,hb⟩;have HB:=Lib.hid hb;clear hb;go_wp2;go_ret;exact⟨rfl,HB.out⟩
 |some i=>
  rw[hr]at HC;unfold ckVal at HC;simp only at HC;clear hr hw;go_enter func42,ntmps42;go_wp2_with fail;refine HC.out.mono ?_;rintro e w2 ⟨rfl,hb⟩;have HB:=Lib.hid hb;clear hb;go_wp2;go_ret;exact⟨rfl,HB.out⟩
theorem infoIntS:(prog.info? 3).map (·.size)=some 1:=by kernel_rfl
theorem zlu (l:List Nat):intL.all l=(icells l).toList:=by
 induction l with
 |nil=>rfl
 |cons x l ih=>
  have e1:intL.all (x::l)=.int .i64 (x:Int)::intL.all l:=rfl;rw[e1,ih];simp[icells]
theorem zrr (W:World) (B g n c:Nat) (A:Option Addr) (l:List Nat) (ty:TypeId) (hl:l.length=n) (hb:Blk W g 3 (icells (List.replicate n 0))) (hr:RowAt intL W B A l):
 ∃W',(Builtin.copy_ #[33,33] ty #[.slice (some ⟨g,0,none⟩) n n,.slice A n c]).run prog W=.ok (.int .i64 n) W'/\Kept1 g W W'/\Blk W' g 3 (icells l):=by
 by_cases h0:n=0
 ·subst h0;obtain rfl:=List.eq_nil_of_length_eq_zero hl;exact⟨W,run_copy_none (P:=prog) W 33 33 ty 3 _ A 0 0 0 c underlying33 infoIntS rfl,Kept1.refl _ _,hb⟩
 ·obtain⟨ad,rfl,hlt,hc⟩:=hr.2 (by omega);have hall:(intL.all l).length=n:=by rw[Lay.all_len];show l.length*1=n;omega
  have hrun:=run_copy_row (P:=prog) W 33 33 ty 3 g 0 n n ad n c (icells (List.replicate n 0)) 3 (intL.all l) underlying33 infoIntS hb (by rw[hall];exact(Nat.min_self n).symm) hc (by rw[hall];simp[icells]) (intL.all_one l);have e:((icells (List.replicate n 0)).toList.take 0++intL.all l++(icells (List.replicate n 0)).toList.drop (0+(intL.all l).length)).toArray=icells l:=by
   rw[hall];have:intL.all l=(icells l).toList:=by
    exact zlu l
   rw[this];simp[icells]
  rw[e,hall]at hrun;exact⟨_,hrun,⟨rfl,rfl,rfl,size_setRow _ _ _,fun k hk=>setRow_other _ _ _ _ hk⟩,setRow_heap _ _ _ _ _ _ hb⟩
theorem zrs (l:List Nat) (f:Nat->Nat) (i:Nat) (h:i<l.length):((l.take i).map f++l.drop i).set i (f l[i])=(l.take (i+1)).map f++l.drop (i+1):=by
 have e:((l.take i).map f).length=i:=by simp;omega
 rw[List.drop_eq_getElem_cons h,List.set_append_right _ _ (by rw[e];exact Nat.le_refl _),e,Nat.sub_self,List.set_cons_zero,zaj _ _ h,List.map_append];simp
theorem zfq (A:Option Addr) (c by_:Nat) (l:List Nat) (hl:l.length<=1073741823) (hx:∀x∈l,x<=1152921504606846976) (hby:by_<=1152921504606846976) (w:World) (B:Nat) (hB:B<=w.heap.size) (h:RowAt intL w B A l):
 Calls prog 83 #[.slice A l.length c,.int .i64 by_] w fun e w'=>e=.returned (.slice (some ⟨w.heap.size,0,none⟩) l.length l.length)/\Below w.heap.size w w'/\Blk w' w.heap.size 3 (icells (l.map (· +by_))):=by
 have hmk:=fun W=>zb0 l.length (by omega) W
 obtain⟨w1,hw1⟩:=ex (w.alloc (.cells (icells (List.replicate l.length 0)) 3))
 have l1:Below w.heap.size w w1:=by rw[<-hw1];exact(Below.refl _ _).alloc (Nat.le_refl _) _
 have b1:Blk w1 w.heap.size 3 (icells (List.replicate l.length 0)):=by rw[<-hw1];exact Blk.new _ _ _
 obtain⟨w2,hcp,hk2,hb2⟩:=zrr w1 B w.heap.size l.length c A l 3 rfl b1 (h.below (l1.mono hB));have HK2:Hid (Below w.heap.size w w2/\Blk w2 w.heap.size 3 (icells l)):=Lib.hid ⟨l1.trans (hk2.below (Nat.le_refl _)),hb2⟩;clear l1 b1 hk2 hb2 h;go_enter func83,ntmps83;go_upto_region 2 with fail;(try rw[hw1]);clear hw1;go_upto_region 3 with fail;obtain⟨g,hg⟩:=ex w.heap.size
 have HG:=Lib.hid hg;rw[hg]at HK2;(try rw[hg]);clear hcp hg;go_upto_region 4 with fail;go_loopw [15] (fun s15 wr=>∃i:Nat,i<=l.length/\s15=.int .i64 i/\Hid (Below g w wr/\Blk wr g 3 (icells ((l.take i).map (· +by_)++l.drop i)))) (fun s15 _=>l.length-(intOf s15).toNat)
 case atStart=>exact⟨0,by omega,rfl,Lib.hid ⟨HK2.out.1,by simpa using HK2.out.2⟩⟩
 case round=>
  obtain⟨i,hi,rfl,HW⟩:=hrel;by_cases hlt:i<l.length
  ·have hltI:(i:Int)<(l.length:Int):=by omega
   obtain⟨x,hxe⟩:=ex (l[i])
   have hxb:x<=1152921504606846976:=by rw[<-hxe];exact hx _ (List.getElem_mem hlt)
   have hgd:((l.take i).map (· +by_)++l.drop i).getD i 0=x:=by
    rw[List.getD_eq_getElem?_getD,List.getElem?_append_right (by simp;omega)];simp[Nat.min_eq_left hi,List.getElem?_eq_getElem hlt,hxe]
   have z0:wr.cell? ⟨g,i,none⟩=some (.int .i64 (x:Int)):=by
    rw[HW.out.2.cell,zad (by simp;omega),hgd]
   have zf:∀j,wr.frozen? ⟨g,j,none⟩=false:=HW.out.2.frozen;have HNX:Hid (Below g w (wr.setCell ⟨g,i,none⟩ (.int .i64 ((x:Int)+(by_:Int))))/\Blk (wr.setCell ⟨g,i,none⟩ (.int .i64 ((x:Int)+(by_:Int)))) g 3 (icells ((l.take (i+1)).map (· +by_)++l.drop (i+1)))):=Lib.hid ⟨HW.out.1.setCell (by simp) _,by
    have h1:=HW.out.2.set_ i (.int .i64 ((x+by_:Nat):Int));rw[zau]at h1;rw[show(x:Int)+(by_:Int)=((x+by_:Nat):Int)from by omega];have e:=zrs l (· +by_) i hlt;rw[hxe]at e;rw[e]at h1;exact h1⟩
   clear hgd hxe;go_wp2;go_roundw
   case rel=>exact⟨i+1,by omega,by go_num,HNX⟩
   case measure=>simp[intOf];omega
  ·have hltI:¬(i:Int)<(l.length:Int):=by omega
   have HE:Hid (Below g w wr/\Blk wr g 3 (icells (l.map (· +by_)))):=Lib.hid (by
    have:=HW.out;rw[show i=l.length from by omega,List.take_length,List.drop_length,List.append_nil]at this;exact this)
   go_wp2;go_ret;rw[HG.out];exact⟨rfl,HE.out⟩
def KeptT (t:TypeId) (w w':World):Prop:=∀g cs,Blk w g t cs->Blk w' g t cs
theorem KeptT.refl (t:TypeId) (w:World):KeptT t w w:=fun _ _ h=>h
theorem KeptT.trans {t:TypeId} {a b c:World} (h:KeptT t a b) (k:KeptT t b c):KeptT t a c:=fun g cs x=>k g cs (h g cs x)
theorem KeptT.later {t:TypeId} {w w':World} (h:Below w.heap.size w w'):KeptT t w w':=fun _ _ x=>x.below h x.lt
theorem KeptT.alloc (t:TypeId) (w:World) (o:Obj):KeptT t w (w.alloc o):=fun _ _ x=>x.alloc o
theorem KeptT.drewN (t:TypeId) (w:World) (n:Nat):KeptT t w (w.drewN n):=fun _ _ x=>x
theorem KeptT.drew (t:TypeId) (w:World):KeptT t w w.drew:=fun _ _ x=>x
theorem KeptT.setCell {t t':TypeId} {w:World} {p:Addr} {cs:Array Value} (h:Blk w p.block t' cs) (hne:t≠t') (u:Value):KeptT t w (w.setCell p u):=
 fun _ _ x=>x.far (fun e=>by subst e;exact Blk.ne_ x h hne rfl) u
theorem KeptT.grown {t t':TypeId} {w w':World} {v:Value} {base:Nat} {size n:Nat} {xs:List Value} (hg:w.grownBy w' v.ownBlock) (h:w.ownsRow base t' size v n xs) (hne:t'≠t):KeptT t w w':=
 fun _ _ x=>x.grown hg (fun e=>zbx h x hne e.symm)
section
variable {α:Type} {L:Lay α} {w w':World} {B base:Nat} {E:TypeId} {v:Value} {l:List α}
theorem OwnRow.kept (h:OwnRow L w base E v l) (hk:KeptT E w w'):OwnRow L w' base E v l:=by
 refine⟨h.1,?_⟩;rcases h.2 with hn|⟨g,cap,cur,rfl,hbg,hgg,rest⟩
 ·exact .inl hn
 ·exact .inr ⟨g,cap,cur,rfl,hbg,hk g cur hgg,rest⟩
theorem OwnRow.drew (h:OwnRow L w base E v l):OwnRow L w.drew base E v l:=h
theorem OwnRow.blk (h:OwnRow L w base E v l) (g:Nat) (hg:v.ownBlock=some g):∃cs,Blk w g E cs:=by
 rcases h.2 with⟨rfl,_⟩|⟨g',cap,cur,rfl,hbg,hgg,rest⟩
 ·cases hg
 ·simp[Value.ownBlock]at hg;subst hg;exact⟨cur,hgg⟩
theorem OwnRow.grown_other (h:OwnRow L w base E v l) {row:Option Nat} (hg:w.grownBy w' row) (hne:∀g,v.ownBlock=some g->row≠some g):OwnRow L w' base E v l:=by
 refine⟨h.1,?_⟩;rcases h.2 with hn|⟨g,cap,cur,rfl,hbg,hgg,rest⟩
 ·exact .inl hn
 ·refine .inr ⟨g,cap,cur,rfl,hbg,?_,rest⟩;rw[hg.block g (Blk.lt (t:=E) (cs:=cur) hgg) (fun e=>hne g (by simp[Value.ownBlock]) e.symm)];exact hgg
theorem OwnRow.row (h:OwnRow L w base E v l) (hl:l≠[]):
 ∃g cap rest,v=.slice (some ⟨g,0,none⟩) l.length cap/\l.length<=cap/\Blk w g E (L.all l++rest).toArray/\base<=g/\(∀w' l',l'.length=l.length->Blk w' g E (L.all l'++rest).toArray->OwnRow L w' base E v l'):=by
 rcases h.2 with⟨_,hn⟩|⟨g,cap,cur,hv,hbg,hh,hc,hm,hcs,htk⟩
 ·grind
 ·have hcl:=L.all_len l;have hsplit:cur=(L.all l++cur.toList.drop (l.length*L.sz)).toArray:=by
   grind
  have hle:l.length*L.sz<=cap*L.sz:=Nat.mul_le_mul_right _ hc;refine⟨g,cap,cur.toList.drop (l.length*L.sz),hv,hc,?_,hbg,fun w' l' hl' hS=>?_⟩
  ·unfold Blk;rw[<-hsplit];exact hh
  ·have hcl':=L.all_len l';refine⟨hcl',.inr ⟨g,cap,_,by rw[hl'];exact hv,hbg,hS,by omega,hm,?_,?_⟩⟩
   ·simp only[List.size_toArray,List.length_append,List.length_drop,Array.length_toList];rw[hl']at hcl';omega
   ·simp only;rw[List.take_append_of_le_length (by omega),List.take_of_length_le (by omega)]
end
theorem zt0 {α:Type} (L:Lay α) (l:List α) (k j:Nat) (x:α) (u:Value) (hk:k<l.length) (hj:j<L.sz) (he:L.enc x=(L.enc l[k]).set j u):L.all (l.set k x)=(L.all l).set (k*L.sz+j) u:=by
 induction l generalizing k with
 |nil=>simp at hk
 |cons y l ih=>
  cases k with
  |zero=>
   have e1:L.all (x::l)=L.enc x++L.all l:=rfl;have e2:L.all (y::l)=L.enc y++L.all l:=rfl;simp only[List.getElem_cons_zero]at he;simp only[List.set_cons_zero,Nat.zero_mul,Nat.zero_add];rw[e1,e2,he,List.set_append_left _ _ (by rw[L.len];exact hj)]
  |succ k=>
   have e1:L.all (y::l.set k x)=L.enc y++L.all (l.set k x):=rfl;have e2:L.all (y::l)=L.enc y++L.all l:=rfl;rw[List.set_cons_succ,e1,e2,ih k (by simpa using hk) (by simpa using he)];rw[List.set_append_right _ _ (by rw[L.len,Nat.add_mul];omega),L.len];rw[show(k+1)*L.sz+j-L.sz=k*L.sz+j from by rw[Nat.add_mul];omega]
theorem zt1 {α:Type} (L:Lay α) {w:World} {g:Nat} {E:TypeId} {l:List α} {rest:List Value} (h:Blk w g E (L.all l++rest).toArray) (k j:Nat) (x:α) (u:Value) (hk:k<l.length) (hj:j<L.sz) (he:L.enc x=(L.enc l[k]).set j u):
 Blk (w.setCell ⟨g,k*L.sz+j,none⟩ u) g E (L.all (l.set k x)++rest).toArray:=by
 have hl:=L.all_len l;have h2:k*L.sz+L.sz<=l.length*L.sz:=by
  have:(k+1)*L.sz<=l.length*L.sz:=Nat.mul_le_mul_right _ hk;rw[Nat.add_mul]at this;omega
 have h5:=h.set_ (k*L.sz+j) u;have e:(L.all l++rest).toArray.setIfInBounds (k*L.sz+j) u=(L.all (l.set k x)++rest).toArray:=by
  apply Array.ext';rw[Array.toList_setIfInBounds,zt0 L l k j x u hk hj he];exact List.set_append_left _ _ (by omega)
 rw[e]at h5;exact h5
theorem znt {w:World} {g:Nat} {l:List NV} {rest:List Value} (h:Blk w g 35 (nodeL.all l++rest).toArray) (k:Nat) (hk:k<l.length) (i:SV):
 Blk (w.setCell ⟨g,k*5+4,none⟩ i.v) g 35 (nodeL.all (l.set k {l[k]with i:=i})++rest).toArray:=
 zt1 nodeL h k 4 {l[k]with i:=i} i.v hk (by decide) rfl
def ints (vs:List NV) (j:Nat) (b:Bool):SV:=match vs[j]? with
 |some x=>if b then x.i else x.k
 |none=>SV.nil
def intsOf (ns:List Gr.Nd) (j:Nat) (b:Bool):List Nat:=match ns[j]? with
 |some m=>if b then m.items else m.keys
 |none=>[]
structure Rows (B:Nat) (w:World) (vs:List NV) (ns:List Gr.Nd):Prop where
 len:vs.length=ns.length
 kind:∀j (h:j<vs.length) (h2:j<ns.length),vs[j].kind=ns[j].kind/\vs[j].text=ns[j].text/\vs[j].ord=ns[j].ord
 own:∀j b,OwnRow intL w B 3 (ints vs j b).v (intsOf ns j b)
 apart:∀j b j' b' g,(ints vs j b).v.ownBlock=some g->(ints vs j' b').v.ownBlock=some g->j=j'/\b=b'
theorem Rows.kept {B:Nat} {w w':World} {vs:List NV} {ns:List Gr.Nd} (h:Rows B w vs ns) (hk:KeptT 3 w w'):Rows B w' vs ns:=
 ⟨h.len,h.kind,fun j b=>(h.own j b).kept hk,h.apart⟩
theorem zja (vs:List NV) (x:NV) (j:Nat) (b:Bool):ints (vs++[x]) j b=if j=vs.length then(if b then x.i else x.k)else ints vs j b:=by
 unfold ints;by_cases hj:j<vs.length
 ·grind
 ·grind
theorem zkj (ns:List Gr.Nd) (x:Gr.Nd) (j:Nat) (b:Bool):intsOf (ns++[x]) j b=if j=ns.length then(if b then x.items else x.keys)else intsOf ns j b:=by
 unfold intsOf;by_cases hj:j<ns.length
 ·grind
 ·grind
theorem Rows.snoc {B:Nat} {w:World} {vs:List NV} {ns:List Gr.Nd} (h:Rows B w vs ns) (x:NV) (m:Gr.Nd) (hx:x.kind=m.kind/\x.text=m.text/\x.ord=m.ord) (ok:OwnRow intL w B 3 x.k.v m.keys) (oi:OwnRow intL w B 3 x.i.v m.items)
 (hki:∀g,x.k.v.ownBlock=some g->x.i.v.ownBlock=some g->False) (hold:∀j b g,(ints vs j b).v.ownBlock=some g->x.k.v.ownBlock≠some g/\x.i.v.ownBlock≠some g):Rows B w (vs++[x]) (ns++[m]):=by
 have hlen:=h.len;refine⟨by simp[hlen],?_,?_,?_⟩
 ·intro j h1 h2;by_cases hj:j<vs.length
  ·rw[List.getElem_append_left hj,List.getElem_append_left (by omega)];exact h.kind j hj (by omega)
  ·grind
 ·intro j b;rw[zja,zkj,<-hlen];by_cases hj:j=vs.length
  ·grind
  ·rw[if_neg hj,if_neg hj];exact h.own j b
 ·intro j b j' b' g h1 h2;rw[zja]at h1 h2;by_cases hj:j=vs.length
  ·grind
  ·rw[if_neg hj]at h1;by_cases hj':j'=vs.length
   ·grind
   ·rw[if_neg hj']at h2;exact h.apart j b j' b' g h1 h2
theorem Rows.grow {B:Nat} {w w':World} {vs:List NV} {ns:List Gr.Nd} (h:Rows B w vs ns) (j:Nat) (b:Bool) (x:NV) (m:Gr.Nd) (hj:j<vs.length)
 (hx:x.kind=vs[j].kind/\x.text=vs[j].text/\x.ord=vs[j].ord) (hm:m.kind=(ns[j]'(by rw[<-h.len];exact hj)).kind/\m.text=(ns[j]'(by rw[<-h.len];exact hj)).text/\m.ord=(ns[j]'(by rw[<-h.len];exact hj)).ord)
 (hb:(if b then x.k else x.i)=ints vs j (!b)) (hbm:(if b then m.keys else m.items)=intsOf ns j (!b))
 (hown:OwnRow intL w' B 3 (if b then x.i else x.k).v (if b then m.items else m.keys)) (hg:w.grownBy w' (ints vs j b).v.ownBlock)
 (hat:(if b then x.i else x.k).v.ownBlock=(ints vs j b).v.ownBlock\/(if b then x.i else x.k).v.ownBlock=some w.heap.size):Rows B w' (vs.set j x) (ns.set j m):=by
 have hlen:=h.len;have hjn:j<ns.length:=by omega
 have e1:∀j' b',ints (vs.set j x) j' b'=if j'=j then(if b' then x.i else x.k)else ints vs j' b':=by
  intro j' b';unfold ints;by_cases he:j'=j
  ·grind
  ·grind
 have e2:∀j' b',intsOf (ns.set j m) j' b'=if j'=j then(if b' then m.items else m.keys)else intsOf ns j' b':=by
  intro j' b';unfold intsOf;by_cases he:j'=j
  ·grind
  ·grind
 have e3:∀j' b',¬(j'=j/\b'=b)->ints (vs.set j x) j' b'=ints vs j' b'/\intsOf (ns.set j m) j' b'=intsOf ns j' b':=by
  grind
 refine⟨by simp[hlen],?_,?_,?_⟩
 ·intro j' h1 h2;by_cases he:j=j'
  ·subst he;rw[List.getElem_set_self,List.getElem_set_self];have:=h.kind j hj hjn;exact⟨by rw[hx.1,hm.1,this.1],by rw[hx.2.1,hm.2.1,this.2.1],by rw[hx.2.2,hm.2.2,this.2.2]⟩
  ·rw[List.getElem_set_ne he,List.getElem_set_ne he];exact h.kind j' (by simpa using h1) (by simpa using h2)
 ·intro j' b';by_cases hc:j'=j/\b'=b
  ·grind
  ·rw[(e3 j' b' hc).1,(e3 j' b' hc).2];exact(h.own j' b').grown_other hg (fun g hg1 hg2=>hc (h.apart j' b' j b g hg1 hg2))
 ·have hnew:∀j' b' g,¬(j'=j/\b'=b)->(ints vs j' b').v.ownBlock=some g->(if b then x.i else x.k).v.ownBlock=some g->False:=by
   intro j' b' g hc h1 h2;rcases hat with h3|h3
   ·rw[h3]at h2;exact hc (h.apart j' b' j b g h1 h2)
   ·rw[h3]at h2;injection h2 with h2
    have:=(h.own j' b').lt g h1;omega
  intro j1 b1 j2 b2 g h1 h2;by_cases hc1:j1=j/\b1=b
  ·grind
  ·rw[(e3 j1 b1 hc1).1]at h1;by_cases hc2:j2=j/\b2=b
   ·grind
   ·rw[(e3 j2 b2 hc2).1]at h2;exact h.apart j1 b1 j2 b2 g h1 h2
theorem Rows.later {B:Nat} {w w':World} {vs:List NV} {ns:List Gr.Nd} (h:Rows B w vs ns) (hb:Below w.heap.size w w'):Rows B w' vs ns:=h.kept (KeptT.later hb)
theorem Rows.nil (B:Nat) (w:World):Rows B w [] []:=
 ⟨rfl,fun j h=>by simp at h,fun j b=>by simp[ints,intsOf,SV.nil,SV.v];exact OwnRow.nil,fun j b j' b' g h=>by simp[ints,SV.nil,SV.v,Value.ownBlock]at h⟩
structure Tab (B:Nat) (w:World) (v:Value) (vs:List NV) (ns:List Gr.Nd):Prop where
 row:OwnRow nodeL w B 35 v vs
 rows:Rows B w vs ns
theorem Tab.later {B:Nat} {w w':World} {v:Value} {vs:List NV} {ns:List Gr.Nd} (h:Tab B w v vs ns) (hb:Below w.heap.size w w'):Tab B w' v vs ns:=⟨h.row.later hb,h.rows.later hb⟩
theorem SV.row {w:World} {B:Nat} {x:SV} {l:List Nat} (h:OwnRow intL w B 3 x.v l):RowAt intL w w.heap.size x.a l/\x.n=l.length:=by
 obtain⟨A,c,hv,hr⟩:=h.form;unfold SV.v at hv;injection hv with e1 e2 e3
 subst e1;exact⟨hr,e2⟩
theorem Tab.at_ {B:Nat} {w:World} {v:Value} {vs:List NV} {ns:List Gr.Nd} (h:Tab B w v vs ns):∃A c,v=.slice A ns.length c/\GAt w w.heap.size A vs ns:=by
 obtain⟨A,c,hv,hr⟩:=h.row.form;refine⟨A,c,by rw[hv,h.rows.len],hr,h.rows.len,h.rows.kind,fun j h1 h2=>?_⟩;have ek:(ints vs j false)=vs[j].k:=by unfold ints;rw[List.getElem?_eq_getElem h1];rfl
 have ei:(ints vs j true)=vs[j].i:=by unfold ints;rw[List.getElem?_eq_getElem h1];rfl
 have fk:(intsOf ns j false)=ns[j].keys:=by unfold intsOf;rw[List.getElem?_eq_getElem h2];rfl
 have fi:(intsOf ns j true)=ns[j].items:=by unfold intsOf;rw[List.getElem?_eq_getElem h2];rfl
 have o1:=h.rows.own j false;have o2:=h.rows.own j true;rw[ek,fk]at o1;rw[ei,fi]at o2;exact⟨(SV.row o1).1,(SV.row o1).2,(SV.row o2).1,(SV.row o2).2⟩
namespace Gr
def dupS:List Str->Bool
 | []=>false
 |x::l=>l.any (fun y=>y==x) || dupS l
def rtwice (ns:List Nd) (f:Nat):Bool:=ns.any (fun x=>dupS (x.keys.map (printF ns f)))
theorem zdv (l:List Str):dupS l=false↔l.Nodup:=by
 induction l with
 |nil=>simp[dupS]
 |cons x l ih=>
  unfold dupS;rw[Bool.or_eq_false_iff,ih,List.nodup_cons];constructor
  ·grind
  ·grind
theorem zey {α:Type} [DecidableEq α]:∀(l m:List α),l.Nodup->(∀x∈l,x∈m)->m.length<=l.length->l.Perm m:=by
 intro l
 induction l with
 |nil=>intro m _ _ hl;cases m with
  |nil=>exact .refl _
  |cons=>simp at hl
 |cons a l ih=>
  intro m hn hs hl;rw[List.nodup_cons]at hn;have ha:=hs a (.head _);have hp:=List.perm_cons_erase ha;have hlen:=hp.length_eq;rw[List.length_cons]at hlen;refine((ih (m.erase a) hn.2 (fun x hx=>?_) (by rw[List.length_cons]at hl;omega)).cons a).trans hp.symm;have hxm:=hs x (.tail _ hx);exact(List.mem_erase_of_ne (fun e=>hn.1 (by rw[<-e];exact hx))).2 hxm
section
variable {ns:List Nd}
theorem zf3 (hok:NodesOk ns) (hr:Refs ns):∀(f g i:Nat),TOk ns f i->TOk ns g i->printF ns f i=printF ns g i:=by
 intro f
 induction f with
 |zero=>intro g i hi;exact absurd hi.tall id
 |succ f ih=>
  intro g i hi hg;cases g with
  |zero=>exact absurd hg.tall id
  |succ g=>
   rw[zai (List.getElem?_eq_getElem hi.lt),zai (List.getElem?_eq_getElem hi.lt)];have he:ents ns f (ns[i]'hi.lt)=ents ns g (ns[i]'hi.lt):=by
    have s1:succ ns i=(ns[i]'hi.lt).keys++(ns[i]'hi.lt).items:=by unfold succ;rw[List.getElem?_eq_getElem hi.lt]
    have k1:=hok _ (List.getElem_mem hi.lt);have ok:∀x∈succ ns i,printF ns f x=printF ns g x:=fun x hx=>ih g x ⟨hr.succ i x hx,hi.tall x hx⟩ ⟨hr.succ i x hx,hg.tall x hx⟩
    rw[s1]at ok;generalize ns[i]'hi.lt=x at *;unfold ents;apply List.map_congr_left;intro k hk;have hkl:=List.mem_range.1 hk;have e2:=ok (x.items.getD k 0) (List.mem_append_right _ (by rw[List.getD_eq_getElem?_getD,List.getElem?_eq_getElem hkl];exact List.getElem_mem hkl));by_cases h10:x.kind=10
    ·grind
    ·rw[if_neg h10,if_neg h10,e2]
   unfold entS;rw[he]
theorem za3 {l:List Nat} {k:Nat} (h:k<l.length):l.getD k 0=l[k]:=by rw[List.getD_eq_getElem?_getD,List.getElem?_eq_getElem h];rfl
theorem zgx (hok:NodesOk ns) (hr:Refs ns) (F:Nat) (hF:∀k∈allKeys ns,TOk ns F k) (hd:∀x∈ns,(x.keys.map (printF ns F)).Nodup):∀(f i j:Nat),TOk ns f i->TOk ns f j->sameF ns f i j=true->printF ns f i=printF ns f j:=by
 intro f
 induction f with
 |zero=>intro i j hi;exact absurd hi.tall id
 |succ f ih=>
  intro i j hi hj h;have ok2:∀x∈succ ns i,TOk ns f x:=fun x hx=>⟨hr.succ i x hx,hi.tall x hx⟩
  have ok3:∀x∈succ ns j,TOk ns f x:=fun x hx=>⟨hr.succ j x hx,hj.tall x hx⟩
  have s1:succ ns i=(ns[i]'hi.lt).keys++(ns[i]'hi.lt).items:=by unfold succ;rw[List.getElem?_eq_getElem hi.lt]
  have s2:succ ns j=(ns[j]'hj.lt).keys++(ns[j]'hj.lt).items:=by unfold succ;rw[List.getElem?_eq_getElem hj.lt]
  have k1:=hok _ (List.getElem_mem hi.lt);have k2:=hok _ (List.getElem_mem hj.lt);have dx:=hd _ (List.getElem_mem hi.lt);have kx:∀k∈(ns[i]'hi.lt).keys,printF ns F k=printF ns f k:=fun k hk=>by
   refine zf3 hok hr F f k (hF k (List.mem_flatMap.2 ⟨_,List.getElem_mem hi.lt,hk⟩)) (ok2 k ?_);rw[s1];exact List.mem_append_left _ hk
  rw[s1]at ok2;rw[s2]at ok3;unfold sameF at h;rw[List.getElem?_eq_getElem hi.lt,List.getElem?_eq_getElem hj.lt]at h;rw[zai (List.getElem?_eq_getElem hi.lt),zai (List.getElem?_eq_getElem hj.lt)];generalize ns[i]'hi.lt=x at *;generalize ns[j]'hj.lt=y at *;simp only at h;split at h
  ·cases h
  ·rename_i hne;have a:x.kind=y.kind:=Decidable.by_contra fun e=>hne (.inl e)
   have b:x.text=y.text:=Decidable.by_contra fun e=>hne (.inr (.inl e))
   have c:x.ord=y.ord:=Decidable.by_contra fun e=>hne (.inr (.inr (.inl e)))
   have d:x.items.length=y.items.length:=Decidable.by_contra fun e=>hne (.inr (.inr (.inr e)))
   have he:entS ns f x=entS ns f y:=by
    unfold entS;split at h
    ·rename_i hm;rw[if_pos hm,if_pos ⟨a▸hm.1,c▸hm.2⟩];apply zsb;have lx:=k1.2.2 hm.1;have ly:=k2.2.2 (a▸hm.1);refine zey _ _ ?_ ?_ (by simp[ents,d])
     ·unfold ents;simp only[if_pos hm.1];unfold List.Nodup;rw[List.pairwise_map];have hnd:=dx;unfold List.Nodup at hnd;rw[List.pairwise_map,List.pairwise_iff_getElem]at hnd;rw[List.pairwise_iff_getElem];intro p q hp hq hpq he;have hpl:p<x.items.length:=by simpa using hp
      have hql:q<x.items.length:=by simpa using hq
      rw[List.getElem_range,List.getElem_range]at he;have op:TOk ns f (x.keys.getD p 0):=ok2 _ (List.mem_append_left _ (by rw[za3 (by omega)];exact List.getElem_mem _));have oq:TOk ns f (x.keys.getD q 0):=ok2 _ (List.mem_append_left _ (by rw[za3 (by omega)];exact List.getElem_mem _));have op2:TOk ns f (x.items.getD p 0):=ok2 _ (List.mem_append_right _ (by rw[za3 (by omega)];exact List.getElem_mem _));have oq2:TOk ns f (x.items.getD q 0):=ok2 _ (List.mem_append_right _ (by rw[za3 (by omega)];exact List.getElem_mem _));obtain⟨e1,_⟩:=zc6 hok hr f _ f _ _ _ op oq (by simpa using(za0 hok op2 []).1) (by simpa using(za0 hok oq2 []).1) he;rw[za3 (by omega),za3 (by omega)]at e1;have hne2:=hnd p q (by omega) (by omega) hpq;apply hne2;rw[kx _ (List.getElem_mem _),kx _ (List.getElem_mem _)];exact e1
     ·intro e hme;unfold ents at hme ⊢;obtain⟨k,hk,rfl⟩:=List.mem_map.1 hme;have hkl:=List.mem_range.1 hk;rw[List.all_eq_true]at h;have h1:=h (x.keys[k],x.items[k]) (List.mem_iff_getElem.2 ⟨k,by rw[List.length_zip];omega,by rw[List.getElem_zip]⟩);rw[List.any_eq_true]at h1;obtain⟨⟨u,v⟩,hm2,h2⟩:=h1;obtain⟨l,hl,hl2⟩:=List.mem_iff_getElem.1 hm2;rw[List.length_zip]at hl;rw[List.getElem_zip]at hl2;injection hl2 with hu hv
      rw[Bool.and_eq_true]at h2;simp only at h2;have e1:=ih _ _ (ok2 _ (List.mem_append_left _ (List.getElem_mem _))) (ok3 u (List.mem_append_left _ (by rw[<-hu];exact List.getElem_mem _))) h2.1;have e2:=ih _ _ (ok2 _ (List.mem_append_right _ (List.getElem_mem _))) (ok3 v (List.mem_append_right _ (by rw[<-hv];exact List.getElem_mem _))) h2.2;refine List.mem_map.2 ⟨l,List.mem_range.2 (by omega),?_⟩;rw[if_pos hm.1,if_pos (a▸hm.1),za3 (by omega),za3 (by omega),za3 (by omega),za3 (by omega),hu,hv,e1,e2]
    ·rename_i hm;rw[if_neg hm,if_neg (by rw[<-a,<-c];exact hm)];unfold ents;rw[<-d];apply List.map_congr_left;intro k hk;have hkl:=List.mem_range.1 hk;rw[List.all_eq_true]at h;have h1:=h k hk;rw[Bool.and_eq_true,Bool.or_eq_true]at h1;have e2:=ih _ _ (ok2 _ (List.mem_append_right _ (by rw[za3 hkl];exact List.getElem_mem _))) (ok3 _ (List.mem_append_right _ (by rw[za3 (d▸hkl)];exact List.getElem_mem _))) h1.2;by_cases h10:x.kind=10
     ·grind
     ·grind
   rw[a,b,c,d,he]
theorem zgy (hok:NodesOk ns) (hr:Refs ns) (F:Nat):∀L:List Nat,(∀k∈L,TOk ns F k)->dupS (L.map (printF ns F))=true->twice1 ns F L=true:=by
 intro L
 induction L with
 |nil=>intro _ h;cases h
 |cons x l ih=>
  intro hL h;rw[List.map_cons]at h;unfold dupS at h;unfold twice1;rw[Bool.or_eq_true]at h ⊢;rcases h with h|h
  ·left;rw[List.any_eq_true]at h ⊢;obtain⟨s,hs,he⟩:=h;obtain⟨y,hy,rfl⟩:=List.mem_map.1 hs;exact⟨y,hy,zgw hok hr F y x (hL y (.tail _ hy)) (hL x (.head _)) (by simpa using he)⟩
  ·grind
theorem zor (F:Nat):∀L:List Nat,(∀a∈L,∀b∈L,sameF ns F a b=true->printF ns F a=printF ns F b)->dupS (L.map (printF ns F))=false->twice1 ns F L=false:=by
 intro L
 induction L with
 |nil=>intro _ _;rfl
 |cons x l ih=>
  intro hs h;rw[List.map_cons]at h;unfold dupS at h;unfold twice1;rw[Bool.or_eq_false_iff]at h ⊢;refine⟨?_,ih (fun a ha b hb=>hs a (.tail _ ha) b (.tail _ hb)) h.2⟩;rw[List.any_eq_false];intro y hy hc;have he:=hs y (.tail _ hy) x (.head _) hc;have h1:=h.1;rw[List.any_eq_false]at h1;exact h1 _ (List.mem_map.2 ⟨y,hy,rfl⟩) (by simp[he])
theorem zem (hok:NodesOk ns) (hr:Refs ns) (F:Nat) (hF:∀k∈allKeys ns,TOk ns F k):twice ns F=rtwice ns F:=by
 have hk:∀x∈ns,∀k∈x.keys,TOk ns F k:=fun x hx k hk=>hF k (List.mem_flatMap.2 ⟨x,hx,hk⟩)
 cases h:rtwice ns F with
 |true=>
  unfold rtwice at h;obtain⟨x,hx,hd⟩:=List.any_eq_true.1 h;unfold twice;exact List.any_eq_true.2 ⟨x,hx,zgy hok hr F _ (hk x hx) hd⟩
 |false=>
  unfold rtwice at h;have hnd:∀x∈ns,dupS (x.keys.map (printF ns F))=false:=fun x hx=>by simpa using List.any_eq_false.1 h x hx
  unfold twice;rw[List.any_eq_false];intro x hx;rw[Bool.not_eq_true];exact zor F _ (fun a ha b hb hs=>zgx hok hr F hF (fun z hz=>(zdv _).1 (hnd z hz)) F a b (hk x hx a ha) (hk x hx b hb) hs) (hnd x hx)
end
end Gr
namespace Gr
def rform (sclr:Int->Str->Bool) (n:Nat) (x:Ni):Bool:=
 if(x.items.all (inR n) && x.keys.all (inR n))=false then false
 else if x.kind≠10/\(x.ord=true\/0<x.keys.length)then false
 else if x.kind=9 then x.text.isEmpty
 else if x.kind=10 then x.text.isEmpty && decide (x.keys.length=x.items.length)
 else if x.kind=11 then decide (x.items.length=1) && nameB x.text
 else decide (x.items.length=0) && sclr x.kind x.text
def rnode (ns:List Nd) (root i:Nat):Bool:=mkd (marks ns root) i && !(mkd (inKeys ns) i && (counts ns root).getD i 0 != 1)
def rwell (sclr:Int->Str->Bool) (is:List Ni) (root:Int):Bool:=
 if is.length=0\/inR is.length root=false then false
 else if is.all (rform sclr is.length)=false then false
 else(List.range is.length).all (rnode (is.map Ni.nd) root.toNat)
def rcheck (sclr:Int->Str->Bool) (is:List Ni) (root:Int):Nat:=
 if is.length>4096 then 7 else if rwell sclr is root=false then 3 else if rtwice (is.map Ni.nd) is.length=true then 8 else if(depth (is.map Ni.nd) root.toNat).1>32 then 5 else 0
theorem zjp {α:Type} (l:List α):l.isEmpty=decide (l.length=0):=by cases l<;>rfl
theorem zg6 (sclr:Int->Str->Bool) (n:Nat) (x:Ni) (h:rng n x=true):rform sclr n x=formB sclr x.nd:=by
 have h1:(x.items.all (inR n) && x.keys.all (inR n))=true:=by
  unfold rng at h;rw[List.all_append,Bool.and_eq_true]at h;rw[h.1,h.2];rfl
 obtain⟨kind,text,ord,keys,items⟩:=x;unfold rform formB Ni.nd;simp only at h1 ⊢;rw[h1,if_neg (by decide)];simp only[zjp,List.length_map];by_cases h9:kind=9
 ·grind
 ·rw[if_neg h9,if_neg h9];by_cases h10:kind=10
  ·grind
  ·rw[if_neg h10,if_neg h10];have e:(kind≠10/\(ord=true\/0<keys.length))↔((!ord && decide (keys.length=0))=false):=by
    grind
   by_cases h11:kind=11
   ·grind
   ·grind
theorem zfb {sclr:Int->Str->Bool} {n:Nat} {x:Ni} (h:rform sclr n x=true):rng n x=true:=by
 unfold rform at h;split at h
 ·cases h
 ·rename_i hc;rw[Bool.not_eq_false,Bool.and_eq_true]at hc;unfold rng;rw[List.all_append,hc.1,hc.2];rfl
theorem zmm {α β:Type} (f:α->β) (p:β->Bool) (l:List α):(l.map f).all p=l.all (fun x=>p (f x)):=by
 grind
theorem zij {sclr:Int->Str->Bool} (hs:∀k t,sclr k t=true->0<=k/\k<=8) {x:Nd} (h:formB sclr x=true):0<=x.kind/\x.kind<=11/\(x.kind=10->x.keys.length=x.items.length):=by
 unfold formB at h;split at h
 ·omega
 ·grind
theorem zo5 (ns:List Nd):∀f i,Tall ns f i->Tall' ns f i:=by
 intro f
 induction f with
 |zero=>intro i h;exact h
 |succ f ih=>intro i h x hx;exact ih x (h x hx)
theorem zfx (ns:List Nd) (p:Nat->Bool) (q:Nd->Bool):(List.range ns.length).all (fun i=>p i && q (ns.getD i ⟨0,[],false,[],[]⟩))=(ns.all q && (List.range ns.length).all p):=by
 rw[Bool.eq_iff_iff,Bool.and_eq_true,List.all_eq_true,List.all_eq_true,List.all_eq_true];constructor
 ·intro h;refine⟨fun x hx=>?_,fun i hi=>?_⟩
  ·obtain⟨i,hi,rfl⟩:=List.mem_iff_getElem.1 hx;have:=h i (List.mem_range.2 hi);rw[Bool.and_eq_true,List.getD_eq_getElem?_getD,List.getElem?_eq_getElem hi]at this;exact this.2
  ·grind
 ·grind
theorem zfc (sclr:Int->Str->Bool) (hs:∀k t,sclr k t=true->0<=k/\k<=8) (is:List Ni) (root:Int):rcheck sclr is root=checkI sclr is root:=by
 unfold rcheck checkI;by_cases h1:is.length>4096
 ·rw[if_pos h1,if_pos h1]
 ·rw[if_neg h1,if_neg h1];by_cases h2:is.length=0\/inR is.length root=false
  ·rw[if_pos (show rwell sclr is root=false by unfold rwell;rw[if_pos h2]),if_pos];rcases h2 with h2|h2
   ·exact .inl h2
   ·right;unfold indB;rw[h2];rfl
  ·have hroot:inR is.length root=true:=by
    grind
   by_cases h3:is.all (rng is.length)=true
   ·have hi:indB is root=true:=by unfold indB;rw[hroot,h3];rfl
    rw[if_neg (show¬(is.length=0\/indB is root=false) by rintro(h|h);exact h2 (.inl h);rw[hi]at h;cases h)];obtain⟨_,href⟩:=za8 h3;have hlen:(is.map Ni.nd).length=is.length:=by simp
    have hr0:root.toNat<(is.map Ni.nd).length:=by
     rw[hlen];unfold inR at hroot;rw[Bool.and_eq_true,decide_eq_true_eq,decide_eq_true_eq]at hroot;omega
    have hform:is.all (rform sclr is.length)=(is.map Ni.nd).all (formB sclr):=by
     rw[zmm,Bool.eq_iff_iff,List.all_eq_true,List.all_eq_true];constructor
     ·intro h x hx;rw[<-zg6 sclr is.length x (List.all_eq_true.1 h3 x hx)];exact h x hx
     ·intro h x hx;rw[zg6 sclr is.length x (List.all_eq_true.1 h3 x hx)];exact h x hx
    have hw:rwell sclr is root=((is.map Ni.nd).all (formB sclr) && (List.range is.length).all (rnode (is.map Ni.nd) root.toNat)):=by
     unfold rwell;rw[if_neg h2,hform];by_cases hf:(is.map Ni.nd).all (formB sclr)=false
     ·rw[if_pos hf,hf];rfl
     ·grind
    rw[hw];clear hw hform h2;generalize hns:is.map Ni.nd=ns at *;rw[<-hlen];unfold checkN;rw[zfx];have hsplit:(List.range ns.length).all (rnode ns root.toNat)=((List.range ns.length).all (fun i=>(marks ns root.toNat).getD i false) && !(List.range ns.length).any (fun i=>(inKeys ns).getD i false && (counts ns root.toNat).getD i 0 != 1)):=by
     rw[Bool.eq_iff_iff,Bool.and_eq_true,List.all_eq_true,List.all_eq_true,Bool.not_eq_true',List.any_eq_false];constructor
     ·intro h;refine⟨fun i hi=>?_,fun i hi=>?_⟩
      ·have:=h i hi;unfold rnode at this;rw[Bool.and_eq_true]at this;exact this.1
      ·have:=h i hi;unfold rnode at this;rw[Bool.and_eq_true,Bool.not_eq_true']at this;rw[Bool.not_eq_true];exact this.2
     ·rintro⟨a,b⟩ i hi;unfold rnode;rw[Bool.and_eq_true,Bool.not_eq_true',<-Bool.not_eq_true];exact⟨a i hi,b i hi⟩
    rw[hsplit];by_cases hf:ns.all (formB sclr)=true
    ·rw[hf,Bool.true_and,Bool.true_and];by_cases hm:(List.range ns.length).all (fun i=>(marks ns root.toNat).getD i false)=true
     ·rw[hm,Bool.true_and];by_cases hk:(List.range ns.length).any (fun i=>(inKeys ns).getD i false && (counts ns root.toNat).getD i 0 != 1)=true
      ·rw[hk];simp
      ·rw[Bool.not_eq_true]at hk;rw[hk];simp only[Bool.not_false,Bool.true_eq_false,if_false,Bool.false_eq_true,not_true];have hall:∀v,v<ns.length->Reach (succ ns) root.toNat v:=fun v hv=>(za2 href hr0 v).1 (List.all_eq_true.1 hm v (List.mem_range.2 hv))
       have hone:∀x,x<ns.length->mkd (inKeys ns) x=true->(counts ns root.toNat).getD x 0=1:=by
        intro x hx hin;have:=List.any_eq_false.1 hk x (List.mem_range.2 hx);unfold mkd at hin;rw[hin,Bool.true_and]at this;simpa using this
       have hok:NodesOk ns:=fun x hx=>zij hs (List.all_eq_true.1 hf x hx)
       have hT:∀k∈allKeys ns,TOk ns ns.length k:=fun k hk=>by
        obtain⟨a,b⟩:=ze8 href hr0 hall hone k hk;exact⟨a,zo5 ns _ _ b⟩
       rw[zem hok href ns.length hT]
     ·grind
    ·grind
   ·have hi:indB is root=false:=by
     rw[Bool.not_eq_true]at h3;unfold indB;rw[h3,Bool.and_false]
    rw[if_pos (show is.length=0\/indB is root=false from .inr hi),if_pos];unfold rwell;rw[if_neg h2,if_pos];rw[<-Bool.not_eq_true];intro h;apply h3;rw[List.all_eq_true]at h ⊢;exact fun x hx=>zfb (h x hx)
end Gr
open Gr
open Lib (hid)
theorem zsq (m:Nat) (hm:m<18446744073709551616) (i:Int) (hi:i=(m:Int)) (w:World):Calls prog 79 #[.int .u64 i] w fun e w'=>e=.returned (.int .i64 (Lib.bitLen m))/\w=w':=by
 subst hi;obtain⟨B,hB⟩:=ex (Lib.bitLen m)
 have HB:=hid hB;have hb64:B<=64:=by rw[<-hB];exact Lib.bitLen_le m 64 (by omega) (by omega)
 rw[hB];clear hB;go_enter func79,ntmps79;go_wp2_with fail;go_loop [0,3] (fun s0 s3=>∃x n:Nat,x<18446744073709551616/\n<=B/\s0=.int .u64 (x:Int)/\s3=.int .i64 (n:Int)/\Hid (B=n+Lib.bitLen x)) (fun s0 _=>(intOf s0).toNat)
 case atStart=>exact⟨m,0,hm,by omega,rfl,rfl,hid (by rw[<-HB.out];omega)⟩
 case round=>
  obtain⟨x,n,hx,hn,rfl,rfl,HV⟩:=hrel;by_cases h0:0<x
  ·have h0I:(0:Int)<(x:Int):=by omega
   have HN:Hid (B=(n+1)+Lib.bitLen (x /2)/\n+1<=B):=hid (by
    have h1:=HV.out;rw[Lib.bitLen_half x (by omega) (by omega)]at h1;omega)
   go_wp2;go_round
   case rel=>exact⟨x /2,n+1,by omega,HN.out.2,by go_num,by go_num,hid HN.out.1⟩
   case measure=>simp[intOf];omega
  ·obtain rfl:x=0:=by omega
   have HF:Hid (B=n):=hid (by have:=HV.out;rw[this];rfl);go_wp2;go_ret;rw[HF.out];exact⟨rfl,rfl⟩
def nodash (l:Gr.Str):Gr.Str:=l.filter (fun c=>c != 45)
theorem zgc (l:Gr.Str) (h:l.all Gr.dig=true):nodash l=l:=by
 unfold nodash;rw[List.filter_eq_self];intro c hc;have:=List.all_eq_true.1 h c hc;cases hh:(c != 45)with
 |true=>rfl
 |false=>
  have e:c=45:=by simpa using hh
  subst e;simp[Gr.dig]at this
theorem zgd {s:Gr.Str} (h:intB s=true):nodash s=intS s/\(intS s).all Gr.dig=true/\(∀c∈s,c=45\/Gr.dig c=true)/\0<s.length:=by
 unfold intB at h;split at h
 ·cases h
 ·rename_i hn;have hlen:0<s.length:=by
   rcases Nat.eq_zero_or_pos s.length with h0|h0
   ·exact absurd (.inl (by unfold intS;rw[if_neg (by omega)];exact h0)) hn
   ·exact h0
  refine⟨?_,h,?_,hlen⟩
  ·unfold intS at h ⊢;split
   ·rename_i hc;rw[if_pos hc]at h;cases s with
    |nil=>simp at hc
    |cons c r=>
     simp at hc;obtain⟨_,rfl⟩:=hc;show nodash (45::r)=r;have:nodash (45::r)=nodash r:=by unfold nodash;rw[List.filter_cons_of_neg (by decide)]
     rw[this];exact zgc r h
   ·rename_i hc;rw[if_neg hc]at h;exact zgc s h
  ·intro c hc;unfold intS at h;split at h
   ·rename_i h1;cases s with
    |nil=>cases hc
    |cons d r=>
     simp at h1;rcases List.mem_cons.1 hc with rfl|hc
     ·exact .inl h1.2
     ·exact .inr (List.all_eq_true.1 h c hc)
   ·exact .inr (List.all_eq_true.1 h c hc)
def NPost (o:Option Int) (w:World) (e:Ending) (w':World):Prop:=e=.returned (.tuple #[.int .i64 (o.getD 0),.bool o.isSome])/\w=w'
theorem zug (l:Gr.Str) (h:l.all Gr.dig=true) (hl:l.length<=18):Gr.val l<1000000000000000000:=Nat.lt_of_lt_of_le (zew l h) (Nat.pow_le_pow_right (n:=10) (by omega) hl)
theorem zjv (s:Gr.Str) (hs:∀c∈s,c=45\/Gr.dig c=true) (k:Nat):(nodash (s.take k)).all Gr.dig=true/\(nodash (s.take k)).length<=k:=by
 constructor
 ·rw[List.all_eq_true];intro c hc;obtain⟨h1,h2⟩:=List.mem_filter.1 hc;rcases hs c (List.mem_of_mem_take h1)with rfl|h
  ·cases h2
  ·exact h
 ·exact Nat.le_trans (List.length_filter_le _ _) (by simp;omega)
theorem zjw (s:Gr.Str) (k:Nat) (h:k<s.length):nodash (s.take (k+1))=nodash (s.take k)++(if s[k]=45 then[]else[s[k]]):=by
 unfold nodash;rw[List.take_succ_eq_append_getElem h,List.filter_append]
 congr 1
 by_cases e:s[k]=45
 ·rw[if_pos e,e];rfl
 ·rw[if_neg e];simp[e]
theorem zk9 (s:Gr.Str) (hl:s.length<=1073741823) (w:World):Calls prog 78 #[.string ⟨s.toArray⟩] w (NPost (numb s) w):=by
 have HV:=hid (fun W=>zgb s hl W);obtain⟨r,hr⟩:=ex (numb s)
 have HR:Hid ((if intB s=true/\s.length<=18 then some (if s.head?=some 45 then -(Gr.val (intS s):Int)else(Gr.val (intS s):Int))else none)=r):=hid hr;rw[hr];clear hr;cases hi:intB s with
 |false=>
  rw[hi]at HV;have HF:Hid (r=none):=hid (by rw[<-HR.out,if_neg (by rw[hi];simp)]);clear hi HR;go_enter func78,ntmps78;go_wp2_with fail;refine(HV.out _).mono ?_;rintro _ w1 ⟨rfl,rfl⟩;go_wp2;go_ret2;rw[HF.out];exact⟨rfl,rfl⟩
 |true=>
  rw[hi]at HV;by_cases h18:s.length<=18
  ·have h18I:¬(18:Int)<(s.length:Int):=by omega
   obtain⟨p1,p2,p3,p4⟩:=zgd hi;have HR1:Hid ((some (if s.head?=some 45 then -(Gr.val (nodash s):Int)else(Gr.val (nodash s):Int)))=r):=hid (by
    have h:=HR.out;rw[if_pos ⟨hi,h18⟩]at h;rw[p1];exact h)
   have HP:=hid p3;have h0I:(0:Int)<(s.length:Int):=by omega
   clear hi HR p1 p2 p3;go_enter func78,ntmps78;go_wp2_with fail;refine(HV.out _).mono ?_;rintro _ w1 ⟨rfl,rfl⟩;go_wp2_with fail;go_loop [4,5] (fun s4 s5=>∃k v:Nat,k<=s.length/\v<1000000000000000000/\s4=.int .i64 (v:Int)/\s5=.int .i64 (k:Int)/\Hid (v=Gr.val (nodash (s.take k)))) (fun _ s5=>s.length-(intOf s5).toNat)
   case atStart=>exact⟨0,0,by omega,by omega,rfl,rfl,hid rfl⟩
   case round=>
    obtain⟨k,v,hk,hv,rfl,rfl,HK⟩:=hrel;by_cases hlt:k<s.length
    ·have hltI:(k:Int)<(s.length:Int):=by omega
     have HN:=hid (zjw s k hlt);have HM:=hid (HP.out s[k] (List.getElem_mem hlt));have HT:=hid (zjv s HP.out (k+1));by_cases h45:s[k]=45
     ·have b1:=zav s k hlt _ 45 45 rfl rfl h45;have b2:=zap s k hlt _ 45 45 rfl rfl h45;have HX:=hid h45;clear h45;go_wp2;go_round
      case rel=>exact⟨k+1,v,by omega,hv,rfl,by go_num,hid (by rw[HN.out,if_pos HX.out,List.append_nil];exact HK.out)⟩
      case measure=>simp[intOf];omega
     ·have c1:=zan s k hlt _ 45 45 rfl rfl h45;have c2:=zaq s k hlt _ 45 45 rfl rfl h45;have hdg:Gr.dig s[k]=true:=HM.out.resolve_left h45;obtain⟨b,hb⟩:∃b:Nat,(s[k]'hlt).toNat=b:=⟨_,rfl⟩
      have hbv:(((⟨s.toArray⟩:ByteArray)[k]'(by simpa[ByteArray.size]using hlt)).toNat:Int)=(b:Int):=by rw[<-hb];rfl
      have hbd:=zk8 (s[k]'hlt) b hb;rw[hdg]at hbd;have hb48:48<=b/\b<=57:=by have:=hbd.symm;simpa using this
      have hdv:Gr.dv s[k]=b-48:=by unfold Gr.dv;rw[hb]
      have HNX:Hid (10*v+(b-48)=Gr.val (nodash (s.take (k+1)))):=hid (by
       rw[HN.out,if_neg h45,zbi,<-HK.out,hdv])
      have hvn:10*v+(b-48)<1000000000000000000:=by
       rw[HNX.out];exact zug _ HT.out.1 (by have:=HT.out.2;omega)
      rw[hbv]at c1 c2;obtain⟨hb1,hb2⟩:=hb48;clear hbd hdg hb hdv h45;go_wp2;go_round
      case rel=>exact⟨k+1,10*v+(b-48),by omega,hvn,by exact congrArg (Value.int .i64) (by omega),by go_num,hid HNX.out⟩
      case measure=>simp[intOf];omega
    ·obtain rfl:k=s.length:=by omega
     have HVL:Hid (v=Gr.val (nodash s)):=hid (by have:=HK.out;rwa[List.take_length]at this);have hh:s.head?=some (s[0]'p4):=by rw[List.head?_eq_getElem?,List.getElem?_eq_getElem p4]
     by_cases h45:s[0]'p4=45
     ·have b1:=zav s 0 p4 _ 45 45 rfl rfl h45;have b2:=zap s 0 p4 _ 45 45 rfl rfl h45;have HF:Hid (r=some (-(v:Int))):=hid (by rw[<-HR1.out,hh,h45,if_pos rfl,HVL.out]);clear h45 hh;go_wp2;go_ret2;rw[HF.out];exact⟨rfl,rfl⟩
     ·have b1:=zan s 0 p4 _ 45 45 rfl rfl h45;have b2:=zaq s 0 p4 _ 45 45 rfl rfl h45;have HF:Hid (r=some (v:Int)):=hid (by rw[<-HR1.out,hh,if_neg (by intro e;injection e with e;exact h45 e),HVL.out]);clear h45 hh;go_wp2;go_ret2;rw[HF.out];exact⟨rfl,rfl⟩
  ·have h18I:(18:Int)<(s.length:Int):=by omega
   have HF:Hid (r=none):=hid (by rw[<-HR.out,if_neg (by rintro⟨_,h⟩;exact h18 h)]);clear hi HR;go_enter func78,ntmps78;go_wp2_with fail;refine(HV.out _).mono ?_;rintro _ w1 ⟨rfl,rfl⟩;go_wp2;go_ret2;rw[HF.out];exact⟨rfl,rfl⟩
theorem za5 {w:World} {g:Nat} {t:TypeId} {c0 c1 c2 c3 v0 v1 v2 v3:Value} (h:Blk w g t #[c0,c1,c2,c3]):Blk ((((w.setCell ⟨g,0,none⟩ v0).setCell ⟨g,1,none⟩ v1).setCell ⟨g,2,none⟩ v2).setCell ⟨g,3,none⟩ v3) g t #[v0,v1,v2,v3]:=by
 have h1:=((((h.set_ 0 v0).set_ 1 v1).set_ 2 v2).set_ 3 v3)
 simp only[List.setIfInBounds_toArray,List.set_cons_zero,List.set_cons_succ]at h1;exact h1
theorem below4 {w0 w:World} {g B:Nat} (h:Below B w0 w) (hB:B<=g) (v0 v1 v2 v3:Value):Below B w0 ((((w.setCell ⟨g,0,none⟩ v0).setCell ⟨g,1,none⟩ v1).setCell ⟨g,2,none⟩ v2).setCell ⟨g,3,none⟩ v3):=
 (((h.setCell (p:=⟨g,0,none⟩) hB _).setCell (p:=⟨g,1,none⟩) hB _).setCell (p:=⟨g,2,none⟩) hB _).setCell (p:=⟨g,3,none⟩) hB _
def OfF (b:Bool) (w:World) (e:Ending) (w':World):Prop:=(∃(k:Int) (n:Bool) (m x:Int),e=.returned (.tuple #[.agg #[.int .i64 k,.bool n,.int .u64 m,.int .i64 x],.bool b]))/\Below w.heap.size w w'
theorem zxt (neg ok is r:Bool) (m e:Int) (hm0:-1000000000000000000<m) (hm1:m<1000000000000000000) (he0:-1000000000000000000<e) (he1:e<1000000000000000000) (gb:Nat) (w wx:World) (HM:Hid (Blk wx gb 74 #[.int .i64 0,.bool false,.int .u64 0,.int .i64 0]/\Below w.heap.size w wx/\w.heap.size<=gb)) (HR:Hid ((ok && is && mokB m e)=r)) {u0 u1 u3 u5 u6 u11 u12 u13 u14 u15 u16 u17 u18 u19 u20 u21 u22 u23 u24 u25 u26 u27 u28 u29 u30 u31 u32 u33 u34 u35 u36 u37 u38 u39 u40 u41 u42 u43 u44 u45 u46 u47 u48 u49 u50 u51 u52 u53 u54 u55 u56 u57 u58 u59 u60 u61 u62 u63 u64 u65 u66 u67 u68 u69 u70 u71 u72 u73 u74 u75 u76 u77 u78 u79 u80 u81 u82 u83 u84 u85 u86 u87 u88 u89 u90 u91 u92 u93 u94 u95 u96 u97 u98 u99 u100 u101 u102 u103 u104 u105 u106 u107 u108 u109 u110 u111 u112 u113 u114 u115 u116:Value}:
 Code.wp prog (tl 11 (f45.body.getD .skip)) (bodyPost prog f45 (OfF r w)) {tmps:=List.toArray (u0::u1::.pointer (some ⟨gb,0,none⟩)::u3::.bool neg::u5::u6::.int .i64 m::.bool ok::.int .i64 e::.bool is::u11::u12::u13::u14::u15::u16::u17::u18::u19::u20::u21::u22::u23::u24::u25::u26::u27::u28::u29::u30::u31::u32::u33::u34::u35::u36::u37::u38::u39::u40::u41::u42::u43::u44::u45::u46::u47::u48::u49::u50::u51::u52::u53::u54::u55::u56::u57::u58::u59::u60::u61::u62::u63::u64::u65::u66::u67::u68::u69::u70::u71::u72::u73::u74::u75::u76::u77::u78::u79::u80::u81::u82::u83::u84::u85::u86::u87::u88::u89::u90::u91::u92::u93::u94::u95::u96::u97::u98::u99::u100::u101::u102::u103::u104::u105::u106::u107::u108::u109::u110::u111::u112::u113::u114::u115::u116::[]),defers:=[]} wx:=by
 generalize hc0:tl 11 (f45.body.getD .skip)=c0;simp only[tl,f45,Option.getD_some]at hc0;subst hc0;obtain⟨q0,q1,q2,q3⟩:=cells4 HM.out.1;have qf:∀j,wx.frozen? ⟨gb,j,none⟩=false:=HM.out.1.frozen;cases ok with
 |false=>
  have HF:Hid (r=false):=hid (by rw[<-HR.out];rfl);go_wp2_with fail;have HSB:Blk ((((wx.setCell ⟨gb,0,none⟩ (.int .i64 0)).setCell ⟨gb,1,none⟩ (.bool false)).setCell ⟨gb,2,none⟩ (.int .u64 0)).setCell ⟨gb,3,none⟩ (.int .i64 0)) gb 74 #[.int .i64 0,.bool false,.int .u64 0,.int .i64 0]:=za5 HM.out.1;obtain⟨e0,e1,e2,e3⟩:=cells4 HSB;have HSH:Below w.heap.size w ((((wx.setCell ⟨gb,0,none⟩ (.int .i64 0)).setCell ⟨gb,1,none⟩ (.bool false)).setCell ⟨gb,2,none⟩ (.int .u64 0)).setCell ⟨gb,3,none⟩ (.int .i64 0)):=below4 HM.out.2.1 HM.out.2.2 _ _ _ _;refine bodyPost_ret (v:=.tuple #[.agg #[.int .i64 0,.bool false,.int .u64 0,.int .i64 0],.bool false]) (by rw[results_cell_tmp rfl];go_simp) rfl ?_;rw[HF.out];exact⟨⟨_,_,_,_,rfl⟩,HSH⟩
 |true=>
  cases is with
  |false=>
   have HF:Hid (r=false):=hid (by rw[<-HR.out];rfl);go_wp2_with fail;have HSB:Blk ((((wx.setCell ⟨gb,0,none⟩ (.int .i64 0)).setCell ⟨gb,1,none⟩ (.bool false)).setCell ⟨gb,2,none⟩ (.int .u64 0)).setCell ⟨gb,3,none⟩ (.int .i64 0)) gb 74 #[.int .i64 0,.bool false,.int .u64 0,.int .i64 0]:=za5 HM.out.1;obtain⟨e0,e1,e2,e3⟩:=cells4 HSB;have HSH:Below w.heap.size w ((((wx.setCell ⟨gb,0,none⟩ (.int .i64 0)).setCell ⟨gb,1,none⟩ (.bool false)).setCell ⟨gb,2,none⟩ (.int .u64 0)).setCell ⟨gb,3,none⟩ (.int .i64 0)):=below4 HM.out.2.1 HM.out.2.2 _ _ _ _;refine bodyPost_ret (v:=.tuple #[.agg #[.int .i64 0,.bool false,.int .u64 0,.int .i64 0],.bool false]) (by rw[results_cell_tmp rfl];go_simp) rfl ?_;rw[HF.out];exact⟨⟨_,_,_,_,rfl⟩,HSH⟩
  |true=>
   have HMK:Hid (mokB m e=r):=hid (by have:=HR.out;simpa using this);clear HR;by_cases hn:m<0
   ·have HF:Hid (r=false):=hid (by rw[<-HMK.out];unfold mokB;rw[decide_eq_true hn];rfl);go_wp2_with fail;have HSB:Blk ((((wx.setCell ⟨gb,0,none⟩ (.int .i64 0)).setCell ⟨gb,1,none⟩ (.bool false)).setCell ⟨gb,2,none⟩ (.int .u64 0)).setCell ⟨gb,3,none⟩ (.int .i64 0)) gb 74 #[.int .i64 0,.bool false,.int .u64 0,.int .i64 0]:=za5 HM.out.1;obtain⟨e0,e1,e2,e3⟩:=cells4 HSB;have HSH:Below w.heap.size w ((((wx.setCell ⟨gb,0,none⟩ (.int .i64 0)).setCell ⟨gb,1,none⟩ (.bool false)).setCell ⟨gb,2,none⟩ (.int .u64 0)).setCell ⟨gb,3,none⟩ (.int .i64 0)):=below4 HM.out.2.1 HM.out.2.2 _ _ _ _;refine bodyPost_ret (v:=.tuple #[.agg #[.int .i64 0,.bool false,.int .u64 0,.int .i64 0],.bool false]) (by rw[results_cell_tmp rfl];go_simp) rfl ?_;rw[HF.out];exact⟨⟨_,_,_,_,rfl⟩,HSH⟩
   ·by_cases hz:m=0
    ·subst hz;have hzb:((0:Int)==0)=true:=rfl;have hzc:((0:Int) != 0)=false:=rfl;by_cases hez:e=0
     ·have hezb:(e==0)=true:=by simpa using hez
      have hezc:(e != 0)=false:=by rw[bne,hezb];rfl
      have HF:Hid (r=true):=hid (by rw[<-HMK.out,hez];decide);clear hez;go_wp2_with fail;have HSB:Blk ((((wx.setCell ⟨gb,0,none⟩ (.int .i64 0)).setCell ⟨gb,1,none⟩ (.bool neg)).setCell ⟨gb,2,none⟩ (.int .u64 0)).setCell ⟨gb,3,none⟩ (.int .i64 e)) gb 74 #[.int .i64 0,.bool neg,.int .u64 0,.int .i64 e]:=za5 HM.out.1;obtain⟨e0,e1,e2,e3⟩:=cells4 HSB;have HSH:Below w.heap.size w ((((wx.setCell ⟨gb,0,none⟩ (.int .i64 0)).setCell ⟨gb,1,none⟩ (.bool neg)).setCell ⟨gb,2,none⟩ (.int .u64 0)).setCell ⟨gb,3,none⟩ (.int .i64 e)):=below4 HM.out.2.1 HM.out.2.2 _ _ _ _;refine bodyPost_ret (v:=.tuple #[.agg #[.int .i64 0,.bool neg,.int .u64 0,.int .i64 e],.bool true]) (by rw[results_cell_tmp rfl];go_simp) rfl ?_;rw[HF.out];exact⟨⟨_,_,_,_,rfl⟩,HSH⟩
     ·have hezb:(e==0)=false:=by simpa using hez
      have hezc:(e != 0)=true:=by rw[bne,hezb];rfl
      have HF:Hid (r=false):=hid (by rw[<-HMK.out];unfold mokB;simp[hez]);clear hez;go_wp2_with fail;have HSB:Blk ((((wx.setCell ⟨gb,0,none⟩ (.int .i64 0)).setCell ⟨gb,1,none⟩ (.bool false)).setCell ⟨gb,2,none⟩ (.int .u64 0)).setCell ⟨gb,3,none⟩ (.int .i64 0)) gb 74 #[.int .i64 0,.bool false,.int .u64 0,.int .i64 0]:=za5 HM.out.1;obtain⟨e0,e1,e2,e3⟩:=cells4 HSB;have HSH:Below w.heap.size w ((((wx.setCell ⟨gb,0,none⟩ (.int .i64 0)).setCell ⟨gb,1,none⟩ (.bool false)).setCell ⟨gb,2,none⟩ (.int .u64 0)).setCell ⟨gb,3,none⟩ (.int .i64 0)):=below4 HM.out.2.1 HM.out.2.2 _ _ _ _;refine bodyPost_ret (v:=.tuple #[.agg #[.int .i64 0,.bool false,.int .u64 0,.int .i64 0],.bool false]) (by rw[results_cell_tmp rfl];go_simp) rfl ?_;rw[HF.out];exact⟨⟨_,_,_,_,rfl⟩,HSH⟩
    ·have hzb:(m==0)=false:=by simpa using hz
     have hzc:(m != 0)=true:=by rw[bne,hzb];rfl
     have hmp:0<m:=by omega
     have hwr:IntKind.u64.wrap m=m:=by rw[IntKind.wrap_u64];omega
     have HBL:=hid (fun W=>zsq m.toNat (by omega) m (by omega) W);obtain⟨b,hb⟩:=ex (Lib.bitLen m.toNat)
     have hb64:b<=64:=by rw[<-hb];exact Lib.bitLen_le _ 64 (by omega) (by omega)
     have HMB:Hid (r=!(decide (m%2=0) || decide (53<b) || decide (e< -1074) || decide (1023<e) || decide (1024<e+b))):=hid (by
      rw[<-HMK.out];unfold mokB;rw[hb,decide_eq_false hn,hzb,hzc];simp only[Bool.false_or,Bool.false_and,Bool.true_and];rfl)
     rw[hb]at HBL;clear hb hz HMK;by_cases k1:m%2=0
     ·have k1b:(m%2==0)=true:=by simpa using k1
      have HF:Hid (r=false):=hid (by rw[HMB.out];simp[k1]);clear k1;go_wp2_with fail;have HSB:Blk ((((wx.setCell ⟨gb,0,none⟩ (.int .i64 0)).setCell ⟨gb,1,none⟩ (.bool false)).setCell ⟨gb,2,none⟩ (.int .u64 0)).setCell ⟨gb,3,none⟩ (.int .i64 0)) gb 74 #[.int .i64 0,.bool false,.int .u64 0,.int .i64 0]:=za5 HM.out.1;obtain⟨e0,e1,e2,e3⟩:=cells4 HSB;have HSH:Below w.heap.size w ((((wx.setCell ⟨gb,0,none⟩ (.int .i64 0)).setCell ⟨gb,1,none⟩ (.bool false)).setCell ⟨gb,2,none⟩ (.int .u64 0)).setCell ⟨gb,3,none⟩ (.int .i64 0)):=below4 HM.out.2.1 HM.out.2.2 _ _ _ _;refine bodyPost_ret (v:=.tuple #[.agg #[.int .i64 0,.bool false,.int .u64 0,.int .i64 0],.bool false]) (by rw[results_cell_tmp rfl];go_simp) rfl ?_;rw[HF.out];exact⟨⟨_,_,_,_,rfl⟩,HSH⟩
     ·have k1b:(m%2==0)=false:=by simpa using k1
      by_cases k2:53<b
      ·have k2I:(53:Int)<(b:Int):=by omega
       have HF:Hid (r=false):=hid (by rw[HMB.out];simp[k2]);clear k1 k2;go_wp2_with fail;refine(HBL.out _).mono ?_;rintro _ wx ⟨rfl,rfl⟩;go_wp2_with fail;have HSB:Blk ((((wx.setCell ⟨gb,0,none⟩ (.int .i64 0)).setCell ⟨gb,1,none⟩ (.bool false)).setCell ⟨gb,2,none⟩ (.int .u64 0)).setCell ⟨gb,3,none⟩ (.int .i64 0)) gb 74 #[.int .i64 0,.bool false,.int .u64 0,.int .i64 0]:=za5 HM.out.1;obtain⟨e0,e1,e2,e3⟩:=cells4 HSB;have HSH:Below w.heap.size w ((((wx.setCell ⟨gb,0,none⟩ (.int .i64 0)).setCell ⟨gb,1,none⟩ (.bool false)).setCell ⟨gb,2,none⟩ (.int .u64 0)).setCell ⟨gb,3,none⟩ (.int .i64 0)):=below4 HM.out.2.1 HM.out.2.2 _ _ _ _;refine bodyPost_ret (v:=.tuple #[.agg #[.int .i64 0,.bool false,.int .u64 0,.int .i64 0],.bool false]) (by rw[results_cell_tmp rfl];go_simp) rfl ?_;rw[HF.out];exact⟨⟨_,_,_,_,rfl⟩,HSH⟩
      ·have k2I:¬(53:Int)<(b:Int):=by omega
       by_cases k3:e< -1074
       ·have HF:Hid (r=false):=hid (by rw[HMB.out];simp[k3]);clear k1 k2;go_wp2_with fail;refine(HBL.out _).mono ?_;rintro _ wx ⟨rfl,rfl⟩;go_wp2_with fail;have HSB:Blk ((((wx.setCell ⟨gb,0,none⟩ (.int .i64 0)).setCell ⟨gb,1,none⟩ (.bool false)).setCell ⟨gb,2,none⟩ (.int .u64 0)).setCell ⟨gb,3,none⟩ (.int .i64 0)) gb 74 #[.int .i64 0,.bool false,.int .u64 0,.int .i64 0]:=za5 HM.out.1;obtain⟨e0,e1,e2,e3⟩:=cells4 HSB;have HSH:Below w.heap.size w ((((wx.setCell ⟨gb,0,none⟩ (.int .i64 0)).setCell ⟨gb,1,none⟩ (.bool false)).setCell ⟨gb,2,none⟩ (.int .u64 0)).setCell ⟨gb,3,none⟩ (.int .i64 0)):=below4 HM.out.2.1 HM.out.2.2 _ _ _ _;refine bodyPost_ret (v:=.tuple #[.agg #[.int .i64 0,.bool false,.int .u64 0,.int .i64 0],.bool false]) (by rw[results_cell_tmp rfl];go_simp) rfl ?_;rw[HF.out];exact⟨⟨_,_,_,_,rfl⟩,HSH⟩
       ·by_cases k4:1023<e
        ·have HF:Hid (r=false):=hid (by rw[HMB.out];simp[k4]);clear k1 k2;go_wp2_with fail;refine(HBL.out _).mono ?_;rintro _ wx ⟨rfl,rfl⟩;go_wp2_with fail;have HSB:Blk ((((wx.setCell ⟨gb,0,none⟩ (.int .i64 0)).setCell ⟨gb,1,none⟩ (.bool false)).setCell ⟨gb,2,none⟩ (.int .u64 0)).setCell ⟨gb,3,none⟩ (.int .i64 0)) gb 74 #[.int .i64 0,.bool false,.int .u64 0,.int .i64 0]:=za5 HM.out.1;obtain⟨e0,e1,e2,e3⟩:=cells4 HSB;have HSH:Below w.heap.size w ((((wx.setCell ⟨gb,0,none⟩ (.int .i64 0)).setCell ⟨gb,1,none⟩ (.bool false)).setCell ⟨gb,2,none⟩ (.int .u64 0)).setCell ⟨gb,3,none⟩ (.int .i64 0)):=below4 HM.out.2.1 HM.out.2.2 _ _ _ _;refine bodyPost_ret (v:=.tuple #[.agg #[.int .i64 0,.bool false,.int .u64 0,.int .i64 0],.bool false]) (by rw[results_cell_tmp rfl];go_simp) rfl ?_;rw[HF.out];exact⟨⟨_,_,_,_,rfl⟩,HSH⟩
        ·by_cases k5:1024<e+b
         ·have HF:Hid (r=false):=hid (by rw[HMB.out];simp[k5]);clear k1 k2;go_wp2_with fail;refine(HBL.out _).mono ?_;rintro _ wx ⟨rfl,rfl⟩;go_wp2_with fail;refine(HBL.out _).mono ?_;rintro _ wx ⟨rfl,rfl⟩;go_wp2_with fail;have HSB:Blk ((((wx.setCell ⟨gb,0,none⟩ (.int .i64 0)).setCell ⟨gb,1,none⟩ (.bool false)).setCell ⟨gb,2,none⟩ (.int .u64 0)).setCell ⟨gb,3,none⟩ (.int .i64 0)) gb 74 #[.int .i64 0,.bool false,.int .u64 0,.int .i64 0]:=za5 HM.out.1;obtain⟨e0,e1,e2,e3⟩:=cells4 HSB;have HSH:Below w.heap.size w ((((wx.setCell ⟨gb,0,none⟩ (.int .i64 0)).setCell ⟨gb,1,none⟩ (.bool false)).setCell ⟨gb,2,none⟩ (.int .u64 0)).setCell ⟨gb,3,none⟩ (.int .i64 0)):=below4 HM.out.2.1 HM.out.2.2 _ _ _ _;refine bodyPost_ret (v:=.tuple #[.agg #[.int .i64 0,.bool false,.int .u64 0,.int .i64 0],.bool false]) (by rw[results_cell_tmp rfl];go_simp) rfl ?_;rw[HF.out];exact⟨⟨_,_,_,_,rfl⟩,HSH⟩
         ·have HF:Hid (r=true):=hid (by rw[HMB.out];simp[k1,k2,k3,k4,k5]);clear k1 k2;go_wp2_with fail;refine(HBL.out _).mono ?_;rintro _ wx ⟨rfl,rfl⟩;go_wp2_with fail;refine(HBL.out _).mono ?_;rintro _ wx ⟨rfl,rfl⟩;go_wp2_with fail;have HSB:Blk ((((wx.setCell ⟨gb,0,none⟩ (.int .i64 0)).setCell ⟨gb,1,none⟩ (.bool neg)).setCell ⟨gb,2,none⟩ (.int .u64 m)).setCell ⟨gb,3,none⟩ (.int .i64 e)) gb 74 #[.int .i64 0,.bool neg,.int .u64 m,.int .i64 e]:=za5 HM.out.1;obtain⟨e0,e1,e2,e3⟩:=cells4 HSB;have HSH:Below w.heap.size w ((((wx.setCell ⟨gb,0,none⟩ (.int .i64 0)).setCell ⟨gb,1,none⟩ (.bool neg)).setCell ⟨gb,2,none⟩ (.int .u64 m)).setCell ⟨gb,3,none⟩ (.int .i64 e)):=below4 HM.out.2.1 HM.out.2.2 _ _ _ _;refine bodyPost_ret (v:=.tuple #[.agg #[.int .i64 0,.bool neg,.int .u64 m,.int .i64 e],.bool true]) (by rw[results_cell_tmp rfl];go_simp) rfl ?_;rw[HF.out];exact⟨⟨_,_,_,_,rfl⟩,HSH⟩
theorem zpo (s:Gr.Str):-1000000000000000000<(numb s).getD 0/\(numb s).getD 0<1000000000000000000:=by
 unfold numb;split
 ·rename_i h;obtain⟨_,p2,_,_⟩:=zgd h.1;have hl:(intS s).length<=s.length:=by
   unfold intS;split
   ·simp
   ·omega
  have:=zug (intS s) p2 (by omega);simp only[Option.getD_some];split<;>omega
 ·simp
theorem zvn (s t:Gr.Str) (hl:s.length<=1073741823) (htl:t.length<=s.length) (neg r:Bool) (gb:Nat) (w wx:World) (HM:Hid (Blk wx gb 74 #[.int .i64 0,.bool false,.int .u64 0,.int .i64 0]/\Below w.heap.size w wx/\w.heap.size<=gb)) (HR:Hid ((if t=[105,110,102]then true else if s=[110,97,110]then true else match t.dropWhile (fun c=>c != 112)with| []=>false|_::b=>match numb (Gr.fA t)with|some m=>(match numb b with|some e=>mokB m e|none=>false)|none=>false)=r)) {u1 u3 u6 u7 u8 u9 u10 u11 u12 u13 u14 u15 u16 u17 u18 u19 u20 u21 u22 u23 u24 u25 u26 u27 u28 u29 u30 u31 u32 u33 u34 u35 u36 u37 u38 u39 u40 u41 u42 u43 u44 u45 u46 u47 u48 u49 u50 u51 u52 u53 u54 u55 u56 u57 u58 u59 u60 u61 u62 u63 u64 u65 u66 u67 u68 u69 u70 u71 u72 u73 u74 u75 u76 u77 u78 u79 u80 u81 u82 u83 u84 u85 u86 u87 u88 u89 u90 u91 u92 u93 u94 u95 u96 u97 u98 u99 u100 u101 u102 u103 u104 u105 u106 u107 u108 u109 u110 u111 u112 u113 u114 u115 u116:Value}:
 Code.wp prog (tl 4 (f45.body.getD .skip)) (bodyPost prog f45 (OfF r w)) {tmps:=List.toArray (.string ⟨s.toArray⟩::u1::.pointer (some ⟨gb,0,none⟩)::u3::.bool neg::.string ⟨t.toArray⟩::u6::u7::u8::u9::u10::u11::u12::u13::u14::u15::u16::u17::u18::u19::u20::u21::u22::u23::u24::u25::u26::u27::u28::u29::u30::u31::u32::u33::u34::u35::u36::u37::u38::u39::u40::u41::u42::u43::u44::u45::u46::u47::u48::u49::u50::u51::u52::u53::u54::u55::u56::u57::u58::u59::u60::u61::u62::u63::u64::u65::u66::u67::u68::u69::u70::u71::u72::u73::u74::u75::u76::u77::u78::u79::u80::u81::u82::u83::u84::u85::u86::u87::u88::u89::u90::u91::u92::u93::u94::u95::u96::u97::u98::u99::u100::u101::u102::u103::u104::u105::u106::u107::u108::u109::u110::u111::u112::u113::u114::u115::u116::[]),defers:=[]} wx:=by
 generalize hc0:tl 4 (f45.body.getD .skip)=c0;simp only[tl,f45,Option.getD_some]at hc0;subst hc0;obtain⟨q0,q1,q2,q3⟩:=cells4 HM.out.1;have qf:∀j,wx.frozen? ⟨gb,j,none⟩=false:=HM.out.1.frozen;by_cases hinf:t=[105,110,102]
 ·have h1:(t==([105,110,102]:List UInt8))=true:=by rw[beq_iff_eq];exact hinf
  have HF:Hid (r=true):=hid (by rw[<-HR.out,if_pos hinf]);clear hinf;go_wp2_with fail;have HSB:Blk ((((wx.setCell ⟨gb,0,none⟩ (.int .i64 1)).setCell ⟨gb,1,none⟩ (.bool neg)).setCell ⟨gb,2,none⟩ (.int .u64 0)).setCell ⟨gb,3,none⟩ (.int .i64 0)) gb 74 #[.int .i64 1,.bool neg,.int .u64 0,.int .i64 0]:=za5 HM.out.1;obtain⟨e0,e1,e2,e3⟩:=cells4 HSB;have HSH:Below w.heap.size w ((((wx.setCell ⟨gb,0,none⟩ (.int .i64 1)).setCell ⟨gb,1,none⟩ (.bool neg)).setCell ⟨gb,2,none⟩ (.int .u64 0)).setCell ⟨gb,3,none⟩ (.int .i64 0)):=below4 HM.out.2.1 HM.out.2.2 _ _ _ _;refine bodyPost_ret (v:=.tuple #[.agg #[.int .i64 1,.bool neg,.int .u64 0,.int .i64 0],.bool true]) (by rw[results_cell_tmp rfl];go_simp) rfl ?_;rw[HF.out];exact⟨⟨_,_,_,_,rfl⟩,HSH⟩
 ·have h1:(t==([105,110,102]:List UInt8))=false:=by rw[beq_eq_false_iff_ne];exact hinf
  by_cases hnan:s=[110,97,110]
  ·have h2:(s==([110,97,110]:List UInt8))=true:=by rw[beq_iff_eq];exact hnan
   have HF:Hid (r=true):=hid (by rw[<-HR.out,if_neg hinf,if_pos hnan]);clear hinf hnan;go_wp2_with fail;have HSB:Blk ((((wx.setCell ⟨gb,0,none⟩ (.int .i64 2)).setCell ⟨gb,1,none⟩ (.bool false)).setCell ⟨gb,2,none⟩ (.int .u64 0)).setCell ⟨gb,3,none⟩ (.int .i64 0)) gb 74 #[.int .i64 2,.bool false,.int .u64 0,.int .i64 0]:=za5 HM.out.1;obtain⟨e0,e1,e2,e3⟩:=cells4 HSB;have HSH:Below w.heap.size w ((((wx.setCell ⟨gb,0,none⟩ (.int .i64 2)).setCell ⟨gb,1,none⟩ (.bool false)).setCell ⟨gb,2,none⟩ (.int .u64 0)).setCell ⟨gb,3,none⟩ (.int .i64 0)):=below4 HM.out.2.1 HM.out.2.2 _ _ _ _;refine bodyPost_ret (v:=.tuple #[.agg #[.int .i64 2,.bool false,.int .u64 0,.int .i64 0],.bool true]) (by rw[results_cell_tmp rfl];go_simp) rfl ?_;rw[HF.out];exact⟨⟨_,_,_,_,rfl⟩,HSH⟩
  ·have h2:(s==([110,97,110]:List UInt8))=false:=by rw[beq_eq_false_iff_ne];exact hnan
   have HR2:Hid ((match t.dropWhile (fun c=>c != 112)with| []=>false|_::b=>match numb (Gr.fA t)with|some m=>(match numb b with|some e=>mokB m e|none=>false)|none=>false)=r):=hid (by rw[<-HR.out,if_neg hinf,if_neg hnan]);clear hinf hnan HR;have HSP:Hid (t=Gr.fA t++t.dropWhile (fun c=>c != 112)):=hid (List.takeWhile_append_dropWhile (p:=fun c:UInt8=>c != 112) (l:=t)).symm;have HNP:Hid (∀k (h:k<t.length),k<(Gr.fA t).length->t[k]≠112):=hid (fun k h hk=>by
    have e:t[k]=(Gr.fA t)[k]:=by
     have:=HSP.out;rw[List.getElem_of_eq this h,List.getElem_append_left hk]
    rw[e];have hm:=List.getElem_mem hk;unfold Gr.fA at hm;have:=zn8 hm;have h4:¬((List.takeWhile (fun c:UInt8=>c != 112) t)[k]=112):=by simpa using this
    exact h4)
   obtain⟨A,hA⟩:=ex (Gr.fA t)
   obtain⟨R,hRd⟩:=ex (t.dropWhile (fun c=>c != 112))
   have hRh:∀c b,R=c::b->c=112:=by
    intro c b e;have:=List.head?_dropWhile_not (fun c:UInt8=>c != 112) t;rw[hRd,e]at this;simpa using this
   have HRH:=hid hRh;rw[hA,hRd]at HR2 HSP;rw[hA]at HNP;have hAl:A.length<=t.length:=by have:=congrArg List.length HSP.out;rw[List.length_append]at this;omega
   clear hA hRd hRh;go_wp2_with fail;go_loop [6] (fun s6=>∃k:Nat,k<=A.length/\s6=.int .i64 (k:Int)) (fun s6=>t.length-(intOf s6).toNat)
   case atStart=>exact⟨0,Nat.zero_le _,rfl⟩
   case round=>
    obtain⟨k,hk,rfl⟩:=hrel;by_cases hkA:k<A.length
    ·have hlt:k<t.length:=by omega
     have hltI:(k:Int)<(t.length:Int):=by omega
     have hne:=HNP.out k hlt hkA;have b1:=zan t k hlt _ 112 112 rfl rfl hne;have b2:=zaq t k hlt _ 112 112 rfl rfl hne;clear hne;go_wp2;go_round
     case rel=>exact⟨k+1,by omega,by go_num⟩
     case measure=>simp[intOf];omega
    ·obtain rfl:k=A.length:=by omega
     clear hkA hk;cases R with
     |nil=>
      have HL:Hid (A.length=t.length):=hid (by have:=congrArg List.length HSP.out;rw[List.append_nil]at this;exact this.symm);have hltI:¬(A.length:Int)<(t.length:Int):=by have:=HL.out;omega
      have heI:((A.length:Int)==(t.length:Int))=true:=by rw[beq_iff_eq,HL.out]
      have HF:Hid (r=false):=hid (by rw[<-HR2.out]);go_wp2_with fail;have HSB:Blk ((((wx.setCell ⟨gb,0,none⟩ (.int .i64 0)).setCell ⟨gb,1,none⟩ (.bool false)).setCell ⟨gb,2,none⟩ (.int .u64 0)).setCell ⟨gb,3,none⟩ (.int .i64 0)) gb 74 #[.int .i64 0,.bool false,.int .u64 0,.int .i64 0]:=za5 HM.out.1;obtain⟨e0,e1,e2,e3⟩:=cells4 HSB;have HSH:Below w.heap.size w ((((wx.setCell ⟨gb,0,none⟩ (.int .i64 0)).setCell ⟨gb,1,none⟩ (.bool false)).setCell ⟨gb,2,none⟩ (.int .u64 0)).setCell ⟨gb,3,none⟩ (.int .i64 0)):=below4 HM.out.2.1 HM.out.2.2 _ _ _ _;refine bodyPost_ret (v:=.tuple #[.agg #[.int .i64 0,.bool false,.int .u64 0,.int .i64 0],.bool false]) (by rw[results_cell_tmp rfl];go_simp) rfl ?_;rw[HF.out];exact⟨⟨_,_,_,_,rfl⟩,HSH⟩
     |cons c b=>
      obtain rfl:c=112:=HRH.out c b rfl;have HLT:Hid (A.length+1+b.length=t.length):=hid (by have:=congrArg List.length HSP.out;rw[List.length_append,List.length_cons]at this;omega);have hlt:A.length<t.length:=by have:=HLT.out;omega
      have hltI:(A.length:Int)<(t.length:Int):=by omega
      have heI:((A.length:Int)==(t.length:Int))=false:=by rw[beq_eq_false_iff_ne];omega
      have hp:t[A.length]=112:=by rw[List.getElem_of_eq HSP.out hlt,List.getElem_append_right (Nat.le_refl _)];simp
      have b1:=zav t A.length hlt _ 112 112 rfl rfl hp;have b2:=zap t A.length hlt _ 112 112 rfl rfl hp;have hbl:b.length<=1073741823:=by have:=HLT.out;omega
      have e1:(⟨t.toArray⟩:ByteArray).extract 0 A.length=⟨A.toArray⟩:=by rw[zas,HSP.out];simp
      have e2:(⟨t.toArray⟩:ByteArray).extract (A.length+1) t.length=⟨b.toArray⟩:=by rw[zas,List.take_of_length_le (by simp),HSP.out];simp
      have HNA:=hid (fun W=>zk9 A (by omega) W);have HNB:=hid (fun W=>zk9 b (by omega) W);have bA:=zpo A;have bB:=zpo b;have HMK:Hid (((numb A).isSome && (numb b).isSome && mokB ((numb A).getD 0) ((numb b).getD 0))=r):=hid (by
       have h:=HR2.out;simp only at h;rw[<-h];rcases numb A with _|m<;>rcases numb b with _|e<;>first|rfl|simp)
      unfold NPost at HNA HNB;obtain⟨m,hm⟩:=ex ((numb A).getD 0)
      obtain⟨x,hx⟩:=ex ((numb b).getD 0)
      obtain⟨ok,hok⟩:=ex ((numb A).isSome)
      obtain⟨is,his⟩:=ex ((numb b).isSome)
      rw[hm,hok]at HNA;rw[hx,his]at HNB;rw[hm,hx,hok,his]at HMK;rw[hm]at bA;rw[hx]at bB;have hA1:A.length+1<=t.length:=by omega
      have hA1I:(A.length:Int)+1<=(t.length:Int):=by omega
      clear hm hx hok his hp HNP HRH HR2 HSP q0 q1 q2 q3 qf;go_upto_region 14 with fail;go_cut [7,8] (fun s7 s8 wy=>s7=.int .i64 m/\s8=.bool ok/\wy=wx)
      case first=>
       go_wp2_with fail;refine(HNA.out _).mono ?_;rintro _ w1 ⟨rfl,rfl⟩;go_wp2;go_meet;exact⟨rfl,rfl,rfl⟩
      case rest=>
      obtain⟨rfl,rfl,rfl⟩:=hcut;refine(‹∀(a:Act) (w_1:World),Code.wp prog _ _ a w_1->_›) _ _ ?_;go_upto_region 15 with fail;go_cut [9,10] (fun s9 s10 wy=>s9=.int .i64 x/\s10=.bool is/\wy=wc)
      case first=>
       go_wp2_with fail;refine(HNB.out _).mono ?_;rintro _ w1 ⟨rfl,rfl⟩;go_wp2;go_meet;exact⟨rfl,rfl,rfl⟩
      case rest=>
      obtain⟨rfl,rfl,rfl⟩:=hcut;refine(‹∀(a:Act) (w_1:World),Code.wp prog _ _ a w_1->_›) _ _ ?_;exact zxt neg ok is r m x bA.1 bA.2 bB.1 bB.2 gb w _ HM HMK
theorem zsr (s:Gr.Str) (hl:s.length<=1073741823) (w:World):Calls prog 45 #[.string ⟨s.toArray⟩] w (OfF (fltR s) w):=by
 obtain⟨r,hr⟩:=ex (fltR s)
 rw[hr];have HR:Hid (∀t,Gr.fT s=t->(if t=[105,110,102]then true else if s=[110,97,110]then true else match t.dropWhile (fun c=>c != 112)with| []=>false|_::b=>match numb (Gr.fA t)with|some m=>(match numb b with|some e=>mokB m e|none=>false)|none=>false)=r):=hid (fun t ht=>by rw[<-hr,<-ht];rfl);clear hr;by_cases h0:0<s.length
 ·have h0I:(0:Int)<(s.length:Int):=by omega
  have hh:s.head?=some s[0]:=by rw[List.head?_eq_getElem?,List.getElem?_eq_getElem h0]
  by_cases h45:s[0]=45
  ·have b1:=zav s 0 h0 _ 45 45 rfl rfl h45;have b2:=zap s 0 h0 _ 45 45 rfl rfl h45;obtain⟨t,ht⟩:=ex s.tail
   have HL:=hid (HR.out t (by unfold Gr.fT;rw[hh,h45,if_pos rfl,ht]));have htl:t.length<=s.length:=by rw[<-ht];simp
   have e1:(⟨s.toArray⟩:ByteArray).extract 1 s.length=⟨t.toArray⟩:=by rw[zas,List.take_of_length_le (by simp),<-ht,List.drop_one]
   have h1I:(1:Int)<=(s.length:Int):=by omega
   clear HR hh h45 ht;go_enter func45,ntmps45;go_upto_region 1 with fail;obtain⟨w0,hw0⟩:=ex (w.alloc (.cells #[.int .i64 0,.bool false,.int .u64 0,.int .i64 0] 74))
   have HM:Hid (Blk w0 w.heap.size 74 #[.int .i64 0,.bool false,.int .u64 0,.int .i64 0]/\Below w.heap.size w w0/\w.heap.size<=w.heap.size):=hid ⟨by rw[<-hw0];exact Blk.new _ _ _,by rw[<-hw0];exact(Below.refl _ _).alloc (Nat.le_refl _) _,Nat.le_refl _⟩;(try rw[hw0]);clear hw0;go_upto_if 20 with fail;go_cut [5] (fun s5 wy=>s5=.string ⟨t.toArray⟩/\wy=w0)
   case first=>
    go_wp2;go_meet;exact⟨rfl,rfl⟩
   case rest=>
   obtain⟨rfl,rfl⟩:=hcut;refine(‹∀(a:Act) (w_1:World),Code.wp prog _ _ a w_1->_›) _ _ ?_;exact zvn s t hl (by omega) true r _ w _ HM HL
  ·have b1:=zan s 0 h0 _ 45 45 rfl rfl h45;have b2:=zaq s 0 h0 _ 45 45 rfl rfl h45;have HL:=hid (HR.out s (by unfold Gr.fT;rw[hh,if_neg (by intro e;injection e with e;exact h45 e)]));clear HR hh h45;go_enter func45,ntmps45;go_upto_region 1 with fail;obtain⟨w0,hw0⟩:=ex (w.alloc (.cells #[.int .i64 0,.bool false,.int .u64 0,.int .i64 0] 74))
   have HM:Hid (Blk w0 w.heap.size 74 #[.int .i64 0,.bool false,.int .u64 0,.int .i64 0]/\Below w.heap.size w w0/\w.heap.size<=w.heap.size):=hid ⟨by rw[<-hw0];exact Blk.new _ _ _,by rw[<-hw0];exact(Below.refl _ _).alloc (Nat.le_refl _) _,Nat.le_refl _⟩;(try rw[hw0]);clear hw0;go_upto_if 20 with fail;go_cut [5] (fun s5 wy=>s5=.string ⟨s.toArray⟩/\wy=w0)
   case first=>
    go_wp2;go_meet;exact⟨rfl,rfl⟩
   case rest=>
   obtain⟨rfl,rfl⟩:=hcut;refine(‹∀(a:Act) (w_1:World),Code.wp prog _ _ a w_1->_›) _ _ ?_;exact zvn s s hl (by omega) false r _ w _ HM HL
 ·have h0I:¬(0:Int)<(s.length:Int):=by omega
  have HL:=hid (HR.out s (by rw[show s=[]from List.eq_nil_of_length_eq_zero (by omega)];rfl));clear HR;go_enter func45,ntmps45;go_upto_region 1 with fail;obtain⟨w0,hw0⟩:=ex (w.alloc (.cells #[.int .i64 0,.bool false,.int .u64 0,.int .i64 0] 74))
  have HM:Hid (Blk w0 w.heap.size 74 #[.int .i64 0,.bool false,.int .u64 0,.int .i64 0]/\Below w.heap.size w w0/\w.heap.size<=w.heap.size):=hid ⟨by rw[<-hw0];exact Blk.new _ _ _,by rw[<-hw0];exact(Below.refl _ _).alloc (Nat.le_refl _) _,Nat.le_refl _⟩;(try rw[hw0]);clear hw0;go_upto_if 20 with fail;go_cut [5] (fun s5 wy=>s5=.string ⟨s.toArray⟩/\wy=w0)
  case first=>
   go_wp2;go_meet;exact⟨rfl,rfl⟩
  case rest=>
  obtain⟨rfl,rfl⟩:=hcut;refine(‹∀(a:Act) (w_1:World),Code.wp prog _ _ a w_1->_›) _ _ ?_;exact zvn s s hl (by omega) false r _ w _ HM HL
end Go.Proofs.YtoigpackhninoaaGreatDoor
