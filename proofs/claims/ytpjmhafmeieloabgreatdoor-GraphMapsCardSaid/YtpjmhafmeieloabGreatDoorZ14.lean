import Derived.Test.YtpjmhafmeieloabGreatDoorZ12
import Derived.Test.YtpjmhafmeieloabGreatDoorGrDecR5
import Derived.Test.YtpjmhafmeieloabGreatDoorGrDecE
namespace Go.Proofs.YtpjmhafmeieloabGreatDoor
open _root_.Go.Proofs.Tryz
set_option maxRecDepth 100000
set_option maxHeartbeats 16000000
open Go.RowKit
theorem zir (text:Gr.Str):ScalOk UT 0 text text.isEmpty:=by
 intro w _;have ht:=zg3 text;go_enter func22,ntmps22;go_wp2;go_ret;exact⟨rfl,Below.refl _ _⟩
theorem zen (text:Gr.Str) (hl:text.length<=1073741823):ScalOk UT 2 text (Gr.intB text):=by
 intro w _;have c:=Lib.hid (fun W=>zeb text hl W);obtain⟨r,a⟩:=ex (Gr.intB text)
 rw[a]at c ⊢;clear a;go_enter func22,ntmps22;go_wp2_with fail;refine(c.out _).mono ?_;rintro e w2 ⟨rfl,b⟩;have d:=Lib.hid b;clear b;go_wp2;go_ret;exact⟨rfl,d.out⟩
def utfB (s:Gr.Str):Bool:=(Utf.bad s).isNone
theorem zff (text:Gr.Str) (hl:text.length<=1073741823):ScalOk UT 5 text (utfB text):=by
 intro w c;have a:=Lib.hid (zgs text hl w c.1 c.2 _ rfl);unfold utfB;cases hr:Utf.bad text with
 |none=>
  rw[hr]at a;unfold ckVal at a;simp only at a;clear hr c;go_enter func22,ntmps22;go_wp2_with fail;refine a.out.mono ?_;rintro e f ⟨rfl,b⟩;have d:=Lib.hid b;clear b;go_wp2;go_ret;exact⟨rfl,d.out⟩
 |some i=>
  rw[hr]at a;unfold ckVal at a;simp only at a;clear hr c;go_enter func22,ntmps22;go_wp2_with fail;refine a.out.mono ?_;rintro e f ⟨rfl,b⟩;have d:=Lib.hid b;clear b;go_wp2;go_ret;exact⟨rfl,d.out⟩
theorem infoIntS:(prog.info? 3).map (·.size)=some 1:=by kernel_rfl
theorem zlg (l:List Nat):intL.all l=(icells l).toList:=by
 induction l with
 |nil=>rfl
 |cons x l ih=>
  have a:intL.all (x::l)=.int .i64 (x:Int)::intL.all l:=rfl;rw[a,ih];simp[icells]
theorem zrd (W:World) (B g n c:Nat) (A:Option Addr) (l:List Nat) (ty:TypeId) (hl:l.length=n) (hb:Blk W g 3 (icells (List.replicate n 0))) (hr:RowAt intL W B A l):
 ∃W',(Builtin.copy_ #[38,38] ty #[.slice (some ⟨g,0,none⟩) n n,.slice A n c]).run prog W=.ok (.int .i64 n) W'/\Kept1 g W W'/\Blk W' g 3 (icells l):=by
 by_cases h0:n=0
 .subst h0;obtain rfl:=List.eq_nil_of_length_eq_zero hl;exact⟨W,run_copy_none (P:=prog) W 38 38 ty 3 _ A 0 0 0 c underlying38 infoIntS rfl,Kept1.refl _ _,hb⟩
 .obtain⟨h,rfl,hlt,d⟩:=hr.2 (by omega);have a:(intL.all l).length=n:=by rw[Lay.all_len];show l.length*1=n;omega
  have b:=run_copy_row (P:=prog) W 38 38 ty 3 g 0 n n h n c (icells (List.replicate n 0)) 3 (intL.all l) underlying38 infoIntS hb (by rw[a];exact(Nat.min_self n).symm) d (by rw[a];simp[icells]) (intL.all_one l);have e:((icells (List.replicate n 0)).toList.take 0++intL.all l++(icells (List.replicate n 0)).toList.drop (0+(intL.all l).length)).toArray=icells l:=by
   rw[a];have:intL.all l=(icells l).toList:=by
    exact zlg l
   rw[this];simp[icells]
  rw[e,a]at b;exact⟨_,b,⟨rfl,rfl,rfl,size_setRow _ _ _,fun k f=>setRow_other _ _ _ _ f⟩,setRow_heap _ _ _ _ _ _ hb⟩
theorem zre (l:List Nat) (f:Nat->Nat) (i:Nat) (h:i<l.length):((l.take i).map f++l.drop i).set i (f l[i])=(l.take (i+1)).map f++l.drop (i+1):=by
 have e:((l.take i).map f).length=i:=by simp;omega
 rw[List.drop_eq_getElem_cons h,List.set_append_right _ _ (by rw[e];exact Nat.le_refl _),e,Nat.sub_self,List.set_cons_zero,zaj _ _ h,List.map_append];simp
theorem zfm (A:Option Addr) (c by_:Nat) (l:List Nat) (hl:l.length<=1073741823) (hx:∀x∈l,x<=1152921504606846976) (hby:by_<=1152921504606846976) (w:World) (B:Nat) (hB:B<=w.heap.size) (h:RowAt intL w B A l):
 Calls prog 30 #[.slice A l.length c,.int .i64 by_] w fun e w'=>e=.returned (.slice (some ⟨w.heap.size,0,none⟩) l.length l.length)/\Below w.heap.size w w'/\Blk w' w.heap.size 3 (icells (l.map (· +by_))):=by
 have hmk:=fun W=>zb1 l.length (by omega) W
 obtain⟨s,a⟩:=ex (w.alloc (.cells (icells (List.replicate l.length 0)) 3))
 have r:Below w.heap.size w s:=by rw[<-a];exact(Below.refl _ _).alloc (Nat.le_refl _) _
 have y:Blk s w.heap.size 3 (icells (List.replicate l.length 0)):=by rw[<-a];exact Blk.new _ _ _
 obtain⟨v,t,m,n⟩:=zrd s B w.heap.size l.length c A l 3 rfl y (h.below (r.mono hB));have d:Hid (Below w.heap.size w v/\Blk v w.heap.size 3 (icells l)):=Lib.hid ⟨r.trans (m.below (Nat.le_refl _)),n⟩;clear r y m n h;go_enter func30,ntmps30;go_upto_region 2 with fail;(try rw[a]);clear a;go_upto_region 3 with fail;obtain⟨g,p⟩:=ex w.heap.size
 have z:=Lib.hid p;rw[p]at d;(try rw[p]);clear t p;go_upto_region 4 with fail;go_loopw [15] (fun s15 wr=>∃i:Nat,i<=l.length/\s15=.int .i64 i/\Hid (Below g w wr/\Blk wr g 3 (icells ((l.take i).map (· +by_)++l.drop i)))) (fun s15 _=>l.length-(intOf s15).toNat)
 case atStart=>exact⟨0,by omega,rfl,Lib.hid ⟨d.out.1,by simpa using d.out.2⟩⟩
 case round=>
  obtain⟨i,D,rfl,o⟩:=hrel;by_cases hlt:i<l.length
  .have f:(i:Int)<(l.length:Int):=by omega
   obtain⟨x,b⟩:=ex (l[i])
   have hxb:x<=1152921504606846976:=by rw[<-b];exact hx _ (List.getElem_mem hlt)
   have k:((l.take i).map (· +by_)++l.drop i).getD i 0=x:=by
    rw[List.getD_eq_getElem?_getD,List.getElem?_append_right (by simp;omega)];simp[Nat.min_eq_left D,List.getElem?_eq_getElem hlt,b]
   have z0:wr.cell? ⟨g,i,none⟩=some (.int .i64 (x:Int)):=by
    rw[o.out.2.cell,zad (by simp;omega),k]
   have zf:∀j,wr.frozen? ⟨g,j,none⟩=false:=o.out.2.frozen;have q:Hid (Below g w (wr.setCell ⟨g,i,none⟩ (.int .i64 ((x:Int)+(by_:Int))))/\Blk (wr.setCell ⟨g,i,none⟩ (.int .i64 ((x:Int)+(by_:Int)))) g 3 (icells ((l.take (i+1)).map (· +by_)++l.drop (i+1)))):=Lib.hid ⟨o.out.1.setCell (by simp) _,by
    have u:=o.out.2.set_ i (.int .i64 ((x+by_:Nat):Int));rw[zav]at u;rw[show(x:Int)+(by_:Int)=((x+by_:Nat):Int)from by omega];have e:=zre l (· +by_) i hlt;rw[b]at e;rw[e]at u;exact u⟩
   clear k b;go_wp2;go_roundw
   case rel=>exact⟨i+1,by omega,by go_num,q⟩
   case measure=>simp[intOf];omega
  .have f:¬(i:Int)<(l.length:Int):=by omega
   have C:Hid (Below g w wr/\Blk wr g 3 (icells (l.map (· +by_)))):=Lib.hid (by
    have:=o.out;rw[show i=l.length from by omega,List.take_length,List.drop_length,List.append_nil]at this;exact this)
   go_wp2;go_ret;rw[z.out];exact⟨rfl,C.out⟩
def KeptT (t:TypeId) (w w':World):Prop:=∀g cs,Blk w g t cs->Blk w' g t cs
theorem KeptT.refl (t:TypeId) (w:World):KeptT t w w:=fun _ _ h=>h
theorem KeptT.trans {t:TypeId} {a b c:World} (h:KeptT t a b) (k:KeptT t b c):KeptT t a c:=fun g d x=>k g d (h g d x)
theorem KeptT.later {t:TypeId} {w w':World} (h:Below w.heap.size w w'):KeptT t w w':=fun _ _ x=>x.below h x.lt
theorem KeptT.alloc (t:TypeId) (w:World) (o:Obj):KeptT t w (w.alloc o):=fun _ _ x=>x.alloc o
theorem KeptT.drewN (t:TypeId) (w:World) (n:Nat):KeptT t w (w.drewN n):=fun _ _ x=>x
theorem KeptT.setCell {t t':TypeId} {w:World} {p:Addr} {cs:Array Value} (h:Blk w p.block t' cs) (hne:t≠t') (u:Value):KeptT t w (w.setCell p u):=
 fun _ _ x=>x.far (fun e=>by subst e;exact Blk.ne_ x h hne rfl) u
theorem KeptT.grown {t t':TypeId} {w w':World} {v:Value} {base:Nat} {size n:Nat} {xs:List Value} (hg:w.grownBy w' v.ownBlock) (h:w.ownsRow base t' size v n xs) (hne:t'≠t):KeptT t w w':=
 fun _ _ x=>x.grown hg (fun e=>zbz h x hne e.symm)
section
variable {α:Type} {L:Lay α} {w w':World} {B base:Nat} {E:TypeId} {v:Value} {l:List α}
theorem OwnRow.kept (h:OwnRow L w base E v l) (hk:KeptT E w w'):OwnRow L w' base E v l:=by
 refine⟨h.1,?_⟩;rcases h.2 with hn|⟨g,cap,cur,rfl,hbg,hgg,rest⟩
 .exact .inl hn
 .exact .inr ⟨g,cap,cur,rfl,hbg,hk g cur hgg,rest⟩
theorem OwnRow.grown_other (h:OwnRow L w base E v l) {row:Option Nat} (hg:w.grownBy w' row) (hne:∀g,v.ownBlock=some g->row≠some g):OwnRow L w' base E v l:=by
 refine⟨h.1,?_⟩;rcases h.2 with hn|⟨g,cap,cur,rfl,hbg,hgg,rest⟩
 .exact .inl hn
 .refine .inr ⟨g,cap,cur,rfl,hbg,?_,rest⟩;rw[hg.block g (Blk.lt (t:=E) (cs:=cur) hgg) (fun e=>hne g (by simp[Value.ownBlock]) e.symm)];exact hgg
theorem OwnRow.row (h:OwnRow L w base E v l) (hl:l≠[]):
 ∃g cap rest,v=.slice (some ⟨g,0,none⟩) l.length cap/\l.length<=cap/\Blk w g E (L.all l++rest).toArray/\base<=g/\(∀w' l',l'.length=l.length->Blk w' g E (L.all l'++rest).toArray->OwnRow L w' base E v l'):=by
 rcases h.2 with⟨_,hn⟩|⟨g,cap,c,f,e,k,i,m,hcs,htk⟩
 .grind
 .have hcl:=L.all_len l;have a:c=(L.all l++c.toList.drop (l.length*L.sz)).toArray:=by
   grind
  have hle:l.length*L.sz<=cap*L.sz:=Nat.mul_le_mul_right _ i;refine⟨g,cap,c.toList.drop (l.length*L.sz),f,i,?_,e,fun w' l' d j=>?_⟩
  .unfold Blk;rw[<-a];exact k
  .have b:=L.all_len l';refine⟨b,.inr ⟨g,cap,_,by rw[d];exact f,e,j,by omega,m,?_,?_⟩⟩
   .simp only[List.size_toArray,List.length_append,List.length_drop,Array.length_toList];rw[d]at b;omega
   .simp only;rw[List.take_append_of_le_length (by omega),List.take_of_length_le (by omega)]
end
theorem ztu {α:Type} (L:Lay α) (l:List α) (k j:Nat) (x:α) (u:Value) (hk:k<l.length) (hj:j<L.sz) (he:L.enc x=(L.enc l[k]).set j u):L.all (l.set k x)=(L.all l).set (k*L.sz+j) u:=by
 induction l generalizing k with
 |nil=>simp at hk
 |cons y l ih=>
  cases k with
  |zero=>
   have b:L.all (x::l)=L.enc x++L.all l:=rfl;have a:L.all (y::l)=L.enc y++L.all l:=rfl;simp only[List.getElem_cons_zero]at he;simp only[List.set_cons_zero,Nat.zero_mul,Nat.zero_add];rw[b,a,he,List.set_append_left _ _ (by rw[L.len];exact hj)]
  |succ k=>
   have b:L.all (y::l.set k x)=L.enc y++L.all (l.set k x):=rfl;have a:L.all (y::l)=L.enc y++L.all l:=rfl;rw[List.set_cons_succ,b,a,ih k (by simpa using hk) (by simpa using he)];rw[List.set_append_right _ _ (by rw[L.len,Nat.add_mul];omega),L.len];rw[show(k+1)*L.sz+j-L.sz=k*L.sz+j from by rw[Nat.add_mul];omega]
theorem zce {α:Type} (L:Lay α) {w:World} {g:Nat} {E:TypeId} {l:List α} {rest:List Value} (h:Blk w g E (L.all l++rest).toArray) (k j:Nat) (x:α) (u:Value) (hk:k<l.length) (hj:j<L.sz) (he:L.enc x=(L.enc l[k]).set j u):
 Blk (w.setCell ⟨g,k*L.sz+j,none⟩ u) g E (L.all (l.set k x)++rest).toArray:=by
 have hl:=L.all_len l;have h2:k*L.sz+L.sz<=l.length*L.sz:=by
  have:(k+1)*L.sz<=l.length*L.sz:=Nat.mul_le_mul_right _ hk;rw[Nat.add_mul]at this;omega
 have a:=h.set_ (k*L.sz+j) u;have e:(L.all l++rest).toArray.setIfInBounds (k*L.sz+j) u=(L.all (l.set k x)++rest).toArray:=by
  apply Array.ext';rw[Array.toList_setIfInBounds,ztu L l k j x u hk hj he];exact List.set_append_left _ _ (by omega)
 rw[e]at a;exact a
theorem znf {w:World} {g:Nat} {l:List NV} {rest:List Value} (h:Blk w g 40 (nodeL.all l++rest).toArray) (k:Nat) (hk:k<l.length) (x:NV):
 Blk (((((w.setCell ⟨g,k*5,none⟩ (.int .i64 x.kind)).setCell ⟨g,k*5+1,none⟩ (.string ⟨x.text.toArray⟩)).setCell ⟨g,k*5+2,none⟩ (.bool x.ord)).setCell ⟨g,k*5+3,none⟩ x.k.v).setCell ⟨g,k*5+4,none⟩ x.i.v) g 40 (nodeL.all (l.set k x)++rest).toArray:=by
 obtain⟨y,e⟩:=ex (l[k])
 have d:=zce nodeL h k 0 ⟨x.kind,y.text,y.ord,y.k,y.i⟩ (.int .i64 x.kind) hk (by decide) (by rw[e];rfl);have b:=zce nodeL d k 1 ⟨x.kind,x.text,y.ord,y.k,y.i⟩ (.string ⟨x.text.toArray⟩) (by simpa using hk) (by decide) (by rw[List.getElem_set_self];rfl);have c:=zce nodeL b k 2 ⟨x.kind,x.text,x.ord,y.k,y.i⟩ (.bool x.ord) (by simpa using hk) (by decide) (by rw[List.getElem_set_self];rfl);have f:=zce nodeL c k 3 ⟨x.kind,x.text,x.ord,x.k,y.i⟩ x.k.v (by simpa using hk) (by decide) (by rw[List.getElem_set_self];rfl);have a:=zce nodeL f k 4 x x.i.v (by simpa using hk) (by decide) (by rw[List.getElem_set_self];rfl);simp only[List.set_set]at a;exact a
theorem zng {w:World} {g:Nat} {l:List NV} {rest:List Value} (h:Blk w g 40 (nodeL.all l++rest).toArray) (k:Nat) (hk:k<l.length) (i:SV):
 Blk (w.setCell ⟨g,k*5+4,none⟩ i.v) g 40 (nodeL.all (l.set k {l[k]with i:=i})++rest).toArray:=
 zce nodeL h k 4 {l[k]with i:=i} i.v hk (by decide) rfl
theorem znh {w:World} {g:Nat} {l:List NV} {rest:List Value} (h:Blk w g 40 (nodeL.all l++rest).toArray) (k:Nat) (hk:k<l.length) (i:SV):
 Blk (w.setCell ⟨g,k*5+3,none⟩ i.v) g 40 (nodeL.all (l.set k {l[k]with k:=i})++rest).toArray:=
 zce nodeL h k 3 {l[k]with k:=i} i.v hk (by decide) rfl
def ints (vs:List NV) (j:Nat) (b:Bool):SV:=match vs[j]? with
 |some x=>if b then x.i else x.k
 |none=>SV.nil
def intsOf (ns:List Gr.Nd) (j:Nat) (b:Bool):List Nat:=match ns[j]? with
 |some m=>if b then m.items else m.keys
 |none=>[]
structure Rows (B:Nat) (w:World) (vs:List NV) (ns:List Gr.Nd):Prop where
 len:vs.length=ns.length
 kind:∀j (h:j<vs.length) (h2:j<ns.length),vs[j].kind=ns[j].kind/\vs[j].text=ns[j].text/\vs[j].ord=ns[j].ord
 own:∀j b,OwnRow intL w B 3 (ints vs j b).v (intsOf ns j b)
 apart:∀j b j' b' g,(ints vs j b).v.ownBlock=some g->(ints vs j' b').v.ownBlock=some g->j=j'/\b=b'
theorem Rows.kept {B:Nat} {w w':World} {vs:List NV} {ns:List Gr.Nd} (h:Rows B w vs ns) (hk:KeptT 3 w w'):Rows B w' vs ns:=
 ⟨h.len,h.kind,fun j b=>(h.own j b).kept hk,h.apart⟩
theorem zi2 (vs:List NV) (x:NV) (j:Nat) (b:Bool):ints (vs++[x]) j b=if j=vs.length then(if b then x.i else x.k)else ints vs j b:=by
 unfold ints;by_cases hj:j<vs.length
 .grind
 .grind
theorem zj9 (ns:List Gr.Nd) (x:Gr.Nd) (j:Nat) (b:Bool):intsOf (ns++[x]) j b=if j=ns.length then(if b then x.items else x.keys)else intsOf ns j b:=by
 unfold intsOf;by_cases hj:j<ns.length
 .grind
 .grind
theorem Rows.snoc {B:Nat} {w:World} {vs:List NV} {ns:List Gr.Nd} (h:Rows B w vs ns) (x:NV) (m:Gr.Nd) (hx:x.kind=m.kind/\x.text=m.text/\x.ord=m.ord) (ok:OwnRow intL w B 3 x.k.v m.keys) (oi:OwnRow intL w B 3 x.i.v m.items)
 (hki:∀g,x.k.v.ownBlock=some g->x.i.v.ownBlock=some g->False) (hold:∀j b g,(ints vs j b).v.ownBlock=some g->x.k.v.ownBlock≠some g/\x.i.v.ownBlock≠some g):Rows B w (vs++[x]) (ns++[m]):=by
 have a:=h.len;refine⟨by simp[a],?_,?_,?_⟩
 .intro j d c;by_cases hj:j<vs.length
  .rw[List.getElem_append_left hj,List.getElem_append_left (by omega)];exact h.kind j hj (by omega)
  .grind
 .intro j b;rw[zi2,zj9,<-a];by_cases hj:j=vs.length
  .grind
  .rw[if_neg hj,if_neg hj];exact h.own j b
 .intro j b e f g d c;rw[zi2]at d c;by_cases hj:j=vs.length
  .grind
  .rw[if_neg hj]at d;by_cases hj':e=vs.length
   .grind
   .rw[if_neg hj']at c;exact h.apart j b e f g d c
theorem Rows.grow {B:Nat} {w w':World} {vs:List NV} {ns:List Gr.Nd} (h:Rows B w vs ns) (j:Nat) (b:Bool) (x:NV) (m:Gr.Nd) (hj:j<vs.length)
 (hx:x.kind=vs[j].kind/\x.text=vs[j].text/\x.ord=vs[j].ord) (hm:m.kind=(ns[j]'(by rw[<-h.len];exact hj)).kind/\m.text=(ns[j]'(by rw[<-h.len];exact hj)).text/\m.ord=(ns[j]'(by rw[<-h.len];exact hj)).ord)
 (hb:(if b then x.k else x.i)=ints vs j (!b)) (hbm:(if b then m.keys else m.items)=intsOf ns j (!b))
 (hown:OwnRow intL w' B 3 (if b then x.i else x.k).v (if b then m.items else m.keys)) (hg:w.grownBy w' (ints vs j b).v.ownBlock)
 (hat:(if b then x.i else x.k).v.ownBlock=(ints vs j b).v.ownBlock\/(if b then x.i else x.k).v.ownBlock=some w.heap.size):Rows B w' (vs.set j x) (ns.set j m):=by
 have d:=h.len;have f:j<ns.length:=by omega
 have e1:∀j' b',ints (vs.set j x) j' b'=if j'=j then(if b' then x.i else x.k)else ints vs j' b':=by
  intro j' b';unfold ints;by_cases he:j'=j
  .grind
  .grind
 have e2:∀j' b',intsOf (ns.set j m) j' b'=if j'=j then(if b' then m.items else m.keys)else intsOf ns j' b':=by
  intro j' b';unfold intsOf;by_cases he:j'=j
  .grind
  .grind
 have e:∀j' b',¬(j'=j/\b'=b)->ints (vs.set j x) j' b'=ints vs j' b'/\intsOf (ns.set j m) j' b'=intsOf ns j' b':=by
  grind
 refine⟨by simp[d],?_,?_,?_⟩
 .intro j' c a;by_cases he:j=j'
  .subst he;rw[List.getElem_set_self,List.getElem_set_self];have:=h.kind j hj f;exact⟨by rw[hx.1,hm.1,this.1],by rw[hx.2.1,hm.2.1,this.2.1],by rw[hx.2.2,hm.2.2,this.2.2]⟩
  .rw[List.getElem_set_ne he,List.getElem_set_ne he];exact h.kind j' (by simpa using c) (by simpa using a)
 .intro j' b';by_cases hc:j'=j/\b'=b
  .grind
  .rw[(e j' b' hc).1,(e j' b' hc).2];exact(h.own j' b').grown_other hg (fun g r s=>hc (h.apart j' b' j b g r s))
 .have hnew:∀j' b' g,¬(j'=j/\b'=b)->(ints vs j' b').v.ownBlock=some g->(if b then x.i else x.k).v.ownBlock=some g->False:=by
   intro j' b' g hc c a;rcases hat with h3|h3
   .rw[h3]at a;exact hc (h.apart j' b' j b g c a)
   .rw[h3]at a;injection a with a
    have:=(h.own j' b').lt g c;omega
  intro o q n p g c a;by_cases hc1:o=j/\q=b
  .grind
  .rw[(e o q hc1).1]at c;by_cases hc2:n=j/\p=b
   .grind
   .rw[(e n p hc2).1]at a;exact h.apart o q n p g c a
theorem Rows.later {B:Nat} {w w':World} {vs:List NV} {ns:List Gr.Nd} (h:Rows B w vs ns) (hb:Below w.heap.size w w'):Rows B w' vs ns:=h.kept (KeptT.later hb)
theorem Rows.nil (B:Nat) (w:World):Rows B w [] []:=
 ⟨rfl,fun j h=>by simp at h,fun j b=>by simp[ints,intsOf,SV.nil,SV.v];exact OwnRow.nil,fun j b j' b' g h=>by simp[ints,SV.nil,SV.v,Value.ownBlock]at h⟩
structure Tab (B:Nat) (w:World) (v:Value) (vs:List NV) (ns:List Gr.Nd):Prop where
 row:OwnRow nodeL w B 40 v vs
 rows:Rows B w vs ns
theorem Tab.later {B:Nat} {w w':World} {v:Value} {vs:List NV} {ns:List Gr.Nd} (h:Tab B w v vs ns) (hb:Below w.heap.size w w'):Tab B w' v vs ns:=⟨h.row.later hb,h.rows.later hb⟩
theorem SV.row {w:World} {B:Nat} {x:SV} {l:List Nat} (h:OwnRow intL w B 3 x.v l):RowAt intL w w.heap.size x.a l/\x.n=l.length:=by
 obtain⟨A,c,b,d⟩:=h.form;unfold SV.v at b;injection b with e1 e2 e3
 subst e1;exact⟨d,e2⟩
theorem Tab.at_ {B:Nat} {w:World} {v:Value} {vs:List NV} {ns:List Gr.Nd} (h:Tab B w v vs ns):∃A c,v=.slice A ns.length c/\GAt w w.heap.size A vs ns:=by
 obtain⟨A,c,g,f⟩:=h.row.form;refine⟨A,c,by rw[g,h.rows.len],f,h.rows.len,h.rows.kind,fun j e d=>?_⟩;have o:(ints vs j false)=vs[j].k:=by unfold ints;rw[List.getElem?_eq_getElem e];rfl
 have m:(ints vs j true)=vs[j].i:=by unfold ints;rw[List.getElem?_eq_getElem e];rfl
 have p:(intsOf ns j false)=ns[j].keys:=by unfold intsOf;rw[List.getElem?_eq_getElem d];rfl
 have n:(intsOf ns j true)=ns[j].items:=by unfold intsOf;rw[List.getElem?_eq_getElem d];rfl
 have a:=h.rows.own j false;have b:=h.rows.own j true;rw[o,p]at a;rw[m,n]at b;exact⟨(SV.row a).1,(SV.row a).2,(SV.row b).1,(SV.row b).2⟩
namespace Gr
def dupS:List Str->Bool
 | []=>false
 |x::l=>l.any (fun y=>y==x) || dupS l
def rtwice (ns:List Nd) (f:Nat):Bool:=ns.any (fun x=>dupS (x.keys.map (printF ns f)))
theorem zd1 (l:List Str):dupS l=false↔l.Nodup:=by
 induction l with
 |nil=>simp[dupS]
 |cons x l ih=>
  unfold dupS;rw[Bool.or_eq_false_iff,ih,List.nodup_cons];constructor
  .grind
  .grind
theorem zfh {α:Type} [DecidableEq α]:∀(l m:List α),l.Nodup->(∀x∈l,x∈m)->m.length<=l.length->l.Perm m:=by
 intro l
 induction l with
 |nil=>intro m _ _ d;cases m with
  |nil=>exact .refl _
  |cons=>simp at d
 |cons a l ih=>
  intro m c g d;rw[List.nodup_cons]at c;have j:=g a (.head _);have h:=List.perm_cons_erase j;have b:=h.length_eq;rw[List.length_cons]at b;refine((ih (m.erase a) c.2 (fun x i=>?_) (by rw[List.length_cons]at d;omega)).cons a).trans h.symm;have f:=g x (.tail _ i);exact(List.mem_erase_of_ne (fun e=>c.1 (by rw[<-e];exact i))).2 f
section
variable {ns:List Nd}
theorem zm6 (hok:NodesOk ns) (hr:Refs ns):∀(f g i:Nat),TOk ns f i->TOk ns g i->printF ns f i=printF ns g i:=by
 intro f
 induction f with
 |zero=>intro g i a;exact absurd a.tall id
 |succ f ih=>
  intro g i a d;cases g with
  |zero=>exact absurd d.tall id
  |succ g=>
   rw[zam (List.getElem?_eq_getElem a.lt),zam (List.getElem?_eq_getElem a.lt)];have j:ents ns f (ns[i]'a.lt)=ents ns g (ns[i]'a.lt):=by
    have s1:succ ns i=(ns[i]'a.lt).keys++(ns[i]'a.lt).items:=by unfold succ;rw[List.getElem?_eq_getElem a.lt]
    have k1:=hok _ (List.getElem_mem a.lt);have e:∀x∈succ ns i,printF ns f x=printF ns g x:=fun x c=>ih g x ⟨hr.succ i x c,a.tall x c⟩ ⟨hr.succ i x c,d.tall x c⟩
    rw[s1]at e;generalize ns[i]'a.lt=x at *;unfold ents;apply List.map_congr_left;intro k l;have b:=List.mem_range.1 l;have h:=e (x.items.getD k 0) (List.mem_append_right _ (by rw[List.getD_eq_getElem?_getD,List.getElem?_eq_getElem b];exact List.getElem_mem b));by_cases h10:x.kind=10
    .grind
    .rw[if_neg h10,if_neg h10,h]
   unfold entS;rw[j]
theorem za3 {l:List Nat} {k:Nat} (h:k<l.length):l.getD k 0=l[k]:=by rw[List.getD_eq_getElem?_getD,List.getElem?_eq_getElem h];rfl
theorem zhd (hok:NodesOk ns) (hr:Refs ns) (F:Nat) (hF:∀k∈allKeys ns,TOk ns F k) (hd:∀x∈ns,(x.keys.map (printF ns F)).Nodup):∀(f i j:Nat),TOk ns f i->TOk ns f j->sameF ns f i j=true->printF ns f i=printF ns f j:=by
 intro f
 induction f with
 |zero=>intro i j m;exact absurd m.tall id
 |succ f ih=>
  intro i j m o h;have g:∀x∈succ ns i,TOk ns f x:=fun x w=>⟨hr.succ i x w,m.tall x w⟩
  have n:∀x∈succ ns j,TOk ns f x:=fun x w=>⟨hr.succ j x w,o.tall x w⟩
  have s1:succ ns i=(ns[i]'m.lt).keys++(ns[i]'m.lt).items:=by unfold succ;rw[List.getElem?_eq_getElem m.lt]
  have s2:succ ns j=(ns[j]'o.lt).keys++(ns[j]'o.lt).items:=by unfold succ;rw[List.getElem?_eq_getElem o.lt]
  have R:=hok _ (List.getElem_mem m.lt);have O:=hok _ (List.getElem_mem o.lt);have Q:=hd _ (List.getElem_mem m.lt);have M:∀k∈(ns[i]'m.lt).keys,printF ns F k=printF ns f k:=fun k t=>by
   refine zm6 hok hr F f k (hF k (List.mem_flatMap.2 ⟨_,List.getElem_mem m.lt,t⟩)) (g k ?_);rw[s1];exact List.mem_append_left _ t
  rw[s1]at g;rw[s2]at n;unfold sameF at h;rw[List.getElem?_eq_getElem m.lt,List.getElem?_eq_getElem o.lt]at h;rw[zam (List.getElem?_eq_getElem m.lt),zam (List.getElem?_eq_getElem o.lt)];generalize ns[i]'m.lt=x at *;generalize ns[j]'o.lt=y at *;simp only at h;split at h
  .cases h
  .rename_i hne;have a:x.kind=y.kind:=Decidable.by_contra fun e=>hne (.inl e)
   have b:x.text=y.text:=Decidable.by_contra fun e=>hne (.inr (.inl e))
   have c:x.ord=y.ord:=Decidable.by_contra fun e=>hne (.inr (.inr (.inl e)))
   have d:x.items.length=y.items.length:=Decidable.by_contra fun e=>hne (.inr (.inr (.inr e)))
   have D:entS ns f x=entS ns f y:=by
    unfold entS;split at h
    .rename_i hm;rw[if_pos hm,if_pos ⟨a▸hm.1,c▸hm.2⟩];apply ztp;have lx:=R.2.2 hm.1;have ly:=O.2.2 (a▸hm.1);refine zfh _ _ ?_ ?_ (by simp[ents,d])
     .unfold ents;simp only[if_pos hm.1];unfold List.Nodup;rw[List.pairwise_map];have r:=Q;unfold List.Nodup at r;rw[List.pairwise_map,List.pairwise_iff_getElem]at r;rw[List.pairwise_iff_getElem];intro p q N P H D;have hpl:p<x.items.length:=by simpa using N
      have hql:q<x.items.length:=by simpa using P
      rw[List.getElem_range,List.getElem_range]at D;have T:TOk ns f (x.keys.getD p 0):=g _ (List.mem_append_left _ (by rw[za3 (by omega)];exact List.getElem_mem _));have U:TOk ns f (x.keys.getD q 0):=g _ (List.mem_append_left _ (by rw[za3 (by omega)];exact List.getElem_mem _));have K:TOk ns f (x.items.getD p 0):=g _ (List.mem_append_right _ (by rw[za3 (by omega)];exact List.getElem_mem _));have J:TOk ns f (x.items.getD q 0):=g _ (List.mem_append_right _ (by rw[za3 (by omega)];exact List.getElem_mem _));obtain⟨G,_⟩:=zda hok hr f _ f _ _ _ T U (by simpa using(za0 hok K []).1) (by simpa using(za0 hok J []).1) D;rw[za3 (by omega),za3 (by omega)]at G;have C:=r p q (by omega) (by omega) H;apply C;rw[M _ (List.getElem_mem _),M _ (List.getElem_mem _)];exact G
     .intro e z;unfold ents at z ⊢;obtain⟨k,t,rfl⟩:=List.mem_map.1 z;have s:=List.mem_range.1 t;rw[List.all_eq_true]at h;have B:=h (x.keys[k],x.items[k]) (List.mem_iff_getElem.2 ⟨k,by rw[List.length_zip];omega,by rw[List.getElem_zip]⟩);rw[List.any_eq_true]at B;obtain⟨⟨u,v⟩,I,E⟩:=B;obtain⟨l,S,A⟩:=List.mem_iff_getElem.1 I;rw[List.length_zip]at S;rw[List.getElem_zip]at A;injection A with hu hv
      rw[Bool.and_eq_true]at E;simp only at E;have G:=ih _ _ (g _ (List.mem_append_left _ (List.getElem_mem _))) (n u (List.mem_append_left _ (by rw[<-hu];exact List.getElem_mem _))) E.1;have L:=ih _ _ (g _ (List.mem_append_right _ (List.getElem_mem _))) (n v (List.mem_append_right _ (by rw[<-hv];exact List.getElem_mem _))) E.2;refine List.mem_map.2 ⟨l,List.mem_range.2 (by omega),?_⟩;rw[if_pos hm.1,if_pos (a▸hm.1),za3 (by omega),za3 (by omega),za3 (by omega),za3 (by omega),hu,hv,G,L]
    .rename_i hm;rw[if_neg hm,if_neg (by rw[<-a,<-c];exact hm)];unfold ents;rw[<-d];apply List.map_congr_left;intro k t;have s:=List.mem_range.1 t;rw[List.all_eq_true]at h;have B:=h k t;rw[Bool.and_eq_true,Bool.or_eq_true]at B;have L:=ih _ _ (g _ (List.mem_append_right _ (by rw[za3 s];exact List.getElem_mem _))) (n _ (List.mem_append_right _ (by rw[za3 (d▸s)];exact List.getElem_mem _))) B.2;by_cases h10:x.kind=10
     .grind
     .grind
   rw[a,b,c,d,D]
theorem zhe (hok:NodesOk ns) (hr:Refs ns) (F:Nat):∀L:List Nat,(∀k∈L,TOk ns F k)->dupS (L.map (printF ns F))=true->twice1 ns F L=true:=by
 intro L
 induction L with
 |nil=>intro _ h;cases h
 |cons x l ih=>
  intro a h;rw[List.map_cons]at h;unfold dupS at h;unfold twice1;rw[Bool.or_eq_true]at h ⊢;rcases h with h|h
  .left;rw[List.any_eq_true]at h ⊢;obtain⟨s,c,d⟩:=h;obtain⟨y,b,rfl⟩:=List.mem_map.1 c;exact⟨y,b,zhc hok hr F y x (a y (.tail _ b)) (a x (.head _)) (by simpa using d)⟩
  .grind
theorem zqu (F:Nat):∀L:List Nat,(∀a∈L,∀b∈L,sameF ns F a b=true->printF ns F a=printF ns F b)->dupS (L.map (printF ns F))=false->twice1 ns F L=false:=by
 intro L
 induction L with
 |nil=>intro _ _;rfl
 |cons x l ih=>
  intro c h;rw[List.map_cons]at h;unfold dupS at h;unfold twice1;rw[Bool.or_eq_false_iff]at h ⊢;refine⟨?_,ih (fun a g b f=>c a (.tail _ g) b (.tail _ f)) h.2⟩;rw[List.any_eq_false];intro y e i;have j:=c y (.tail _ e) x (.head _) i;have d:=h.1;rw[List.any_eq_false]at d;exact d _ (List.mem_map.2 ⟨y,e,rfl⟩) (by simp[j])
theorem zld (hok:NodesOk ns) (hr:Refs ns) (F:Nat) (hF:∀k∈allKeys ns,TOk ns F k):twice ns F=rtwice ns F:=by
 have e:∀x∈ns,∀k∈x.keys,TOk ns F k:=fun x c k e=>hF k (List.mem_flatMap.2 ⟨x,c,e⟩)
 cases h:rtwice ns F with
 |true=>
  unfold rtwice at h;obtain⟨x,c,l⟩:=List.any_eq_true.1 h;unfold twice;exact List.any_eq_true.2 ⟨x,c,zhe hok hr F _ (e x c) l⟩
 |false=>
  unfold rtwice at h;have d:∀x∈ns,dupS (x.keys.map (printF ns F))=false:=fun x c=>by simpa using List.any_eq_false.1 h x c
  unfold twice;rw[List.any_eq_false];intro x c;rw[Bool.not_eq_true];exact zqu F _ (fun a j b f g=>zhd hok hr F hF (fun z i=>(zd1 _).1 (d z i)) F a b (e x c a j) (e x c b f) g) (d x c)
end
end Gr
namespace Gr
def rform (sclr:Int->Str->Bool) (n:Nat) (x:Ni):Bool:=
 if(x.items.all (inR n) && x.keys.all (inR n))=false then false
 else if x.kind≠10/\(x.ord=true\/0<x.keys.length)then false
 else if x.kind=9 then x.text.isEmpty
 else if x.kind=10 then x.text.isEmpty && decide (x.keys.length=x.items.length)
 else if x.kind=11 then decide (x.items.length=1) && nameB x.text
 else decide (x.items.length=0) && sclr x.kind x.text
def rnode (ns:List Nd) (root i:Nat):Bool:=mkd (marks ns root) i && !(mkd (inKeys ns) i && (counts ns root).getD i 0 != 1)
def rwell (sclr:Int->Str->Bool) (is:List Ni) (root:Int):Bool:=
 if is.length=0\/inR is.length root=false then false
 else if is.all (rform sclr is.length)=false then false
 else(List.range is.length).all (rnode (is.map Ni.nd) root.toNat)
def rcheck (sclr:Int->Str->Bool) (is:List Ni) (root:Int):Nat:=
 if is.length>4096 then 7 else if rwell sclr is root=false then 3 else if rtwice (is.map Ni.nd) is.length=true then 8 else if(depth (is.map Ni.nd) root.toNat).1>32 then 5 else 0
theorem zj6 {α:Type} (l:List α):l.isEmpty=decide (l.length=0):=by cases l<;>rfl
theorem zhf (sclr:Int->Str->Bool) (n:Nat) (x:Ni) (h:rng n x=true):rform sclr n x=formB sclr x.nd:=by
 have d:(x.items.all (inR n) && x.keys.all (inR n))=true:=by
  unfold rng at h;rw[List.all_append,Bool.and_eq_true]at h;rw[h.1,h.2];rfl
 obtain⟨a,text,c,b,items⟩:=x;unfold rform formB Ni.nd;simp only at d ⊢;rw[d,if_neg (by decide)];simp only[zj6,List.length_map];by_cases h9:a=9
 .grind
 .rw[if_neg h9,if_neg h9];by_cases h10:a=10
  .grind
  .rw[if_neg h10,if_neg h10];have e:(a≠10/\(c=true\/0<b.length))↔((!c && decide (b.length=0))=false):=by
    grind
   by_cases h11:a=11
   .grind
   .grind
theorem zfi {sclr:Int->Str->Bool} {n:Nat} {x:Ni} (h:rform sclr n x=true):rng n x=true:=by
 unfold rform at h;split at h
 .cases h
 .rename_i hc;rw[Bool.not_eq_false,Bool.and_eq_true]at hc;unfold rng;rw[List.all_append,hc.1,hc.2];rfl
theorem zm8 {α β:Type} (f:α->β) (p:β->Bool) (l:List α):(l.map f).all p=l.all (fun x=>p (f x)):=by
 grind
theorem zi0 {sclr:Int->Str->Bool} (hs:∀k t,sclr k t=true->0<=k/\k<=8) {x:Nd} (h:formB sclr x=true):0<=x.kind/\x.kind<=11/\(x.kind=10->x.keys.length=x.items.length):=by
 unfold formB at h;split at h
 .omega
 .grind
theorem zqx (ns:List Nd):∀f i,Tall ns f i->Tall' ns f i:=by
 intro f
 induction f with
 |zero=>intro i h;exact h
 |succ f ih=>intro i h x a;exact ih x (h x a)
theorem zfx (ns:List Nd) (p:Nat->Bool) (q:Nd->Bool):(List.range ns.length).all (fun i=>p i && q (ns.getD i ⟨0,[],false,[],[]⟩))=(ns.all q && (List.range ns.length).all p):=by
 rw[Bool.eq_iff_iff,Bool.and_eq_true,List.all_eq_true,List.all_eq_true,List.all_eq_true];constructor
 .intro h;refine⟨fun x b=>?_,fun i a=>?_⟩
  .obtain⟨i,a,rfl⟩:=List.mem_iff_getElem.1 b;have:=h i (List.mem_range.2 a);rw[Bool.and_eq_true,List.getD_eq_getElem?_getD,List.getElem?_eq_getElem a]at this;exact this.2
  .grind
 .grind
theorem zfj (sclr:Int->Str->Bool) (hs:∀k t,sclr k t=true->0<=k/\k<=8) (is:List Ni) (root:Int):rcheck sclr is root=checkI sclr is root:=by
 unfold rcheck checkI;by_cases h1:is.length>4096
 .rw[if_pos h1,if_pos h1]
 .rw[if_neg h1,if_neg h1];by_cases h2:is.length=0\/inR is.length root=false
  .rw[if_pos (show rwell sclr is root=false by unfold rwell;rw[if_pos h2]),if_pos];rcases h2 with h2|h2
   .exact .inl h2
   .right;unfold indB;rw[h2];rfl
  .have c:inR is.length root=true:=by
    grind
   by_cases h3:is.all (rng is.length)=true
   .have g:indB is root=true:=by unfold indB;rw[c,h3];rfl
    rw[if_neg (show¬(is.length=0\/indB is root=false) by rintro(h|h);exact h2 (.inl h);rw[g]at h;cases h)];obtain⟨_,f⟩:=zbl h3;have l:(is.map Ni.nd).length=is.length:=by simp
    have o:root.toNat<(is.map Ni.nd).length:=by
     rw[l];unfold inR at c;rw[Bool.and_eq_true,decide_eq_true_eq,decide_eq_true_eq]at c;omega
    have e:is.all (rform sclr is.length)=(is.map Ni.nd).all (formB sclr):=by
     rw[zm8,Bool.eq_iff_iff,List.all_eq_true,List.all_eq_true];constructor
     .intro h x d;rw[<-zhf sclr is.length x (List.all_eq_true.1 h3 x d)];exact h x d
     .intro h x d;rw[zhf sclr is.length x (List.all_eq_true.1 h3 x d)];exact h x d
    have r:rwell sclr is root=((is.map Ni.nd).all (formB sclr) && (List.range is.length).all (rnode (is.map Ni.nd) root.toNat)):=by
     unfold rwell;rw[if_neg h2,e];by_cases hf:(is.map Ni.nd).all (formB sclr)=false
     .rw[if_pos hf,hf];rfl
     .grind
    rw[r];clear r e h2;generalize hns:is.map Ni.nd=ns at *;rw[<-l];unfold checkN;rw[zfx];have j:(List.range ns.length).all (rnode ns root.toNat)=((List.range ns.length).all (fun i=>(marks ns root.toNat).getD i false) && !(List.range ns.length).any (fun i=>(inKeys ns).getD i false && (counts ns root.toNat).getD i 0 != 1)):=by
     rw[Bool.eq_iff_iff,Bool.and_eq_true,List.all_eq_true,List.all_eq_true,Bool.not_eq_true',List.any_eq_false];constructor
     .intro h;refine⟨fun i g=>?_,fun i g=>?_⟩
      .have:=h i g;unfold rnode at this;rw[Bool.and_eq_true]at this;exact this.1
      .have:=h i g;unfold rnode at this;rw[Bool.and_eq_true,Bool.not_eq_true']at this;rw[Bool.not_eq_true];exact this.2
     .rintro⟨a,b⟩ i g;unfold rnode;rw[Bool.and_eq_true,Bool.not_eq_true',<-Bool.not_eq_true];exact⟨a i g,b i g⟩
    rw[j];by_cases hf:ns.all (formB sclr)=true
    .rw[hf,Bool.true_and,Bool.true_and];by_cases hm:(List.range ns.length).all (fun i=>(marks ns root.toNat).getD i false)=true
     .rw[hm,Bool.true_and];by_cases hk:(List.range ns.length).any (fun i=>(inKeys ns).getD i false && (counts ns root.toNat).getD i 0 != 1)=true
      .rw[hk];simp
      .rw[Bool.not_eq_true]at hk;rw[hk];simp only[Bool.not_false,Bool.true_eq_false,if_false,Bool.false_eq_true,not_true];have m:∀v,v<ns.length->Reach (succ ns) root.toNat v:=fun v s=>(zbb f o v).1 (List.all_eq_true.1 hm v (List.mem_range.2 s))
       have n:∀x,x<ns.length->mkd (inKeys ns) x=true->(counts ns root.toNat).getD x 0=1:=by
        intro x d p;have:=List.any_eq_false.1 hk x (List.mem_range.2 d);unfold mkd at p;rw[p,Bool.true_and]at this;simpa using this
       have q:NodesOk ns:=fun x d=>zi0 hs (List.all_eq_true.1 hf x d)
       have u:∀k∈allKeys ns,TOk ns ns.length k:=fun k hk=>by
        obtain⟨a,b⟩:=ze5 f o m n k hk;exact⟨a,zqx ns _ _ b⟩
       rw[zld q f ns.length u]
     .grind
    .grind
   .have g:indB is root=false:=by
     rw[Bool.not_eq_true]at h3;unfold indB;rw[h3,Bool.and_false]
    rw[if_pos (show is.length=0\/indB is root=false from .inr g),if_pos];unfold rwell;rw[if_neg h2,if_pos];rw[<-Bool.not_eq_true];intro h;apply h3;rw[List.all_eq_true]at h ⊢;exact fun x d=>zfi (h x d)
end Gr
open Gr
open _root_.Go.Lib (hid)
theorem zla {sat:Nat} {neg:Bool} {d:List Nat} {e:Int} {s:Gr.Str} {x:Gr.Dn} (h:expS sat neg d e s=some x):x.d.length<=d.length:=by
 unfold expS at h;split at h
 .injection h with h;subst h;exact(zjn _ _ _).1
 .split at h
  .split at h
   .cases h
   .injection h with h;subst h;exact(zjn _ _ _).1
  .cases h
theorem zlb {sat:Nat} {neg:Bool} {s:Gr.Str} {x:Gr.Dn} (h:numT sat neg s=some x):x.d.length<=s.length:=by
 have a:=List.takeWhile_append_dropWhile (p:=Gr.dig) (l:=s);have h1:(s.takeWhile Gr.dig).length+(s.dropWhile Gr.dig).length=s.length:=by
  rw[<-List.length_append,a]
 have h2:((s.dropWhile Gr.dig).tail.takeWhile Gr.dig).length<=(s.dropWhile Gr.dig).length:=Nat.le_trans (List.takeWhile_sublist Gr.dig).length_le (by rw[List.length_tail];omega);unfold numT at h;split at h
 .cases h
 .split at h
  .split at h
   .cases h
   .have:=zla h;rw[zba,List.length_append]at this;omega
  .have:=zla h;rw[zba]at this;omega
theorem zth {sat:Nat} {s:Gr.Str} {x:Gr.Dn} (h:numS sat s=some x):x.d.length<=s.length:=by
 unfold numS at h;split at h
 .have:=zlb h;rw[List.length_tail]at this;omega
 .exact zlb h
def zb7 (b:Bool) (w:World) (e:Ending) (w':World):Prop:=∃(n:Bool) (A:Option Addr) (l c:Nat) (x:Int),e=.returned (.tuple #[.agg #[.bool n,.slice A l c,.int .i64 x],.bool b])/\Below w.heap.size w w'
theorem zqj (a b:Gr.Str):(a != b)=!decide (a=b):=by
 rw[bne]
 congr 1
 rw[Bool.eq_iff_iff];simp
theorem zqk (s:Gr.Str) (hl:s.length<=268435455) (w:World):
 Calls prog 89 #[.string ⟨s.toArray⟩] w (zb7 (readR s).isSome w):=by
 have Y:=hid (fun W=>zim s hl W);cases ho:numS 1000000 s with
 |none=>
  have Q:Hid ((readR s).isSome=false):=hid (by unfold readR;rw[ho];rfl);rw[ho]at Y;clear ho;go_enter func89,ntmps89;go_upto_region 1 with fail;obtain⟨N,l⟩:=ex (w.alloc (.cells #[.bool false,.slice none 0 0,.int .i64 0] 134))
  obtain⟨a,g⟩:=ex w.heap.size
  have k:Hid (Blk N a 134 #[.bool false,.slice none 0 0,.int .i64 0]/\Below a w N):=hid (by rw[<-l,<-g];exact⟨Blk.new _ _ _,(Below.refl _ _).alloc (Nat.le_refl _) _⟩);have q:=hid g;(try rw[l]);(try rw[g]);clear l g;go_wp2_with fail;refine(Y.out _).mono ?_;rintro e B ⟨x,v,rfl,⟨A,c,rfl,z⟩,X,D⟩;have n:Hid (Blk B a 134 #[.bool false,.slice none 0 0,.int .i64 0]/\Below a w B):=hid ⟨k.out.1.below D k.out.1.lt,k.out.2.trans (D.mono (Nat.le_of_lt k.out.1.lt))⟩;clear z X D;simp only[Option.isSome_none];have p0:∀j,B.frozen? ⟨a,j,none⟩=false:=n.out.1.frozen;obtain⟨P,K,R⟩:=cells3 n.out.1;have hlt:a<B.heap.size:=n.out.1.lt;go_wp2_with fail;have b:=(((n.out.1.set_ 0 (.bool false)).set_ 1 (.slice none 0 0)).set_ 2 (.int .i64 0)).alloc (.cells #[.bool x.neg,.slice A x.d.length c,.int .i64 x.e] 134);have e0:=b.cell 0;have e1:=b.cell 1;have e2:=b.cell 2;refine bodyPost_ret (v:=.tuple #[.agg #[.bool false,.slice none 0 0,.int .i64 0],.bool false]) (by rw[results_cell_tmp rfl];go_simp) rfl ?_;unfold zb7;rw[q.out,Q.out];exact⟨_,_,_,_,_,rfl,(((n.out.2.setCell (p:=⟨a,0,none⟩) (by simp) _).setCell (p:=⟨a,1,none⟩) (by simp) _).setCell (p:=⟨a,2,none⟩) (by simp) _).alloc (by have:=n.out.1.lt;simp;omega) _⟩
 |some y=>
  have V:=zoc ho;have M:=zth ho;have HY:Hid (Gr.Wf y/\y.d.length<=s.length):=hid ⟨V,M⟩;have E:Hid (readR s=if lim y=0/\Gr.text y=s then some y else none):=hid (by unfold readR;rw[ho]);rw[ho]at Y;clear ho V M;obtain⟨r,hr⟩:=ex ((readR s).isSome)
  have Q:=hid hr;rw[hr];clear hr;have C:=hid (fun(A:Option Addr) (c:Nat) (W:World)=>zms y A c (by have:=HY.out.2;omega) W);have U:=hid (fun(A:Option Addr) (c:Nat) (W:World) (h0:lim y=0) (hrow:RowAt intL W W.heap.size A y.d)=>zqd y A c (by have:=HY.out.2;omega) HY.out.1.lt (by have:=zei h0;omega) (by have:=zei h0;omega) W hrow);obtain⟨L,hL⟩:∃L:Int,((lim y:Nat):Int)=L:=⟨_,rfl⟩
  have HL:=hid hL;rw[hL]at C;clear hL;go_enter func89,ntmps89;go_upto_region 1 with fail;obtain⟨N,l⟩:=ex (w.alloc (.cells #[.bool false,.slice none 0 0,.int .i64 0] 134))
  obtain⟨a,g⟩:=ex w.heap.size
  have k:Hid (Blk N a 134 #[.bool false,.slice none 0 0,.int .i64 0]/\Below a w N):=hid (by rw[<-l,<-g];exact⟨Blk.new _ _ _,(Below.refl _ _).alloc (Nat.le_refl _) _⟩);have q:=hid g;(try rw[l]);(try rw[g]);clear l g;go_wp2_with fail;refine(Y.out _).mono ?_;rintro e B ⟨x,v,rfl,⟨A,c,rfl,z⟩,X,D⟩;obtain rfl:=X y rfl;obtain⟨A',c',ab,t⟩:=z.form;injection ab with ea en ec
  subst ea ec;simp only[Option.isSome_some];obtain⟨H,F⟩:∃H,H=B.alloc (.cells #[.bool x.neg,.slice A x.d.length c,.int .i64 x.e] 134):=⟨_,rfl⟩
  obtain⟨T,G⟩:=ex B.heap.size
  have i:Hid (Blk H a 134 #[.bool false,.slice none 0 0,.int .i64 0]/\Below a w H/\Blk H T 134 #[.bool x.neg,.slice A x.d.length c,.int .i64 x.e]/\a<T/\RowAt intL H H.heap.size A x.d):=hid (by
   have h1:=k.out.1.below D k.out.1.lt;have h2:Below a w B:=k.out.2.trans (D.mono (Nat.le_of_lt k.out.1.lt));rw[F,<-G];refine⟨h1.alloc _,h2.alloc (Nat.le_of_lt h1.lt) _,Blk.new _ _ _,h1.lt,?_⟩;exact(t.below ((Below.refl _ _).alloc (Nat.le_refl _) _)).more (by simp))
  clear z X D t;go_upto_region 2 with fail;(try rw[<-F]);(try rw[G]);clear F G;obtain⟨P,K,R⟩:=cells3 i.out.2.2.1;go_wp2_with fail;refine(C.out _ _ _).mono ?_;rintro e J ⟨rfl,o⟩;have f:Hid (Blk J a 134 #[.bool false,.slice none 0 0,.int .i64 0]/\Below a w J/\Blk J T 134 #[.bool x.neg,.slice A x.d.length c,.int .i64 x.e]/\a<T/\RowAt intL J J.heap.size A x.d):=hid ⟨i.out.1.below o i.out.1.lt,i.out.2.1.trans (o.mono (Nat.le_of_lt i.out.1.lt)),i.out.2.2.1.below o i.out.2.2.1.lt,i.out.2.2.2.1,(i.out.2.2.2.2.below o).more o.size⟩;clear o P K R;obtain⟨P,K,R⟩:=cells3 f.out.2.2.1;by_cases hL0:L=0
  .subst hL0;have HS:=hid (fun W=>U.out A c W (by have:=HL.out;omega));go_wp2_with fail;refine(HS.out _ f.out.2.2.2.2).mono ?_;rintro e Z ⟨rfl,u⟩;have m:Hid (Blk Z a 134 #[.bool false,.slice none 0 0,.int .i64 0]/\Below a w Z/\Blk Z T 134 #[.bool x.neg,.slice A x.d.length c,.int .i64 x.e]):=hid ⟨f.out.1.below u f.out.1.lt,f.out.2.1.trans (u.mono (Nat.le_of_lt f.out.1.lt)),f.out.2.2.1.below u f.out.2.2.1.lt⟩;clear u P K R;obtain⟨P,K,R⟩:=cells3 m.out.2.2;have p0:∀j,Z.frozen? ⟨a,j,none⟩=false:=m.out.1.frozen;obtain⟨k0,k1,k2⟩:=cells3 m.out.1;by_cases ht:Gr.text x=s
   .have S:(Gr.text x==s)=true:=by rw[beq_iff_eq];exact ht
    have I:(Gr.text x != s)=false:=by rw[zqj,decide_eq_true ht];rfl
    have O:Hid (r=true):=hid (by rw[<-Q.out,E.out,if_pos ⟨by have:=HL.out;omega,ht⟩];rfl);clear ht;go_wp2_with fail;have b:=((m.out.1.set_ 0 (.bool x.neg)).set_ 1 (.slice A x.d.length c)).set_ 2 (.int .i64 x.e);have e0:=b.cell 0;have e1:=b.cell 1;have e2:=b.cell 2;refine bodyPost_ret (v:=.tuple #[.agg #[.bool x.neg,.slice A x.d.length c,.int .i64 x.e],.bool true]) (by rw[results_cell_tmp rfl];go_simp) rfl ?_;unfold zb7;rw[q.out,O.out];exact⟨_,_,_,_,_,rfl,((m.out.2.1.setCell (p:=⟨a,0,none⟩) (by simp) _).setCell (p:=⟨a,1,none⟩) (by simp) _).setCell (p:=⟨a,2,none⟩) (by simp) _⟩
   .have S:(Gr.text x==s)=false:=by rw[beq_eq_false_iff_ne];exact ht
    have I:(Gr.text x != s)=true:=by rw[zqj,decide_eq_false ht];rfl
    have O:Hid (r=false):=hid (by rw[<-Q.out,E.out,if_neg (fun h=>ht h.2)];rfl);clear ht;go_wp2_with fail;have b:=((m.out.1.set_ 0 (.bool false)).set_ 1 (.slice none 0 0)).set_ 2 (.int .i64 0);have e0:=b.cell 0;have e1:=b.cell 1;have e2:=b.cell 2;refine bodyPost_ret (v:=.tuple #[.agg #[.bool false,.slice none 0 0,.int .i64 0],.bool false]) (by rw[results_cell_tmp rfl];go_simp) rfl ?_;unfold zb7;rw[q.out,O.out];exact⟨_,_,_,_,_,rfl,((m.out.2.1.setCell (p:=⟨a,0,none⟩) (by simp) _).setCell (p:=⟨a,1,none⟩) (by simp) _).setCell (p:=⟨a,2,none⟩) (by simp) _⟩
  .have aa:(L==0)=false:=by simpa using hL0
   have hz1:(L != 0)=true:=by rw[bne,aa];rfl
   have O:Hid (r=false):=hid (by rw[<-Q.out,E.out,if_neg (fun h=>hL0 (by have:=HL.out;omega))];rfl);have p0:∀j,J.frozen? ⟨a,j,none⟩=false:=f.out.1.frozen;obtain⟨k0,k1,k2⟩:=cells3 f.out.1;go_wp2_with fail;have b:=((f.out.1.set_ 0 (.bool false)).set_ 1 (.slice none 0 0)).set_ 2 (.int .i64 0);have e0:=b.cell 0;have e1:=b.cell 1;have e2:=b.cell 2;refine bodyPost_ret (v:=.tuple #[.agg #[.bool false,.slice none 0 0,.int .i64 0],.bool false]) (by rw[results_cell_tmp rfl];go_simp) rfl ?_;unfold zb7;rw[q.out,O.out];exact⟨_,_,_,_,_,rfl,((f.out.2.1.setCell (p:=⟨a,0,none⟩) (by simp) _).setCell (p:=⟨a,1,none⟩) (by simp) _).setCell (p:=⟨a,2,none⟩) (by simp) _⟩
theorem zin (s:Gr.Str) (hl:s.length<=1073741823) (w:World) (hT:UT w):
 Calls prog 37 #[.string ⟨s.toArray⟩] w fun e w'=>e=.returned (.bool (readP s).isSome)/\Below w.heap.size w w':=by
 have a:=hid (zpa s hl w hT);clear hT;obtain⟨r,b⟩:=ex ((readP s).isSome)
 unfold zbx at a;rw[b]at a ⊢;clear b;go_enter func37,ntmps37;go_wp2_with fail;refine a.out.mono ?_;rintro e w2 ⟨x,v,rfl,⟨A,c,rfl,_⟩,_,d⟩;have f:=hid d;clear d;go_wp2;go_ret;exact⟨rfl,f.out.alloc f.out.size _⟩
theorem zti (text:Gr.Str) (hl:text.length<=1073741823):ScalOk UT 3 text (readP text).isSome:=by
 intro w c;have d:=hid (fun W g=>zin text hl W g);have f:=hid c;obtain⟨r,a⟩:=ex ((readP text).isSome)
 rw[a]at d ⊢;clear a c;go_enter func22,ntmps22;go_wp2_with fail;refine(d.out _ f.out).mono ?_;rintro e w2 ⟨rfl,b⟩;have h:=hid b;clear b;go_wp2;go_ret;exact⟨rfl,h.out⟩
theorem zql (text:Gr.Str):ScalOk UT 1 text (decide (text=[116,114,117,101]) || decide (text=[102,97,108,115,101])):=by
 intro w b;clear b;by_cases h1:text=[116,114,117,101]
 .subst h1;go_enter func22,ntmps22;go_wp2;go_ret;exact⟨rfl,Below.refl _ _⟩
 .have hb1:(text==[116,114,117,101])=false:=by rw[beq_eq_false_iff_ne];exact h1
  by_cases h2:text=[102,97,108,115,101]
  .subst h2;go_enter func22,ntmps22;go_wp2;go_ret;exact⟨rfl,Below.refl _ _⟩
  .have hb2:(text==[102,97,108,115,101])=false:=by rw[beq_eq_false_iff_ne];exact h2
   have a:Hid ((decide (text=[116,114,117,101]) || decide (text=[102,97,108,115,101]))=false):=hid (by simp[h1,h2]);go_enter func22,ntmps22;go_wp2;go_ret;rw[a.out];exact⟨rfl,Below.refl _ _⟩
theorem zmt (text:Gr.Str):ScalOk UT 6 text true:=by
 intro w a;clear a;go_enter func22,ntmps22;go_wp2;go_ret;exact⟨rfl,Below.refl _ _⟩
theorem zp8 {x:Gr.Mo} (h:MoOk x) (hn:x.time=false->x.nanos=0) (zz:Int) (W:World) (hW:UT W):
 Calls prog 87 #[.agg #[.int .i64 ((moSh x:Nat):Int),.int .i64 (x.y:Int),.int .i64 (x.m:Int),.int .i64 (x.d:Int),.int .i64 (x.h:Int),.int .i64 (x.mi:Int),.int .i64 (x.c:Int),.int .i64 (x.zh:Int),.int .i64 (x.zm:Int),.int .i64 (x.nanos:Int),.int .u8 zz]] W fun e w'=>e=.returned (.string ⟨(locS x).toArray⟩)/\Below W.heap.size W w':=by
 have a:=h.y;have b:=h.m;have c:=h.d;have d:=h.h;have e:=h.mi;have f:=h.c;have g:=h.nanos;rcases h.sh with⟨j,i⟩|⟨j,i,_⟩|⟨j,i,_⟩
 .have:=zpz x.y x.m x.d x.h x.mi x.c x.nanos (x.zh:Int) (x.zm:Int) zz (by omega) (by omega) (by omega) (by omega) (by omega) (by omega) g W hW;unfold locS moSh;rw[j,i];simpa using this
 .have:=zwd x.y x.m x.d x.h x.mi x.c x.nanos (x.zh:Int) (x.zm:Int) zz (by omega) (by omega) (by omega) (by omega) (by omega) (by omega) g (hn i) W hW;unfold locS moSh;rw[j,i];simpa using this
 .have:=zwe x.y x.m x.d x.h x.mi x.c x.nanos (x.zh:Int) (x.zm:Int) zz (by omega) (by omega) (by omega) (by omega) (by omega) (by omega) g W hW;unfold locS moSh;rw[j,i];simpa using this
theorem zmq (s:Gr.Str) (hl:s.length<=1073741823) (w:World) (hT:UT w):Calls prog 59 #[.string ⟨s.toArray⟩] w (zc7 (locP s) w):=by
 have HT:=hid hT;clear hT;obtain⟨r,A⟩:=ex (locP s)
 have Y:=hid A;rw[A];clear A;have E:Hid (locP s=match Gr.rd s with|none=>([],3)|some x=>if x.z≠0 then([],3)else if okR x=false then([],13)else(locS x,0)):=hid rfl;cases hrd:Gr.rd s with
 |none=>
  have J:Hid (r=([],3)):=hid (by rw[<-Y.out,E.out,hrd]);have k:=hid (fun W=>zik hl hrd W);clear hrd;go_enter func59,ntmps59;go_wp2_with fail;refine(k.out _).mono ?_;rintro e H ⟨a,L,y,m,d,h,mi,c,zh,zm,n,z,rfl⟩;have u:=hid a;clear a;go_wp2;go_ret2;rw[J.out];exact⟨rfl,u.out.alloc u.out.size _⟩
 |some x=>
  have q:=zp4 hrd;have C:=mo_z hrd;have F:=hid (fun W=>zfc hl hrd W);have B:=zp7 q;have v:=hid (fun W=>zfa ((moSh x:Nat):Int) x.y x.m x.d x.h x.mi x.c x.zh x.zm (x.nanos:Int) ((x.z.toNat:Nat):Int) W);rw[B]at v;obtain⟨L,p⟩:=ex (moSh x)
  obtain⟨N,o⟩:∃N:Int,((x.z.toNat:Nat):Int)=N:=⟨_,rfl⟩
  have G:=hid (fun W hW=>zp8 q C.2 N W hW);rw[p]at G;obtain⟨tx,M⟩:=ex (locS x)
  rw[M]at G;have aa:=hid M;have k:=F;have t:=v;rw[p,o]at k t;clear F v M;by_cases hz:x.z=0
  .obtain rfl:0=N:=by rw[<-o,hz];rfl
   have hz0b:((0:Int)==0)=true:=rfl;have hz0c:((0:Int) != 0)=false:=rfl;cases A:okR x with
   |false=>
    have J:Hid (r=([],13)):=hid (by rw[<-Y.out,E.out,hrd];simp only;rw[if_neg (by simp[hz]),if_pos A]);rw[A]at t;clear hrd q C B p o hz A;go_enter func59,ntmps59;go_wp2_with fail;refine(k.out _).mono ?_;rintro e H ⟨rfl,a⟩;go_upto_region 2 with fail;obtain⟨Q,i⟩:=ex H.heap.size
    obtain⟨l,f⟩:∃l,l=H.alloc (.cells #[.int .i64 (L:Int),.int .i64 (x.y:Int),.int .i64 (x.m:Int),.int .i64 (x.d:Int),.int .i64 (x.h:Int),.int .i64 (x.mi:Int),.int .i64 (x.c:Int),.int .i64 (x.zh:Int),.int .i64 (x.zm:Int),.int .i64 (x.nanos:Int),.int .u8 0] 97):=⟨_,rfl⟩
    have b:Hid (Blk l Q 97 #[.int .i64 (L:Int),.int .i64 (x.y:Int),.int .i64 (x.m:Int),.int .i64 (x.d:Int),.int .i64 (x.h:Int),.int .i64 (x.mi:Int),.int .i64 (x.c:Int),.int .i64 (x.zh:Int),.int .i64 (x.zm:Int),.int .i64 (x.nanos:Int),.int .u8 0]/\Below w.heap.size w l/\UT l):=hid (by
     have P:Below w.heap.size w l:=by rw[f];exact a.alloc a.size _
     exact⟨by rw[f,<-i];exact Blk.new _ _ _,P,UT.stays _ _ HT.out P⟩)
    (try rw[<-f]);(try rw[i]);clear f i a;obtain⟨V,U,Z,q3,X,q5,R,T,S,q9,D⟩:=zaf b.out.1;go_wp2_with fail;refine(t.out _).mono ?_;rintro e K ⟨rfl,g⟩;have j:Hid (Blk K Q 97 #[.int .i64 (L:Int),.int .i64 (x.y:Int),.int .i64 (x.m:Int),.int .i64 (x.d:Int),.int .i64 (x.h:Int),.int .i64 (x.mi:Int),.int .i64 (x.c:Int),.int .i64 (x.zh:Int),.int .i64 (x.zm:Int),.int .i64 (x.nanos:Int),.int .u8 0]/\Below w.heap.size w K/\UT K):=hid ⟨b.out.1.below g b.out.1.lt,b.out.2.1.trans (g.mono b.out.2.1.size),UT.stays _ _ b.out.2.2 g⟩;clear g V U Z q3 X q5 R T S q9 D;go_wp2;go_ret2;rw[J.out];exact⟨rfl,j.out.2.1⟩
   |true=>
    have J:Hid (r=(tx,0)):=hid (by rw[<-Y.out,E.out,hrd];simp only;rw[if_neg (by simp[hz]),if_neg (by rw[A];decide),aa.out]);rw[A]at t;clear hrd q C B p o hz A;go_enter func59,ntmps59;go_wp2_with fail;refine(k.out _).mono ?_;rintro e H ⟨rfl,a⟩;go_upto_region 2 with fail;obtain⟨Q,i⟩:=ex H.heap.size
    obtain⟨l,f⟩:∃l,l=H.alloc (.cells #[.int .i64 (L:Int),.int .i64 (x.y:Int),.int .i64 (x.m:Int),.int .i64 (x.d:Int),.int .i64 (x.h:Int),.int .i64 (x.mi:Int),.int .i64 (x.c:Int),.int .i64 (x.zh:Int),.int .i64 (x.zm:Int),.int .i64 (x.nanos:Int),.int .u8 0] 97):=⟨_,rfl⟩
    have b:Hid (Blk l Q 97 #[.int .i64 (L:Int),.int .i64 (x.y:Int),.int .i64 (x.m:Int),.int .i64 (x.d:Int),.int .i64 (x.h:Int),.int .i64 (x.mi:Int),.int .i64 (x.c:Int),.int .i64 (x.zh:Int),.int .i64 (x.zm:Int),.int .i64 (x.nanos:Int),.int .u8 0]/\Below w.heap.size w l/\UT l):=hid (by
     have P:Below w.heap.size w l:=by rw[f];exact a.alloc a.size _
     exact⟨by rw[f,<-i];exact Blk.new _ _ _,P,UT.stays _ _ HT.out P⟩)
    (try rw[<-f]);(try rw[i]);clear f i a;obtain⟨V,U,Z,q3,X,q5,R,T,S,q9,D⟩:=zaf b.out.1;go_wp2_with fail;refine(t.out _).mono ?_;rintro e K ⟨rfl,g⟩;have j:Hid (Blk K Q 97 #[.int .i64 (L:Int),.int .i64 (x.y:Int),.int .i64 (x.m:Int),.int .i64 (x.d:Int),.int .i64 (x.h:Int),.int .i64 (x.mi:Int),.int .i64 (x.c:Int),.int .i64 (x.zh:Int),.int .i64 (x.zm:Int),.int .i64 (x.nanos:Int),.int .u8 0]/\Below w.heap.size w K/\UT K):=hid ⟨b.out.1.below g b.out.1.lt,b.out.2.1.trans (g.mono b.out.2.1.size),UT.stays _ _ b.out.2.2 g⟩;clear g V U Z q3 X q5 R T S q9 D;go_upto_region 6 with fail;obtain⟨V,U,Z,q3,X,q5,R,T,S,q9,D⟩:=zaf j.out.1;go_wp2_with fail;refine(G.out _ j.out.2.2).mono ?_;rintro e w4 ⟨rfl,O⟩;have ab:Hid (Below w.heap.size w w4):=hid (j.out.2.1.trans (O.mono j.out.2.1.size));clear O;go_wp2;go_ret2;rw[J.out];exact⟨rfl,ab.out⟩
  .have J:Hid (r=([],3)):=hid (by rw[<-Y.out,E.out,hrd];simp only;rw[if_pos hz]);have I:=u8_z hz;rw[o]at I;have hznb:(N==0)=false:=by simpa using I
   have hznc:(N != 0)=true:=by simpa using I
   clear hrd q C B p o hz;go_enter func59,ntmps59;go_wp2_with fail;refine(k.out _).mono ?_;rintro e H ⟨rfl,a⟩;have u:=hid a;clear a;go_wp2;go_ret2;rw[J.out];exact⟨rfl,u.out.alloc u.out.size _⟩
end Go.Proofs.YtpjmhafmeieloabGreatDoor
