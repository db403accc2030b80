import Derived.Shelf.Spec.TrailingZeros
import Derived.Test.YtpjmhafmeieloaaGreatDoorGrInt
import Derived.Test.YtpjmhafmeieloaaGreatDoorZ02
import Derived.Test.YtpjmhafmeieloaaGreatDoorGrInsR3
namespace Go.Proofs.YtpjmhafmeieloaaGreatDoor
open Go.RowKit
theorem ze3 {w w':World} (hb:Below w.heap.size w w') {a:Addr} {v:Value} (hc:w.cell? a=some v):w'.cell? a=some v:=(hb.cell (World.block_lt_of_cell? w a hc)).trans hc
theorem zse {P:Program} {n:String} {g:Nat} {k:IntKind} {zs:List Int} {w w':World} (hg:P.globalNamed n=some g) (h:Lib.TabIs P w n k zs) (hb:Below w.heap.size w w'):Lib.TabIs P w' n k zs:=by
 unfold Lib.TabIs World.var? at h ⊢;rw[hg]at h ⊢;simp only[Option.bind_some]at h ⊢;have a:g<w.heap.size:=by
  rcases Nat.lt_or_ge g w.heap.size with h'|h'
  .exact h'
  .rw[Array.getElem?_eq_none h']at h;cases h
 rw[hb.block g a];exact h
def Stays (T:World->Prop):Prop:=∀w w',T w->Below w.heap.size w w'->T w'
structure UT (w:World):Prop where
 utf:Lib.Utf8Tabs 1 2 w
 sz:3<=w.heap.size
 pow:Lib.TabIs Tryz.prog w "internal/strconv.uint64pow10" .u64 Lib.pow10Tab
 bru:TabAt 6 Lib.deBruijn64tab w
 es:∃te p,w.cell? ⟨4,0,none⟩=some (.iface te p)
 er:∃te p,w.cell? ⟨5,0,none⟩=some (.iface te p)
theorem UT.stays:Stays UT:=fun w w' h a=>by
 refine⟨zdy h.utf (a.mono h.sz) (Nat.le_refl _),Nat.le_trans h.sz a.size,zse (show Tryz.prog.globalNamed "internal/strconv.uint64pow10" =some 7 by kernel_rfl) h.pow a,fun j d=>ze3 a (h.bru j d),?_,?_⟩
 .obtain⟨c,p,b⟩:=h.es;exact⟨c,p,ze3 a b⟩
 .obtain⟨c,p,b⟩:=h.er;exact⟨c,p,ze3 a b⟩
open Gr
open _root_.Go.Proofs.Tryz
open _root_.Go.Lib (hid)
set_option maxRecDepth 100000
set_option maxHeartbeats 16000000
def d8 (d:List Nat):List UInt8:=d.map UInt8.ofNat
theorem zya (d:List Nat):(d8 d).length=d.length:=by simp[d8]
def zp3 (w:World) (d:List Nat) (e:Ending) (w':World):Prop:=∃g,e=.returned (.slice (some ⟨g,0,none⟩) d.length d.length)/\w.heap.size<=g/\Blk w' g 5 (ucells (d8 d))/\Below w.heap.size w w'
theorem zla (a:List UInt8) (n:Nat) (x:UInt8) (h:0<n):(a++List.replicate n 0).set a.length x=(a++[x])++List.replicate (n-1) 0:=by
 obtain⟨m,rfl⟩:∃m,n=m+1:=⟨n-1,by omega⟩
 rw[List.set_append_right _ _ (Nat.le_refl _),Nat.sub_self,List.replicate_succ,List.set_cons_zero,List.append_assoc];rfl
theorem zp4 (s:Gr.Str) (hl:s.length<=1073741823) (hd:s.all Gr.dig=true) (w:World):
 Calls prog 68 #[.string ⟨s.toArray⟩] w (zp3 w (vals s)):=by
 have r:=fun W=>zcy s.length (by omega) W
 go_enter func68,ntmps68;go_upto_region 2 with fail;obtain⟨v,e⟩:=ex (w.alloc (.cells (ucells (List.replicate s.length 0)) 5))
 obtain⟨c,d⟩:=ex w.heap.size
 have u:Hid (Blk v c 5 (ucells (List.replicate s.length 0))/\Below c w v):=hid (by rw[<-e,<-d];exact⟨Blk.new _ _ _,(Below.refl _ _).alloc (Nat.le_refl _) _⟩);have p:=hid d;have z:=hid hd;rw[e];(try rw[d]);clear e d r hd;go_wp2_with fail;go_loopw [10] (fun s10 wr=>∃k:Nat,k<=s.length/\s10=.int .i64 k/\Hid (Blk wr c 5 (ucells (d8 (vals (s.take k))++List.replicate (s.length-k) 0))/\Below c w wr)) (fun s10 _=>s.length-(intOf s10).toNat)
 case atStart=>exact⟨0,by omega,rfl,hid (by simpa[vals,d8]using u.out)⟩
 case round=>
  obtain⟨k,hk,rfl,h⟩:=hrel;by_cases hlt:k<s.length
  .have m:(k:Int)<(s.length:Int):=by omega
   obtain⟨b,q⟩:∃b:Nat,(s[k]'(by omega)).toNat=b:=⟨_,rfl⟩
   have hbv:(((⟨s.toArray⟩:ByteArray)[k]'(by simpa[ByteArray.size]using hlt)).toNat:Int)=(b:Int):=by rw[<-q];rfl
   have n:=(zbh (s[k]'hlt)).1 (List.all_eq_true.1 z.out _ (List.getElem_mem hlt));rw[q]at n;have a48:(48:Int)<=(b:Int):=by omega
   have a57:(b:Int)<=57:=by omega
   have pfd:∀j,wr.frozen? ⟨c,j,none⟩=false:=h.out.1.frozen;have a:(d8 (vals (s.take k))).length=k:=by simp[d8,vals];omega
   obtain⟨x,zd⟩:∃x,wr.cell? ⟨c,k,none⟩=some x:=by
    rw[h.out.1.cell];refine⟨_,Array.getElem?_eq_getElem (i:=k) ?_⟩;simp[ucells,a];omega
   have l:Hid (d8 (vals (s.take (k+1)))=d8 (vals (s.take k))++[UInt8.ofNat (b-48)]/\(d8 (vals (s.take k))).length=k):=hid ⟨by
    rw[List.take_succ_eq_append_getElem hlt];simp only[d8,vals,List.map_append,List.map_cons,List.map_nil,Gr.dv,q],a⟩
   clear q n a;go_wp2_with fail;obtain⟨g,f⟩:∃g:UInt8,g=UInt8.ofNat (b-48):=⟨_,rfl⟩
   have o:(b:Int)-48=(g.toNat:Int):=by rw[f,UInt8.toNat_ofNat'];omega
   rw[o];have A:Hid (Blk (wr.setCell ⟨c,k,none⟩ (.int .u8 (g.toNat:Int))) c 5 (ucells (d8 (vals (s.take (k+1)))++List.replicate (s.length-(k+1)) 0))/\Below c w (wr.setCell ⟨c,k,none⟩ (.int .u8 (g.toNat:Int)))):=hid ⟨by
    have t:=h.out.1.set_ k (.int .u8 (g.toNat:Int));rw[zd0]at t;have y:=zla (d8 (vals (s.take k))) (s.length-k) g (by omega);rw[l.out.2]at y;rw[y]at t;rw[l.out.1,<-f,show s.length-(k+1)=s.length-k-1 from by omega];exact t,h.out.2.setCell (by simp) _⟩
   clear o f;go_roundw
   case rel=>exact⟨k+1,by omega,by go_num,A⟩
   case measure=>simp[intOf];omega
  .have m:¬(k:Int)<(s.length:Int):=by omega
   have B:Hid (Blk wr c 5 (ucells (d8 (vals s)))):=hid (by
    have:=h.out.1;rwa[show k=s.length from by omega,List.take_length,Nat.sub_self,List.replicate_zero,List.append_nil]at this)
   go_wp2;go_ret;refine⟨c,?_,by rw[p.out];exact Nat.le_refl _,B.out,by rw[p.out];exact h.out.2⟩;simp[vals]
theorem zur (s:Gr.Str) (k:Nat) (i:Int) (hi:i=k) (h:k<=s.length) (W:World):(Instr.slice 9 (.string ⟨s.toArray⟩) none (some (.int .i64 i)) none).run prog W=.ok (.string ⟨(s.take k).toArray⟩) W:=by
 subst hi;rw[run_slice_string_h (P:=prog) W 9 ⟨s.toArray⟩ underlying9 .i64 k (by omega) (by simp[ByteArray.size];omega)]
 congr 2
 apply ByteArray.ext;simp
theorem zx9 (s:Gr.Str) (k:Nat) (i:Int) (hi:i=k) (h:k<=s.length) (W:World):(Instr.slice 9 (.string ⟨s.toArray⟩) (some (.int .i64 i)) none none).run prog W=.ok (.string ⟨(s.drop k).toArray⟩) W:=by
 subst hi;rw[run_slice_string_l (P:=prog) W 9 ⟨s.toArray⟩ underlying9 .i64 k (by omega) (by simp[ByteArray.size];omega)]
 congr 2
 apply ByteArray.ext;simp[ByteArray.size];rw[List.take_of_length_le (by simp)]
theorem zwa (a b:Gr.Str):(⟨a.toArray⟩:ByteArray)++⟨b.toArray⟩=⟨(a++b).toArray⟩:=by
 apply ByteArray.ext;simp
theorem zac (a b:Gr.Str) (h:a.length+b.length<=9223372036854775807) (W:World):(Op.stringOp .add ⟨a.toArray⟩ ⟨b.toArray⟩).run prog W=.ok (.string ⟨(a++b).toArray⟩) W:=by
 rw[run_string_add_sum (P:=prog) (w:=W) ⟨a.toArray⟩ ⟨b.toArray⟩ (by simpa[ByteArray.size]using h),zwa]
theorem zp2 (a b:Gr.Str):((⟨a.toArray⟩:ByteArray)==⟨b.toArray⟩)=decide (a=b):=by
 show(a.toArray==b.toArray)=_;rw[Bool.eq_iff_iff];simp
section
variable {P:Program} {ops:Array Oper} {md:Region.Mode}
def nopOf (o:Oper):Oper:={o with op:=.move (.const (.bool false)),dst:=none}
def zhd (md:Region.Mode) (ops:Array Oper):Bool:=(List.range ops.size).all fun j=>((ops[j]?).map (·.after.all fun e=>!Region.binds md e || decide (e.on<j))).getD true
def apartB (ops:Array Oper):Bool:=(List.range ops.size).all fun i=>(List.range ops.size).all fun j=>decide (i=j) || match ops[i]?.bind (·.dst),ops[j]?.bind (·.dst)with
 |some a,some b=>decide (a≠b)
 |_,_=>true
def waitsB (md:Region.Mode) (ops:Array Oper) (s:Nat) (d:Tmp):Bool:=(List.range ops.size).all fun j=>!(decide (ops[j]?.bind (·.dst)=some d)) || Region.waitsFor md ops s j
theorem zs4 {i j:Nat} {a:Tmp} (h:apartB ops=true) (hi:i<ops.size) (hj:j<ops.size) (hne:i≠j) (ha:ops[i]?.bind (·.dst)=some a):ops[j]?.bind (·.dst)≠some a:=by
 intro c;have b:=List.all_eq_true.1 (List.all_eq_true.1 h i (List.mem_range.2 hi)) j (List.mem_range.2 hj);rw[ha,c]at b;simp[hne]at b
theorem zhe {C:World->Prop} {aF:Act} {d:Tmp}:∀(fuel:Nat) (listed:Array Bool) (a:Act),(∀j,listed.getD j true=false->ops[j]?.bind (·.dst)≠some d)->
 wpAnyQ P md ops C (fun a'=>a'=aF) fuel listed a->a.tmps[d]? =aF.tmps[d]?
 | 0,_,_,_,h=>by rw[h.2]
 |fuel+1,listed,a,hd,h=>by
  cases hr:Region.ready md ops listed with
  |nil=>rw[h.1 hr]
  |cons i l=>
   have n:i∈Region.ready md ops listed:=by rw[hr];exact .head _
   obtain⟨e,o,g,_⟩:=mem_ready.1 n;have f:o.dst≠some d:=by have:=hd i e;rwa[g]at this
   have k:∀j,(listed.setIfInBounds i true).getD j true=false->ops[j]?.bind (·.dst)≠some d:=by
    intro j hj;by_cases hij:i=j
    .subst hij;rw[g];exact f
    .simp_all
   have c:∀v,wpAnyQ P md ops C (fun a'=>a'=aF) fuel (listed.setIfInBounds i true) (a.put o.dst v)->a.tmps[d]? =aF.tmps[d]? :=by
    intro v m;have:=zhe fuel _ _ k m;rw[<-this];unfold Act.put;cases hod:o.dst with
    |none=>rfl
    |some d2=>
     grind
   have b:=h.2 i n;unfold qOp at b;simp only[g]at b;split at b
   .obtain⟨v,_,m⟩:=b;exact c v m
   .exact c _ b
theorem zs5 {a:Act} {dst:Option Tmp} {u v:Value} (h:∀d,dst=some d->(a.put dst u).tmps[d]? =(a.put dst v).tmps[d]?):a.put dst u=a.put dst v:=by
 cases dst with
 |none=>rfl
 |some d=>
  have b:=h d rfl;unfold Act.put at b ⊢;simp only at b ⊢;by_cases hd:d<a.tmps.size
  .grind
  .rw[Array.setIfInBounds_eq_of_size_le (Nat.not_lt.1 hd),Array.setIfInBounds_eq_of_size_le (Nat.not_lt.1 hd)]
theorem zmz {listed:Array Bool} (he:zhd md ops=true) (hsz:listed.size=ops.size) (hr:Region.ready md ops listed=[]):∀j,j<ops.size->listed.getD j false=true:=by
 intro j
 induction j using Nat.strongRecOn with
 |_ j ih=>
  intro c;cases hl:listed.getD j false with
  |true=>rfl
  |false=>
   exfalso;have d:j∈Region.ready md ops listed:=by
    rw[mem_ready];refine⟨getD_in (by omega) hl,ops[j],Array.getElem?_eq_getElem c,fun e a g=>?_⟩;have b:=List.all_eq_true.1 he j (List.mem_range.2 c);rw[Array.getElem?_eq_getElem c]at b;simp only[Option.map_some,Option.getD_some]at b;have f:=Array.all_eq_true'.1 b e a;simp only[g,Bool.not_true,Bool.false_or,decide_eq_true_eq]at f;exact ih e.on f (by omega)
   rw[hr]at d;cases d
variable {s:Nat} {os:Oper} {D:Bool->World->Prop} {aF:Act} {Q:Exit->Act->World->Prop}
theorem zqb (_hs:ops[s]? =some os) {j:Nat} (hne:j≠s):(ops.setIfInBounds s (nopOf os))[j]? =ops[j]? :=Array.getElem?_setIfInBounds_ne (Ne.symm hne)
theorem zhf (hs:ops[s]? =some os):(ops.setIfInBounds s (nopOf os))[s]? =some (nopOf os):=Array.getElem?_setIfInBounds_self_of_lt (Array.getElem?_eq_some_iff.1 hs).1
theorem zjz (hs:ops[s]? =some os) (hd:os.dst=none) (j:Nat):(ops.setIfInBounds s (nopOf os))[j]?.bind (·.dst)=ops[j]?.bind (·.dst):=by
 by_cases h:j=s
 .subst h;rw[zhf hs,hs];simp[nopOf,hd]
 .rw[zqb hs h]
theorem zj0 (hs:ops[s]? =some os) (hd:os.dst=none) (t:Array Value):yielded (ops.setIfInBounds s (nopOf os)) t=yielded ops t:=by
 funext j
 unfold yielded;rw[zjz hs hd]
theorem zir (hs:ops[s]? =some os) (listed:Array Bool) (i:Nat):i∈Region.ready md (ops.setIfInBounds s (nopOf os)) listed↔i∈Region.ready md ops listed:=by
 rw[mem_ready,mem_ready];by_cases h:i=s
 .subst h;rw[zhf hs,hs];constructor
  .rintro⟨a,o,c,b⟩;injection c with c
   subst c;exact⟨a,os,rfl,b⟩
  .rintro⟨a,o,c,b⟩;injection c with c
   subst c;exact⟨a,_,rfl,b⟩
 .rw[zqb hs h]
theorem zqc {p q:Tmp} {ty:TypeId} (hs:ops[s]? =some os) (hd:os.dst=none) (hg:os.guard=none) (hop:os.op=.store ty (.tmp p) (.tmp q)) (he:zhd md ops=true) (hap:apartB ops=true) (hp:waitsB md ops s p=true) (hq:waitsB md ops s q=true)
 (hst:∀w,D false w->∃w',(execOp aF.eval os).run P w=.ok .skip w'/\D true w') (hend:∀w,D true w->Q .normal aF w):
 ∀(fuel:Nat) (listed:Array Bool) (a:Act) (w:World),listed.size=ops.size->(∀b,wpAnyQ P md (ops.setIfInBounds s (nopOf os)) (D b) (fun a'=>a'=aF) fuel listed a)->D (listed.getD s false) w->wpAny P md ops Q fuel listed a w:=by
 have T:s<ops.size:=(Array.getElem?_eq_some_iff.1 hs).1;have k:∀(listed:Array Bool) (w:World),listed.size=ops.size->Region.ready md ops listed=[]->D (listed.getD s false) w->D true w:=fun listed w z t n=>by
  rwa[zmz he z t s T]at n
 have x:∀listed,Region.ready md (ops.setIfInBounds s (nopOf os)) listed=[]↔Region.ready md ops listed=[]:=fun listed=>by
  rw[List.eq_nil_iff_forall_not_mem,List.eq_nil_iff_forall_not_mem];exact forall_congr' (fun i=>not_congr (zir hs listed i))
 intro fuel
 induction fuel with
 |zero=>
  intro listed a w z t n;have f:=t true;refine⟨(x listed).1 f.1,?_⟩;rw[f.2];exact hend w (k listed w z ((x listed).1 f.1) n)
 |succ fuel ih=>
  intro listed a w z t n;refine⟨fun hr=>?_,fun i hi=>?_⟩
  .rw[(t true).1 ((x listed).2 hr)];exact hend w (k listed w z hr n)
  .obtain⟨W,o,r,F⟩:=mem_ready.1 hi;have G:i<ops.size:=(Array.getElem?_eq_some_iff.1 r).1;have J:=(zir (md:=md) hs listed i).2 hi;have m:(listed.setIfInBounds i true).size=ops.size:=by simpa using z
   by_cases his:i=s
   .subst his;obtain rfl:o=os:=Option.some.inj (r.symm.trans hs);have I:∀b,wpAnyQ P md (ops.setIfInBounds i (nopOf o)) (D b) (fun a'=>a'=aF) fuel (listed.setIfInBounds i true) a:=fun b=>by
     have f:=(t b).2 i J;unfold qOp at f;rw[zhf hs]at f;simp only at f;rw[if_pos (show Region.wanted (nopOf o) _=true by simp[Region.wanted,nopOf,hg])]at f;obtain⟨v,_,Z⟩:=f;exact Z
    have g:∀d,waitsB md ops i d=true->a.tmps[d]? =aF.tmps[d]? :=fun d V=>by
     refine zhe (C:=D true) fuel _ a (fun j hj E=>?_) (I true);rw[zjz hs hd]at E;have u:j<ops.size:=by
      grind
     have S:=List.all_eq_true.1 V j (List.mem_range.2 u);rw[decide_eq_true E]at S;simp only[Bool.not_true,Bool.false_or]at S;obtain⟨oj,N,e,L,X,O⟩:=Region.waitsFor_spec S;obtain rfl:oj=o:=Option.some.inj (N.symm.trans r);have h6:=F e L X;rw[O]at h6;by_cases hij:i=j
     .grind
     .simp_all
    have y:listed.getD i false=false:=getD_both W;rw[y]at n;obtain⟨w',A,hD⟩:=hst w n;have M:execOp a.eval o=execOp aF.eval o:=by
     have e1:a.eval (.tmp p)=aF.eval (.tmp p):=by
      show a.tmps.getD p undef=aF.tmps.getD p undef;rw[Array.getD_eq_getD_getElem?,Array.getD_eq_getD_getElem?,g p hp]
     have e2:a.eval (.tmp q)=aF.eval (.tmp q):=by
      show a.tmps.getD q undef=aF.tmps.getD q undef;rw[Array.getD_eq_getD_getElem?,Array.getD_eq_getD_getElem?,g q hq]
     unfold execOp;rw[hop];simp only[e1,e2]
    unfold wpOp;rw[r];simp only[Region.wanted,hg,if_true];left;unfold Oper.wp;rw[M,A];show wpAny P md ops Q fuel (listed.setIfInBounds i true) (a.put o.dst undef) w';rw[hd];refine ih _ a w' m I ?_;rw[show(listed.setIfInBounds i true).getD i false=true from by
     have:i<listed.size:=by omega
     simp[this]]
    exact hD
   .have y:(listed.setIfInBounds i true).getD s false=listed.getD s false:=getD_set_ne false his;have H:(ops.setIfInBounds s (nopOf os))[i]? =some o:=by rw[zqb hs his,r]
    have c:∀b,(if Region.wanted o (yielded ops a.tmps)then o.quiet P a (D b) (wpAnyQ P md (ops.setIfInBounds s (nopOf os)) (D b) (fun a'=>a'=aF) fuel (listed.setIfInBounds i true))else wpAnyQ P md (ops.setIfInBounds s (nopOf os)) (D b) (fun a'=>a'=aF) fuel (listed.setIfInBounds i true) (a.put o.dst undef)):=fun b=>by
     have f:=(t b).2 i J;unfold qOp at f;rw[H]at f;simp only[zj0 hs hd]at f;exact f
    unfold wpOp;rw[r];simp only;by_cases hw:Region.wanted o (yielded ops a.tmps)=true
    .rw[if_pos hw];left;simp only[hw,if_true]at c;have B:∀(b b':Bool) (v v':Value),wpAnyQ P md (ops.setIfInBounds s (nopOf os)) (D b) (fun a'=>a'=aF) fuel (listed.setIfInBounds i true) (a.put o.dst v)->wpAnyQ P md (ops.setIfInBounds s (nopOf os)) (D b') (fun a'=>a'=aF) fuel (listed.setIfInBounds i true) (a.put o.dst v')->a.put o.dst v=a.put o.dst v':=fun b b' v v' k1 k2=>by
      refine zs5 (fun d R=>?_);have h:∀j,(listed.setIfInBounds i true).getD j true=false->(ops.setIfInBounds s (nopOf os))[j]?.bind (·.dst)≠some d:=fun j hj=>by
       rw[zjz hs hd];have hij:i≠j:=by
        rintro rfl;have:i<listed.size:=by omega
        simp[this]at hj
       by_cases u:j<ops.size
       .exact zs4 hap G u hij (by rw[r];exact R)
       .grind
      rw[zhe fuel _ _ h k1,zhe fuel _ _ h k2]
     obtain⟨v,Z,hk⟩:=c (listed.getD s false);refine Oper.wp_of_quiet (C:=D (listed.getD s false)) (K:=fun a'=>∀b,wpAnyQ P md (ops.setIfInBounds s (nopOf os)) (D b) (fun U=>U=aF) fuel (listed.setIfInBounds i true) a') n (fun a' w' Y l=>ih _ a' w' m l (by rw[y];exact Y)) ⟨v,Z,fun b=>?_⟩;obtain⟨v',_,l⟩:=c b;rw[B _ _ v v' hk l];exact l
    .grind
theorem za9 {id:Nat} {l:List Oper} {a:Act} {w:World} {p q:Tmp} {ty:TypeId} (s:Nat) (hm:P.follows .mixedOrders=true) (l':List Oper) (hs:l.toArray[s]? =some os) (hl':l'=l.set s (nopOf os)) (hd:os.dst=none) (hg:os.guard=none) (hop:os.op=.store ty (.tmp p) (.tmp q))
 (hB:Region.lexB .any l'.toArray=true) (he:zhd .any l.toArray=true) (hap:apartB l.toArray=true) (hp:waitsB .any l.toArray s p=true) (hq:waitsB .any l.toArray s q=true) (D:Bool->World->Prop) (hD:D false {w with drawn:=w.drawn+1})
 (h:∀b,wpQuiet P l'.toArray (D b) (fun a'=>a'=aF) l' a)
 (hst:∀w,D false w->∃w',(execOp aF.eval os).run P w=.ok .skip w'/\D true w') (hend:∀w,D true w->Q .normal aF w):(Code.region id l.toArray true).wp P Q a w:=by
 simp only[Region.lexB,Bool.and_eq_true]at hB;have e:l.toArray.setIfInBounds s (nopOf os)=l'.toArray:=by rw[hl'];simp
 have c:l'.length=l.toArray.size:=by rw[hl'];simp
 refine wp_region_any hm ?_;have hsl:s<l.toArray.size:=(Array.getElem?_eq_some_iff.1 hs).1;refine zqc hs hd hg hop he hap hp hq hst hend _ _ a _ (by simp) (fun b=>?_) (by rw[getD_replicate_false];exact hD);rw[e,<-c];have:=wpAnyQ_lex (C:=D b) (md:=.any) hB.1 l' 0 (Array.replicate l'.length false) a (by simp) (by simpa using hB.2) (h b);exact this
end
structure WL (g:Nat) (t:TypeId) (w0:World) (cs:Array Value) where
 w:World
 h:KB g w0 w
 hc:Blk w g t cs
theorem Calls.late {P:Program} {f:FuncId} {args:Array Value} {g:Nat} {t:TypeId} {w0:World} {cs:Array Value} {x:WL g t w0 cs} {v:Value} (h:Calls P f args x.w fun e w'=>e=.returned v/\Below x.w.heap.size x.w w'):
 Calls P f args x.w fun e w''=>e=.returned v/\∃y:WL g t w0 cs,w''=y.w:=h.mono fun _ _ ⟨b,a⟩=>⟨b,⟨_,x.h.trans (KB.of_below a),x.hc.below a x.hc.lt⟩,rfl⟩
def mZ:Array Value:=#[.int .i64 0,.int .i64 0,.int .i64 0,.int .i64 0,.int .i64 0,.int .i64 0,.int .i64 0,.int .i64 0,.int .i64 0,.int .i64 0,.int .u8 0]
structure RMem (s:Gr.Str) (w:World) (sb rb mb ab fb:Nat) (sh:Nat) (f:Nat->Nat) (nn z p:Nat) (wx:World):Prop where
 b:Below w.heap.size w wx
 n:w.heap.size<=rb
 nm:w.heap.size<=mb
 na:w.heap.size<=ab
 mr:mb≠rb
 s:Blk wx sb 9 #[.string ⟨s.toArray⟩]
 r:Blk wx rb 94 mZ
 m:Blk wx mb 94 (mC sh f nn z)
 a:Blk wx ab 3 #[.int .i64 (p:Int)]
 f:Blk wx fb 124 #[.func (.func 81) #[] #[.pointer (some ⟨ab,0,none⟩),.pointer (some ⟨sb,0,none⟩)]]
theorem RMem.up {s:Gr.Str} {w:World} {sb rb mb ab fb sh:Nat} {f:Nat->Nat} {nn z p:Nat} {wx wy:World} (h:RMem s w sb rb mb ab fb sh f nn z p wx) (hb:Below wx.heap.size wx wy):RMem s w sb rb mb ab fb sh f nn z p wy:=
 ⟨h.b.trans (hb.mono h.b.size),h.n,h.nm,h.na,h.mr,h.s.below hb h.s.lt,h.r.below hb h.r.lt,h.m.below hb h.m.lt,h.a.below hb h.a.lt,h.f.below hb h.f.lt⟩
theorem WL.hc2 {g:Nat} {t:TypeId} {w0:World} {cs cs':Array Value} (y:WL g t w0 cs) (e:cs=cs'):Blk y.w g t cs':=by subst e;exact y.hc
def RPost (T:Option (Array Value)) (w:World) (e:Ending) (w':World):Prop:=Below w.heap.size w w'/\∃(sh:Nat) (f:Nat->Nat) (nn z:Nat),e=.returned (.tuple #[.agg (mC sh f nn z),.bool T.isSome])/\∀x,T=some x->x=mC sh f nn z
theorem zba {w:World} {g:Nat} {t:TypeId} {c0 c1 c2 c3 c4 c5 c6 c7 c8 c9 c10 v0 v1 v2 v3 v4 v5 v6 v7 v8 v9 v10:Value} (h:Blk w g t #[c0,c1,c2,c3,c4,c5,c6,c7,c8,c9,c10]):Blk (((((((((((w.setCell ⟨g,0,none⟩ (v0)).setCell ⟨g,1,none⟩ (v1)).setCell ⟨g,2,none⟩ (v2)).setCell ⟨g,3,none⟩ (v3)).setCell ⟨g,4,none⟩ (v4)).setCell ⟨g,5,none⟩ (v5)).setCell ⟨g,6,none⟩ (v6)).setCell ⟨g,7,none⟩ (v7)).setCell ⟨g,8,none⟩ (v8)).setCell ⟨g,9,none⟩ (v9)).setCell ⟨g,10,none⟩ (v10)) g t #[v0,v1,v2,v3,v4,v5,v6,v7,v8,v9,v10]:=by
 have a:=(((((((((((h.set_ 0 v0).set_ 1 v1).set_ 2 v2).set_ 3 v3).set_ 4 v4).set_ 5 v5).set_ 6 v6).set_ 7 v7).set_ 8 v8).set_ 9 v9).set_ 10 v10)
 simp only[List.setIfInBounds_toArray,List.set_cons_zero,List.set_cons_succ]at a;exact a
theorem kb11 {w0 w:World} {g:Nat} (h:KB g w0 w) {v0 v1 v2 v3 v4 v5 v6 v7 v8 v9 v10:Value}:KB g w0 (((((((((((w.setCell ⟨g,0,none⟩ (v0)).setCell ⟨g,1,none⟩ (v1)).setCell ⟨g,2,none⟩ (v2)).setCell ⟨g,3,none⟩ (v3)).setCell ⟨g,4,none⟩ (v4)).setCell ⟨g,5,none⟩ (v5)).setCell ⟨g,6,none⟩ (v6)).setCell ⟨g,7,none⟩ (v7)).setCell ⟨g,8,none⟩ (v8)).setCell ⟨g,9,none⟩ (v9)).setCell ⟨g,10,none⟩ (v10)):=
 (((((((((((h.set 0 _).set 1 _).set 2 _).set 3 _).set 4 _).set 5 _).set 6 _).set 7 _).set 8 _).set 9 _).set 10 _)
theorem zcr {w0 w:World} {g B:Nat} (h:Below B w0 w) (hB:B<=g) {v0 v1 v2 v3 v4 v5 v6 v7 v8 v9 v10:Value}:Below B w0 (((((((((((w.setCell ⟨g,0,none⟩ (v0)).setCell ⟨g,1,none⟩ (v1)).setCell ⟨g,2,none⟩ (v2)).setCell ⟨g,3,none⟩ (v3)).setCell ⟨g,4,none⟩ (v4)).setCell ⟨g,5,none⟩ (v5)).setCell ⟨g,6,none⟩ (v6)).setCell ⟨g,7,none⟩ (v7)).setCell ⟨g,8,none⟩ (v8)).setCell ⟨g,9,none⟩ (v9)).setCell ⟨g,10,none⟩ (v10)):=
 (((((((((((h.setCell (p:=⟨g,0,none⟩) hB _).setCell (p:=⟨g,1,none⟩) hB _).setCell (p:=⟨g,2,none⟩) hB _).setCell (p:=⟨g,3,none⟩) hB _).setCell (p:=⟨g,4,none⟩) hB _).setCell (p:=⟨g,5,none⟩) hB _).setCell (p:=⟨g,6,none⟩) hB _).setCell (p:=⟨g,7,none⟩) hB _).setCell (p:=⟨g,8,none⟩) hB _).setCell (p:=⟨g,9,none⟩) hB _).setCell (p:=⟨g,10,none⟩) hB _)
theorem zyi (s:Gr.Str) (_hl:s.length<=1073741823) (w wx:World) (sb rb mb ab fb sh:Nat) (f:Nat->Nat) (nn z p:Nat) (T:Option (Array Value)) (HM:Hid (RMem s w sb rb mb ab fb sh f nn z p wx)) (HT:Hid (T=if p=s.length then some (mC sh f nn z)else none)) {u3 u8 u9 u10 u11 u12 u13 u14 u15 u16 u17 u18 u19 u20 u21 u22 u23 u24 u25 u26 u27 u28 u29 u30 u31 u32 u33 u34 u35 u36 u37 u38 u39 u40 u41 u42 u43 u44 u45 u46 u47 u48 u49 u50 u51 u52 u53 u54 u55 u56 u57 u58 u59 u60 u61 u62 u63 u64 u65 u66 u67 u68 u69 u70 u71 u72 u73 u74 u75 u76 u77 u78 u79 u80 u81 u82 u83 u84 u85 u86 u87 u88 u89 u90 u91 u92 u93 u94 u95 u96 u97 u98 u99 u100 u101 u102 u103 u104 u105 u106 u107 u108 u109 u110 u111 u112 u113 u114 u115 u116 u117 u118 u119 u120 u121 u122 u123 u124 u125 u126 u127 u128 u129 u130 u131 u132 u133 u134 u135 u136 u137 u138 u139 u140 u141 u142 u143 u144 u145 u146 u147 u148 u149 u150 u151 u152 u153 u154:Value}:
 Code.wp prog (tl 10 (f54.body.getD .skip)) (bodyPost prog f54 (RPost T w)) {tmps:=List.toArray (.string ⟨s.toArray⟩::.pointer (some ⟨sb,0,none⟩)::.pointer (some ⟨rb,0,none⟩)::u3::.pointer (some ⟨mb,0,none⟩)::.pointer (some ⟨ab,0,none⟩)::.pointer (some ⟨fb,0,none⟩)::.func (.func 82) #[] #[.pointer (some ⟨ab,0,none⟩),.pointer (some ⟨sb,0,none⟩),.pointer (some ⟨fb,0,none⟩)]::u8::u9::u10::u11::u12::u13::u14::u15::u16::u17::u18::u19::u20::u21::u22::u23::u24::u25::u26::u27::u28::u29::u30::u31::u32::u33::u34::u35::u36::u37::u38::u39::u40::u41::u42::u43::u44::u45::u46::u47::u48::u49::u50::u51::u52::u53::u54::u55::u56::u57::u58::u59::u60::u61::u62::u63::u64::u65::u66::u67::u68::u69::u70::u71::u72::u73::u74::u75::u76::u77::u78::u79::u80::u81::u82::u83::u84::u85::u86::u87::u88::u89::u90::u91::u92::u93::u94::u95::u96::u97::u98::u99::u100::u101::u102::u103::u104::u105::u106::u107::u108::u109::u110::u111::u112::u113::u114::u115::u116::u117::u118::u119::u120::u121::u122::u123::u124::u125::u126::u127::u128::u129::u130::u131::u132::u133::u134::u135::u136::u137::u138::u139::u140::u141::u142::u143::u144::u145::u146::u147::u148::u149::u150::u151::u152::u153::u154::[]),defers:=[]} wx:=by
 generalize hc0:tl 10 (f54.body.getD .skip)=c0;simp only[tl,f54,Option.getD_some]at hc0;subst hc0;obtain⟨q,i⟩:=ex (decide ((p:Int)=(s.length:Int)))
 have hokb:((p:Int)==(s.length:Int))=q:=by rw[<-i];rfl
 have l:Hid (T=if q=true then some (mC sh f nn z)else none):=hid (by
  rw[HT.out,<-i];by_cases h:p=s.length
  .rw[if_pos h,if_pos (by simp[h])]
  .rw[if_neg h,if_neg (by simp;omega)])
 clear i HT;go_upto_region 36 with fail;obtain⟨Z,A⟩:∃Z:Bool->Array Value,Z=fun b=>if b=true then mC sh f nn z else mZ:=⟨_,rfl⟩
 have d:Hid (Z false=mZ/\Z true=mC sh f nn z):=hid (by rw[A];exact⟨rfl,rfl⟩);clear A;have o:Hid (∃y:WL rb 94 wx (Z false),{wx with drawn:=wx.drawn+1}=y.w):=hid ⟨⟨wx.drewN 1,(KB.refl _ _).drewN 1,by rw[d.out.1];exact HM.out.r.drewN 1⟩,rfl⟩;have g:Hid (∀y:WL rb 94 wx (Z false),∃z':WL rb 94 wx (Z true),(((((((((((y.w.setCell ⟨rb,0,none⟩ (.int .i64 (sh:Int))).setCell ⟨rb,1,none⟩ (.int .i64 (f 0:Int))).setCell ⟨rb,2,none⟩ (.int .i64 (f 1:Int))).setCell ⟨rb,3,none⟩ (.int .i64 (f 2:Int))).setCell ⟨rb,4,none⟩ (.int .i64 (f 3:Int))).setCell ⟨rb,5,none⟩ (.int .i64 (f 4:Int))).setCell ⟨rb,6,none⟩ (.int .i64 (f 5:Int))).setCell ⟨rb,7,none⟩ (.int .i64 (f 6:Int))).setCell ⟨rb,8,none⟩ (.int .i64 (f 7:Int))).setCell ⟨rb,9,none⟩ (.int .i64 (nn:Int))).setCell ⟨rb,10,none⟩ (.int .u8 (z:Int)))=z'.w):=hid (fun y=>⟨⟨_,kb11 y.h,by
  have B:=WL.hc2 y d.out.1;rw[d.out.2];exact zba B⟩,rfl⟩)
 have u:Hid (∀b,Nonempty (WL rb 94 wx (Z b))):=hid (fun b=>by
  obtain⟨y,_⟩:=o.out;cases b with
  |false=>exact⟨y⟩
  |true=>obtain⟨z',_⟩:=g.out y;exact⟨z'⟩)
 have c:Hid (∀b,∀y:WL rb 94 wx (Z b),Blk y.w mb 94 (mC sh f nn z)/\Blk y.w ab 3 #[.int .i64 (p:Int)]/\Blk y.w sb 9 #[.string ⟨s.toArray⟩]):=hid (fun b y=>⟨y.h.blk HM.out.m HM.out.mr,y.h.blk HM.out.a (HM.out.a.ne_ HM.out.r (by decide)),y.h.blk HM.out.s (HM.out.s.ne_ HM.out.r (by decide))⟩);refine za9 (aF:=?aF) 5 (by kernel_rfl) _ rfl rfl rfl rfl rfl (by kernel_rfl) (by kernel_rfl) (by kernel_rfl) (by kernel_rfl) (by kernel_rfl) (fun b W=>∃y:WL rb 94 wx (Z b),W=y.w) o.out (fun b=>?h1) ?h2 ?h3
 case h1=>
  have q0:∀y:WL rb 94 wx (Z b),y.w.cell? ⟨mb,0,none⟩=some (.int .i64 (sh:Int)):=fun y=>(c.out b y).1.cell 0
  have q1:∀y:WL rb 94 wx (Z b),y.w.cell? ⟨mb,1,none⟩=some (.int .i64 (f 0:Int)):=fun y=>(c.out b y).1.cell 1
  have q2:∀y:WL rb 94 wx (Z b),y.w.cell? ⟨mb,2,none⟩=some (.int .i64 (f 1:Int)):=fun y=>(c.out b y).1.cell 2
  have q3:∀y:WL rb 94 wx (Z b),y.w.cell? ⟨mb,3,none⟩=some (.int .i64 (f 2:Int)):=fun y=>(c.out b y).1.cell 3
  have q4:∀y:WL rb 94 wx (Z b),y.w.cell? ⟨mb,4,none⟩=some (.int .i64 (f 3:Int)):=fun y=>(c.out b y).1.cell 4
  have q5:∀y:WL rb 94 wx (Z b),y.w.cell? ⟨mb,5,none⟩=some (.int .i64 (f 4:Int)):=fun y=>(c.out b y).1.cell 5
  have q6:∀y:WL rb 94 wx (Z b),y.w.cell? ⟨mb,6,none⟩=some (.int .i64 (f 5:Int)):=fun y=>(c.out b y).1.cell 6
  have q7:∀y:WL rb 94 wx (Z b),y.w.cell? ⟨mb,7,none⟩=some (.int .i64 (f 6:Int)):=fun y=>(c.out b y).1.cell 7
  have q8:∀y:WL rb 94 wx (Z b),y.w.cell? ⟨mb,8,none⟩=some (.int .i64 (f 7:Int)):=fun y=>(c.out b y).1.cell 8
  have q9:∀y:WL rb 94 wx (Z b),y.w.cell? ⟨mb,9,none⟩=some (.int .i64 (nn:Int)):=fun y=>(c.out b y).1.cell 9
  have q10:∀y:WL rb 94 wx (Z b),y.w.cell? ⟨mb,10,none⟩=some (.int .u8 (z:Int)):=fun y=>(c.out b y).1.cell 10
  have hne:=u.out b;have qA:∀y:WL rb 94 wx (Z b),y.w.cell? ⟨ab,0,none⟩=some (.int .i64 (p:Int)):=fun y=>(c.out b y).2.1.cell 0
  have qS:∀y:WL rb 94 wx (Z b),y.w.cell? ⟨sb,0,none⟩=some (.string ⟨s.toArray⟩):=fun y=>(c.out b y).2.2.cell 0
  simp only[List.set_cons_succ,List.set_cons_zero,nopOf,List.getElem_toArray,List.getElem_cons_succ,List.getElem_cons_zero]
  iterate 7 (go_big_quiet_step (fail))
  refine wpQuiet_nil ?_;rfl
 case h2=>
  rintro _ ⟨y,rfl⟩;obtain⟨z',C⟩:=g.out y;have e:Blk y.w rb 94 #[.int .i64 0,.int .i64 0,.int .i64 0,.int .i64 0,.int .i64 0,.int .i64 0,.int .i64 0,.int .i64 0,.int .i64 0,.int .i64 0,.int .u8 0]:=WL.hc2 y d.out.1;have f0:∀j,y.w.frozen? ⟨rb,j,none⟩=false:=e.frozen;obtain⟨c0,c1,c2,c3,c4,c5,c6,c7,c8,c9,c10⟩:=zaf e;refine⟨z'.w,?_,z',rfl⟩;rw[<-C];simp only[List.getElem_toArray,List.getElem_cons_succ,List.getElem_cons_zero];go_simp
 case h3=>
 rintro _ ⟨y,rfl⟩;have e:Blk y.w rb 94 (mC sh f nn z):=WL.hc2 y d.out.2;obtain⟨e0,e1,e2,e3,e4,e5,e6,e7,e8,e9,e10⟩:=zaf e;go_wp2_with fail;have t:Below w.heap.size w y.w:=HM.out.b.trans (y.h.below HM.out.n HM.out.b.size);refine bodyPost_ret (v:=.tuple #[.agg #[.int .i64 (sh:Int),.int .i64 (f 0:Int),.int .i64 (f 1:Int),.int .i64 (f 2:Int),.int .i64 (f 3:Int),.int .i64 (f 4:Int),.int .i64 (f 5:Int),.int .i64 (f 6:Int),.int .i64 (f 7:Int),.int .i64 (nn:Int),.int .u8 (z:Int)],.bool q]) (by rw[results_cell_tmp rfl];go_simp) rfl ?_;unfold RPost;refine⟨t,sh,f,nn,z,?_,fun x k=>?_⟩
 .rw[l.out];cases q<;>rfl
 .rw[l.out]at k;split at k
  .injection k with k;exact k.symm
  .cases k
theorem fld0 (s:Gr.Str) (a first c:Nat):fldAt s a first c 0=numAt s a first:=rfl
theorem fld1 (s:Gr.Str) (a first c:Nat):fldAt s a first c 1=if isAt s (a+first) (UInt8.ofNat c)=true then numAt s (a+first+1) 2 else none:=by
 unfold fldAt posAt;simp
theorem fld2 (s:Gr.Str) (a first c:Nat):fldAt s a first c 2=if isAt s (a+first+3) (UInt8.ofNat c)=true then numAt s (a+first+4) 2 else none:=by
 unfold fldAt posAt;simp[Nat.add_assoc]
theorem zfl {c:Prop} [Decidable c] {o:Option Nat} {v:Nat} (h:(if c then o else none)=some v):c/\o=some v:=by
 grind
theorem zfm {c:Prop} [Decidable c] {o:Option Nat} (h:(if c then o else none)=none):¬c\/o=none:=by
 grind
theorem zte {s:Gr.Str} {g:Nat->Nat} (h:∀j,j<3->fldAt s 0 4 45 j=some (g (0+j))):dateAt s=some (g 0,g 1,g 2):=by
 have a:=h 0 (by omega);have c:=h 1 (by omega);have b:=h 2 (by omega);rw[fld0]at a;rw[fld1]at c;rw[fld2]at b;obtain⟨d,i⟩:=zfl c;obtain⟨e,f⟩:=zfl b;unfold dateAt;rw[a,show(5:Nat)=0+4+1 from rfl,show(8:Nat)=0+4+4 from rfl,i,f];show(if(isAt s (0+4) (UInt8.ofNat 45) && isAt s (0+4+3) (UInt8.ofNat 45))=true then _ else _)=_;rw[d,e];rfl
theorem zm3 {s:Gr.Str} (h:∃j,j<3/\fldAt s 0 4 45 j=none):dateAt s=none:=by
 obtain⟨j,hj,h⟩:=h;unfold dateAt;have:j=0\/j=1\/j=2:=by omega
 rcases this with rfl|rfl|rfl
 .rw[fld0]at h;rw[h]
 .rw[fld1]at h;rcases zfm h with h|h
  .grind
  .grind
 .rw[fld2]at h;rcases zfm h with h|h
  .grind
  .grind
structure ClkIs (s:Gr.Str) (a h m c:Nat):Prop where
 h:numAt s a 2=some h
 m:numAt s (a+3) 2=some m
 c:numAt s (a+6) 2=some c
 i:isAt s (a+2) 58=true
 j:isAt s (a+5) 58=true
theorem zwk {s:Gr.Str} {a:Nat} {g:Nat->Nat} (h:∀j,j<3->fldAt s a 2 58 j=some (g (3+j))):ClkIs s a (g 3) (g 4) (g 5):=by
 have b:=h 0 (by omega);have d:=h 1 (by omega);have c:=h 2 (by omega);rw[fld0]at b;rw[fld1]at d;rw[fld2]at c;obtain⟨e,k⟩:=zfl d;obtain⟨f,i⟩:=zfl c;exact⟨b,k,i,e,f⟩
theorem zyj {s:Gr.Str} {a:Nat} (h:∃j,j<3/\fldAt s a 2 58 j=none):clockAt s a=none:=by
 obtain⟨j,hj,h⟩:=h;unfold clockAt;have:j=0\/j=1\/j=2:=by omega
 rcases this with rfl|rfl|rfl
 .rw[fld0]at h;rw[h]
 .rw[fld1]at h;rcases zfm h with h|h
  .grind
  .grind
 .rw[fld2]at h;rcases zfm h with h|h
  .grind
  .grind
theorem zqm {s:Gr.Str} {a h m c:Nat} (k:ClkIs s a h m c) (hd:isAt s (a+8) 46=false):clockAt s a=some ⟨h,m,c,0,a+8⟩:=by
 unfold clockAt;rw[k.h,k.m,k.c];simp only;rw[k.i,k.j,hd];rfl
theorem zwl {s:Gr.Str} {a h m c:Nat} (k:ClkIs s a h m c) (hd:isAt s (a+8) 46=true):clockAt s a=if((s.drop (a+9)).takeWhile Gr.dig).length=0\/9<((s.drop (a+9)).takeWhile Gr.dig).length then none
 else some ⟨h,m,c,Gr.val ((s.drop (a+9)).takeWhile Gr.dig)*10 ^ (9-((s.drop (a+9)).takeWhile Gr.dig).length),a+9+((s.drop (a+9)).takeWhile Gr.dig).length⟩:=by
 unfold clockAt;rw[k.h,k.m,k.c];simp only;rw[k.i,k.j,hd];rfl
theorem zbt {s:Gr.Str} {p b:Nat} (hp:p<s.length) (hb:(s[p]'hp).toNat=b) (c:UInt8):isAt s p c=decide (b=c.toNat):=by
 unfold isAt;rw[List.getElem?_eq_getElem hp,<-hb,Bool.eq_iff_iff];simp;exact⟨fun e=>by rw[e],fun e=>UInt8.toNat_inj.1 e⟩
theorem zyk {s:Gr.Str} {p:Nat} (hp:p<s.length) (hb:(s[p]'hp).toNat=90):zoneAt s p=some ⟨90,0,0,p+1⟩:=by
 unfold zoneAt;rw[if_pos (by rw[zbt hp hb];rfl)]
theorem zlg {s:Gr.Str} {p b:Nat} (hp:p<s.length) (hb:(s[p]'hp).toNat=b) (h1:b≠90) (h2:b≠43) (h3:b≠45):zoneAt s p=none:=by
 unfold zoneAt;rw[if_neg (by rw[zbt hp hb];simpa using h1)];split
 .rw[if_neg];rw[zbt hp hb,zbt hp hb];simp[h2,h3]
 .rfl
theorem ztf {s:Gr.Str} {p b:Nat} {g:Nat->Nat} (hp:p<s.length) (hb:(s[p]'hp).toNat=b) (h2:b=43\/b=45) (h:∀j,j<2->fldAt s (p+1) 2 58 j=some (g (6+j))):∃z:Gr.Zn,zoneAt s p=some z/\z.z.toNat=b/\z.h=g 6/\z.m=g 7/\z.stop=p+6:=by
 have a:=h 0 (by omega);have c:=h 1 (by omega);rw[fld0]at a;rw[fld1]at c;obtain⟨d,e⟩:=zfl c;refine⟨⟨s.getD p 0,g 6,g 7,p+6⟩,?_,?_,rfl,rfl,rfl⟩
 .unfold zoneAt;rw[if_neg (by rw[zbt hp hb];rcases h2 with rfl|rfl<;>decide),a,show p+4=p+1+2+1 from rfl,e];simp only;rw[if_pos];rw[zbt hp hb,zbt hp hb,Bool.and_eq_true];exact⟨by rcases h2 with rfl|rfl<;>decide,d⟩
 .grind
theorem zm4 {s:Gr.Str} {p b:Nat} (hp:p<s.length) (hb:(s[p]'hp).toNat=b) (h2:b≠90) (h:∃j,j<2/\fldAt s (p+1) 2 58 j=none):zoneAt s p=none:=by
 obtain⟨j,hj,h⟩:=h;unfold zoneAt;rw[if_neg (by rw[zbt hp hb];simpa using h2)];have:j=0\/j=1:=by omega
 rcases this with rfl|rfl
 .rw[fld0]at h;rw[h]
 .rw[fld1]at h;rcases zfm h with h|h
  .grind
  .grind
def zbf (s:Gr.Str) (a:Nat) (date:Bool) (Y M D:Int) (w:World) (e:Ending) (w':World):Prop:=∃(t:RT) (r:Int),e=.returned (.tuple #[t.v,.int .i64 r])/\Below w.heap.size w w'/\
 match clockAt s a with
 |none=>r=-1
 |some k=>r=(k.stop:Int)/\t=⟨date,true,false,Y,M,D,k.h,k.m,k.s,k.nanos,0,false⟩
def fracU (n:Nat):Nat:=if n<=8 then 10 ^ (8-n)else 0
structure Frac (s:Gr.Str) (b n N U:Nat):Prop where
 le:b+n<=s.length
 dig:((s.drop b).take n).all Gr.dig=true
 u:U=fracU n
 nn:n<=9->N=Gr.val ((s.drop b).take n)*10 ^ (9-n)
 hi:N<=999999999
theorem zqr (n:Nat):fracU n /10=fracU (n+1):=by
 unfold fracU;by_cases h:n+1<=8
 .rw[if_pos (by omega),if_pos h,show 8-n=(8-(n+1))+1 from by omega,Nat.pow_succ,Nat.mul_div_cancel _ (by omega)]
 .grind
theorem Frac.start {s:Gr.Str} {b:Nat} (h:b<=s.length):Frac s b 0 0 100000000:=⟨h,by simp,by simp[fracU],fun _=>by simp[Gr.val],by omega⟩
theorem Frac.next {s:Gr.Str} {b n N U:Nat} (h:Frac s b n N U) (hlt:b+n<s.length) (hd:Gr.dig (s[b+n])=true):Frac s b (n+1) (N+U*Gr.dv s[b+n]) (U /10):=by
 have d:=zco s b n hlt;have c:((s.drop b).take (n+1)).all Gr.dig=true:=by rw[d,List.all_append,h.dig];simp[hd]
 refine⟨by omega,c,by rw[h.u,zqr],?_,?_⟩
 .intro g;rw[h.nn (by omega),d,zbi,h.u];unfold fracU;rw[if_pos (by omega),show 9-n=(8-n)+1 from by omega,Nat.pow_succ,show 9-(n+1)=8-n from by omega];rw[Nat.add_mul,Nat.mul_comm (10 ^ (8-n)) (Gr.dv _)]
  congr 1
  rw[Nat.mul_comm (10 ^ (8-n)) 10,<-Nat.mul_assoc,Nat.mul_comm (Gr.val _) 10]
 .by_cases g:n+1<=9
  .have e:N+U*Gr.dv s[b+n]=Gr.val ((s.drop b).take (n+1))*10 ^ (9-(n+1)):=by
    rw[h.nn (by omega),d,zbi,h.u];unfold fracU;rw[if_pos (by omega),show 9-n=(8-n)+1 from by omega,Nat.pow_succ,show 9-(n+1)=8-n from by omega];rw[Nat.add_mul,Nat.mul_comm (10 ^ (8-n)) (Gr.dv _)]
    congr 1
    rw[Nat.mul_comm (10 ^ (8-n)) 10,<-Nat.mul_assoc,Nat.mul_comm (Gr.val _) 10]
   rw[e];have f:=zew _ c;have a:((s.drop b).take (n+1)).length=n+1:=by simp;omega
   rw[a]at f;have:Gr.val ((s.drop b).take (n+1))*10 ^ (9-(n+1))<10 ^ (n+1)*10 ^ (9-(n+1)):=Nat.mul_lt_mul_of_pos_right f (Nat.pow_pos (by omega));rw[<-Nat.pow_add,show n+1+(9-(n+1))=9 from by omega]at this;omega
  .have:U=0:=by rw[h.u];unfold fracU;rw[if_neg (by omega)]
   rw[this,Nat.zero_mul];exact h.hi
theorem Frac.stop {s:Gr.Str} {b n N U:Nat} (h:Frac s b n N U) (hn:∀h2:b+n<s.length,Gr.dig (s[b+n]'h2)=false):(s.drop b).takeWhile Gr.dig=(s.drop b).take n:=by
 have a:s.drop b=(s.drop b).take n++s.drop (b+n):=by
  rw[<-List.drop_drop];exact(List.take_append_drop n (s.drop b)).symm
 rw[a,List.takeWhile_append_of_pos (by simpa using h.dig)];have h2:(s.drop (b+n)).takeWhile Gr.dig=[]:=by
  rcases Nat.lt_or_ge (b+n) s.length with h3|h3
  .rw[List.drop_eq_getElem_cons h3,List.takeWhile_cons,hn h3];rfl
  .rw[List.drop_eq_nil_of_le h3];rfl
 have hle:=h.le;rw[h2,List.append_nil,List.take_append_of_le_length (by simp;omega),List.take_take,Nat.min_self]
theorem zm7 {s:Gr.Str} {a h m c n N U:Nat} (h1:numAt s a 2=some h) (h2:numAt s (a+3) 2=some m) (h3:numAt s (a+6) 2=some c) (h4:isAt s (a+2) 58=true) (h5:isAt s (a+5) 58=true) (h6:isAt s (a+8) 46=true)
 (hf:Frac s (a+9) n N U) (hn:∀h2:a+9+n<s.length,Gr.dig (s[a+9+n]'h2)=false):clockAt s a=if n<1\/9<n then none else some ⟨h,m,c,N,a+9+n⟩:=by
 have e:=hf.stop hn;have hle:=hf.le;have b:((s.drop (a+9)).take n).length=n:=by simp;omega
 unfold clockAt;rw[h1,h2,h3,h4,h5,h6,e,b];simp only[Bool.and_self,if_true];by_cases hc:n<1\/9<n
 .grind
 .rw[if_neg hc,if_neg (by omega),hf.nn (by omega)]
theorem zj6 {s:Gr.Str} {a h m c:Nat} (h1:numAt s a 2=some h) (h2:numAt s (a+3) 2=some m) (h3:numAt s (a+6) 2=some c) (h4:isAt s (a+2) 58=true) (h5:isAt s (a+5) 58=true) (h6:isAt s (a+8) 46=false):clockAt s a=some ⟨h,m,c,0,a+8⟩:=by
 unfold clockAt;rw[h1,h2,h3,h4,h5,h6];rfl
end Go.Proofs.YtpjmhafmeieloaaGreatDoor
