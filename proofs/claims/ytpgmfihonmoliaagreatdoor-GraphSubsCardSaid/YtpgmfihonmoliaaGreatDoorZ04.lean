import Derived.Test.YtpgmfihonmoliaaGreatDoorZ03
import Derived.Test.YtpgmfihonmoliaaGreatDoorZ24
namespace Go.Proofs.YtpgmfihonmoliaaGreatDoor
open Gr
open _root_.Go.Proofs.Tryz
open _root_.Go.Lib (hid)
set_option maxRecDepth 100000
set_option maxHeartbeats 16000000
open Go.RowKit
theorem zhj (ns:List Gr.Nd) (j:Nat) (h:j<ns.length):allKeys (ns.take (j+1))=allKeys (ns.take j)++ns[j].keys:=by
 unfold allKeys;rw[List.take_succ_eq_append_getElem h,List.flatMap_append];simp
theorem zjc {ns:List Gr.Nd} (hr:Refs ns):∀x∈allKeys ns,x<ns.length:=by
 intro x b;obtain⟨y,c,a⟩:=List.mem_flatMap.1 b;exact hr y c x (List.mem_append_left _ a)
theorem zkj (ns:List Gr.Nd) (j:Nat):∀x∈allKeys (ns.take j),x∈allKeys ns:=by
 intro x b;obtain⟨y,c,a⟩:=List.mem_flatMap.1 b;exact List.mem_flatMap.2 ⟨y,List.mem_of_mem_take c,a⟩
theorem zhk (n:Nat) (m:List Bool):unm n m<=n:=Nat.le_trans List.countP_le_length (by simp)
theorem zer {ns:List Gr.Nd} (hr:Refs ns) (L:List Nat) (m:List Bool) (hL:∀x∈L,x<ns.length) (hm:m.length=ns.length):(L.foldl (dvisit (Gr.succ ns) ns.length) m).length=ns.length:=
 (zeq (zbq hr.succ ns.length) L m hL hm (zhk _ _)).len
theorem zlu (A:Option Addr) (c:Nat) (root:Int) (vs:List NV) (ns:List Gr.Nd) (hr:Refs ns) (hl:ns.length<=1073741823) (hks:∀n∈ns,n.keys.length<=1073741823/\n.items.length<=1073741823)
 (w:World) (h:GAt w w.heap.size A vs ns):
 Calls prog 30 #[.agg #[.slice A ns.length c,.int .i64 root]] w fun e w'=>∃ob,e=.returned (.slice (some ⟨ob,0,none⟩) ns.length ns.length)/\w.heap.size<=ob/\Below w.heap.size w w'/\Blk w' ob 4 (bcells (inKeys ns)):=by
 have H:=hid h;have hmk:=fun W=>zbm ns.length (by omega) W
 clear h;go_enter func30,ntmps30;go_upto_region 2 with fail;obtain⟨v,b⟩:=ex ((w.alloc (.cells #[.slice A ns.length c,.int .i64 root] 24)).alloc (.cells (bcells (List.replicate ns.length false)) 4))
 have l3:Below w.heap.size w v:=by rw[<-b];exact((Below.refl _ _).alloc (Nat.le_refl _) _).alloc (by simp) _
 have bg:Blk v w.heap.size 24 #[.slice A ns.length c,.int .i64 root]:=by rw[<-b];exact(Blk.new _ _ _).alloc _
 obtain⟨p,f⟩:=ex (List.replicate ns.length false)
 rw[f]at b;have bo:Blk v (w.heap.size+1) 4 (bcells p):=by
  rw[<-b];have:=Blk.new (w.alloc (.cells #[.slice A ns.length c,.int .i64 root] 24)) 4 (bcells p);rw[World.size_alloc]at this;exact this
 have g0:v.cell? ⟨w.heap.size,0,none⟩=some (.slice A ns.length c):=bg.cell 0;have ab:Hid (p.length=ns.length):=hid (by rw[<-f];simp);have M:Hid (inKeys ns=(allKeys ns).foldl (dvisit (Gr.succ ns) ns.length) p):=hid (by rw[<-f];rfl);have P:=hid l3;have G:=hid bo;have D:=hid bg;rw[f,b];obtain⟨ob,C⟩:=ex (w.heap.size+1)
 obtain⟨X,z⟩:=ex w.heap.size
 have a:Hid (w.heap.size<=ob/\w.heap.size<=v.heap.size/\X≠ob):=hid ⟨by omega,P.out.size,by omega⟩;rw[C]at G ⊢;rw[z]at g0 D;rw[show(Value.pointer (some ({block:=w.heap.size,off:=0}:Addr)))=.pointer (some {block:=X,off:=0})from by rw[z]];clear b l3 bo bg f C z;go_upto_region 3 with fail;clear g0;go_loopw [15] (fun s15 wr=>∃j:Nat,j<=ns.length/\s15=.int .i64 j/\Hid (KB ob v wr/\Blk wr ob 4 (bcells ((allKeys (ns.take j)).foldl (dvisit (Gr.succ ns) ns.length) p)))) (fun s15 _=>ns.length-(intOf s15).toNat)
 case atStart=>exact⟨0,by omega,rfl,hid ⟨KB.refl _ _,by simpa[allKeys]using G.out⟩⟩
 case round=>
  obtain⟨j,hj,rfl,t⟩:=hrel;obtain⟨d,R⟩:∃d,d=wr:=⟨_,rfl⟩
  subst R;by_cases hlt:j<ns.length
  .have I:(j:Int)<(ns.length:Int):=by omega
   have E:Hid (GAt d w.heap.size A vs ns):=hid (H.out.below (P.out.trans (t.out.1.below a.out.1 a.out.2.1)));obtain⟨ad,k,i,rfl,l⟩:=E.out.node hlt;obtain⟨Y,kn,Z⟩:=k;obtain⟨ia,S,ic⟩:=i;have u:ns[j]∈ns:=List.getElem_mem hlt;obtain⟨U,Q⟩:=hks _ u;have B:Hid (∀x∈ns[j].keys,x<ns.length):=hid (fun x r=>hr _ u x (List.mem_append_left _ r));obtain⟨q,o⟩:=ex ((allKeys (ns.take j)).foldl (dvisit (Gr.succ ns) ns.length) p)
   have T:Hid (q.length=ns.length):=hid (by rw[<-o];exact zer hr _ _ (fun x r=>zjc hr x (zkj ns j x r)) ab.out);have V:=hid o;have L:Hid ((allKeys (ns.take (j+1))).foldl (dvisit (Gr.succ ns) ns.length) p=ns[j].keys.foldl (dvisit (Gr.succ ns) ns.length) q):=hid (by rw[zhj ns j hlt,List.foldl_append,o]);obtain⟨n,hn⟩:=ex (ns[j])
   rw[hn]at l B L U Q;obtain rfl:kn=n.keys.length:=l.kn;obtain rfl:S=n.items.length:=l.inn;have x0:=l.c0;have x1:=l.c1;have x2:=l.c2;have x3:=l.c3;have x4:=l.c4;have aa:=hid l.keys;have m:Hid (w.heap.size<=ob/\w.heap.size<=d.heap.size):=hid ⟨a.out.1,Nat.le_trans a.out.2.1 t.out.1.size⟩;clear l u o hn;go_upto_region 5 with fail;obtain⟨O,g⟩:=ex (d.alloc (.cells #[.int .i64 n.kind,.string ⟨n.text.toArray⟩,.bool n.ord,.slice Y n.keys.length Z,.slice ia n.items.length ic] 38))
   have b5:Blk O d.heap.size 38 (ncells n ⟨Y,n.keys.length,Z⟩ ⟨ia,n.items.length,ic⟩):=by rw[<-g];exact Blk.new _ _ _
   have s3:O.cell? ⟨d.heap.size,3,none⟩=some (.slice Y n.keys.length Z):=b5.cell 3;have HA:Hid (KB ob d O/\Blk O ob 4 (bcells q)):=hid ⟨by rw[<-g];exact(KB.refl _ _).alloc _,by
    have:=t.out.2;rw[V.out]at this;rw[<-g];exact this.alloc _⟩
   rw[g];clear g b5 x0 x1 x2 x3 x4;go_upto_region 6 with fail;clear s3;go_loopw [22] (fun s22 wr=>∃k:Nat,k<=n.keys.length/\s22=.int .i64 k/\Hid (KB ob d wr/\Blk wr ob 4 (bcells ((n.keys.take k).foldl (dvisit (Gr.succ ns) ns.length) q)))) (fun s22 _=>n.keys.length-(intOf s22).toNat)
   case atStart=>exact⟨0,by omega,rfl,hid ⟨HA.out.1,by simpa using HA.out.2⟩⟩
   case round=>
    obtain⟨k,hk,rfl,s⟩:=hrel;by_cases hlk:k<n.keys.length
    .have F:(k:Int)<(n.keys.length:Int):=by omega
     obtain⟨x,r⟩:=ex (n.keys[k])
     obtain⟨ad2,rfl,_,y0⟩:=zaf (aa.out.below (s.out.1.below m.out.1 m.out.2)) hlk;rw[r]at y0;have J:Blk wr X 24 _:=s.out.1.blk (t.out.1.blk D.out a.out.2.2) a.out.2.2;obtain⟨g0,g1⟩:=cells2 J;have HC:=hid (zc4 ob (some ad) c root vs ns w.heap.size hr hl hks ((n.keys.take k).foldl (dvisit (Gr.succ ns) ns.length) q) x wr (E.out.below (s.out.1.below m.out.1 m.out.2)) a.out.1 s.out.2
      (zer hr _ _ (fun y hy=>B.out y (List.mem_of_mem_take hy)) T.out) (B.out x (r▸List.getElem_mem hlk)) (zhk _ _))
     have HT:Hid ((n.keys.take (k+1)).foldl (dvisit (Gr.succ ns) ns.length) q=dvisit (Gr.succ ns) ns.length ((n.keys.take k).foldl (dvisit (Gr.succ ns) ns.length) q) x):=hid (by rw[zai _ _ hlk,List.foldl_append,r];rfl);clear r J;go_wp2_with fail;refine HC.out.mono ?_;rintro e w6 ⟨rfl,N,K⟩;have ac:Hid (KB ob d w6/\Blk w6 ob 4 (bcells ((n.keys.take (k+1)).foldl (dvisit (Gr.succ ns) ns.length) q))):=hid ⟨s.out.1.trans N,by rw[HT.out];exact K⟩;clear N K;go_wp2;go_roundw
     case rel=>exact⟨k+1,by omega,by go_num,ac⟩
     case measure=>simp[intOf];omega
    .have F:¬((k:Int)<(n.keys.length:Int)):=by omega
     have HE:Hid (KB ob v wr/\Blk wr ob 4 (bcells ((allKeys (ns.take (j+1))).foldl (dvisit (Gr.succ ns) ns.length) p))):=hid ⟨t.out.1.trans s.out.1,by
      have:=s.out.2;rw[show k=n.keys.length from by omega,List.take_length]at this;rw[L.out];exact this⟩
     clear s hk;go_wp2;go_roundw
     case rel=>exact⟨j+1,by omega,by go_num,HE⟩
     case measure=>simp[intOf];omega
  .have I:¬((j:Int)<(ns.length:Int)):=by omega
   have HE:Hid (Below w.heap.size w d/\Blk d ob 4 (bcells (inKeys ns))):=hid ⟨P.out.trans (t.out.1.below a.out.1 a.out.2.1),by
    have:=t.out.2;rw[show j=ns.length from by omega,List.take_length]at this;rw[M.out];exact this⟩
   clear t;go_wp2;go_ret;exact⟨ob,rfl,a.out.1,HE.out⟩
def nameC (c:UInt8):Bool:=(97<=c && c<=122) || (65<=c && c<=90) || (48<=c && c<=57) || c==95 || c==45 || c==46 || c==58
theorem zhl (c:UInt8):nameC c=true↔(97<=c.toNat/\c.toNat<=122)\/(65<=c.toNat/\c.toNat<=90)\/(48<=c.toNat/\c.toNat<=57)\/c.toNat=95\/c.toNat=45\/c.toNat=46\/c.toNat=58:=by
 have e:∀n:Nat,n<256->(c=UInt8.ofNat n↔c.toNat=n):=fun n hn=>⟨fun h=>by rw[h];simp;omega,fun h=>by rw[<-h];simp⟩
 unfold nameC;simp only[Bool.or_eq_true,Bool.and_eq_true,decide_eq_true_eq,beq_iff_eq,UInt8.le_iff_toNat_le];rw[show(c=95)=(c=UInt8.ofNat 95)from rfl,show(c=45)=(c=UInt8.ofNat 45)from rfl,show(c=46)=(c=UInt8.ofNat 46)from rfl,show(c=58)=(c=UInt8.ofNat 58)from rfl,e 95 (by omega),e 45 (by omega),e 46 (by omega),e 58 (by omega)];simp[or_assoc]
theorem byte_at (s:Gr.Str) (k:Nat) (hk:k<s.length) (c:UInt8) (h:s[k]=c):(((⟨s.toArray⟩:ByteArray)[k]'(by simpa[ByteArray.size]using hk)).toNat:Int)=(c.toNat:Int):=by
 have:(⟨s.toArray⟩:ByteArray)[k]'(by simpa[ByteArray.size]using hk)=s[k]:=rfl;rw[this,h]
theorem zdk (s:Gr.Str) (hs:s.length<=1073741823) (w:World):Calls prog 49 #[.string ⟨s.toArray⟩] w fun e w'=>e=.returned (.bool (nameB s))/\w'=w:=by
 have k:Hid (∀r:Bool,r=nameB s↔r=(s.all nameC && decide (1<=s.length) && decide (s.length<=64))):=hid (fun r=>by
  have:nameB s=(s.all nameC && decide (1<=s.length) && decide (s.length<=64)):=rfl;rw[this])
 go_enter func49,ntmps49;go_upto_region 2 with fail;go_loop [7] (fun x=>∃i:Nat,i<=s.length/\x=.int .i64 i/\Hid ((s.take i).all nameC=true)) (fun i=>s.length-(intOf i).toNat)
 case atStart=>exact⟨0,by omega,rfl,hid (by simp)⟩
 case round=>
  obtain⟨i,hi,rfl,q⟩:=hrel;by_cases hil:i<s.length
  .have d:(i:Int)<(s.length:Int):=by omega
   obtain⟨c,j⟩:=ex (s[i])
   have q0:=byte_at s i hil c j;have hbd:c.toNat<256:=c.toNat_lt;have hn:=zhl c;have f:Hid ((s.take (i+1)).all nameC=nameC c):=hid (by rw[List.take_succ_eq_append_getElem hil,List.all_append,q.out,j];simp);by_cases hy:nameC c=true
   .have p:Hid ((s.take (i+1)).all nameC=true):=hid (by rw[f.out,hy]);have hn:=hn.1 hy;clear hy f j;rcases hn with hn|hn|hn|hn|hn|hn|hn
    all_goals
     go_wp2;go_round
     case rel=>exact⟨i+1,by omega,by go_num,p⟩
     case measure=>simp[intOf];omega
   .have a:Hid (nameB s=false):=hid (by
     have b:(s.take (i+1)).all nameC=false:=by rw[f.out];simpa using hy
     have g:s.all nameC=false:=by
      cases e:s.all nameC with
      |false=>rfl
      |true=>
       rw[List.all_eq_true]at e;rw[List.all_eq_false]at b;obtain⟨x,z,o⟩:=b;exact absurd (e x (List.mem_of_mem_take z)) o
     exact((k.out false).2 (by rw[g];rfl)).symm)
    have hn:=fun h=>hy (hn.2 h)
    have y:¬(97<=c.toNat/\c.toNat<=122):=fun h=>hn (.inl h)
    have v:¬(65<=c.toNat/\c.toNat<=90):=fun h=>hn (.inr (.inl h))
    have u:¬(48<=c.toNat/\c.toNat<=57):=fun h=>hn (.inr (.inr (.inl h)))
    have C:¬(c.toNat=95):=fun h=>hn (.inr (.inr (.inr (.inl h))))
    have A:¬(c.toNat=45):=fun h=>hn (.inr (.inr (.inr (.inr (.inl h)))))
    have B:¬(c.toNat=46):=fun h=>hn (.inr (.inr (.inr (.inr (.inr (.inl h))))))
    have t:¬(c.toNat=58):=fun h=>hn (.inr (.inr (.inr (.inr (.inr (.inr h))))))
    clear hn hy j f;have l:c.toNat<45\/c.toNat=47\/(59<=c.toNat/\c.toNat<=64)\/(91<=c.toNat/\c.toNat<=94)\/c.toNat=96\/122<c.toNat:=by omega
    have e4:((c.toNat:Int)==95)=false:=by simp;omega
    have e5:((c.toNat:Int)==45)=false:=by simp;omega
    have e6:((c.toNat:Int)==46)=false:=by simp;omega
    have e7:((c.toNat:Int)==58)=false:=by simp;omega
    clear y v u C A B t;rcases l with hn|hn|hn|hn|hn|hn
    all_goals
     go_wp2_with fail
     all_goals first
      | (go_ret;exact⟨by rw[a.out]<;>rfl,rfl⟩)
      | (exfalso;rename_i h;simp only[Bool.not_eq_false',decide_eq_true_eq]at h;omega)
  .have d:¬((i:Int)<(s.length:Int)):=by omega
   have D:Hid (s.all nameC=true):=hid (by have:=q.out;rwa[List.take_of_length_le (by omega)]at this);by_cases b:1<=s.length
   .have n:(1:Int)<=(s.length:Int):=by omega
    by_cases g:s.length<=64
    .have m:(s.length:Int)<=64:=by omega
     have a:Hid (nameB s=true):=hid ((k.out true).2 (by rw[D.out];simp[b,g])).symm;go_wp2;go_ret;exact⟨by rw[a.out]<;>rfl,rfl⟩
    .have m:¬((s.length:Int)<=64):=by omega
     have a:Hid (nameB s=false):=hid ((k.out false).2 (by simp[g])).symm;go_wp2;go_ret;exact⟨by rw[a.out]<;>rfl,rfl⟩
   .have n:¬((1:Int)<=(s.length:Int)):=by omega
    have a:Hid (nameB s=false):=hid ((k.out false).2 (by simp[b])).symm;go_wp2;go_ret;exact⟨by rw[a.out]<;>rfl,rfl⟩
section
variable {P:Program} {ops:Array Oper} {md:Region.Mode}
def nopOf (o:Oper):Oper:={o with op:=.move (.const (.bool false)),dst:=none}
def zg4 (md:Region.Mode) (ops:Array Oper):Bool:=(List.range ops.size).all fun j=>((ops[j]?).map (·.after.all fun e=>!Region.binds md e || decide (e.on<j))).getD true
def apartB (ops:Array Oper):Bool:=(List.range ops.size).all fun i=>(List.range ops.size).all fun j=>decide (i=j) || match ops[i]?.bind (·.dst),ops[j]?.bind (·.dst)with
 |some a,some b=>decide (a≠b)
 |_,_=>true
def waitsB (md:Region.Mode) (ops:Array Oper) (s:Nat) (d:Tmp):Bool:=(List.range ops.size).all fun j=>!(decide (ops[j]?.bind (·.dst)=some d)) || Region.waitsFor md ops s j
theorem zsy {i j:Nat} {a:Tmp} (h:apartB ops=true) (hi:i<ops.size) (hj:j<ops.size) (hne:i≠j) (ha:ops[i]?.bind (·.dst)=some a):ops[j]?.bind (·.dst)≠some a:=by
 intro c;have b:=List.all_eq_true.1 (List.all_eq_true.1 h i (List.mem_range.2 hi)) j (List.mem_range.2 hj);rw[ha,c]at b;simp[hne]at b
theorem zg5 {C:World->Prop} {aF:Act} {d:Tmp}:∀(fuel:Nat) (listed:Array Bool) (a:Act),(∀j,listed.getD j true=false->ops[j]?.bind (·.dst)≠some d)->
 wpAnyQ P md ops C (fun a'=>a'=aF) fuel listed a->a.tmps[d]? =aF.tmps[d]?
 | 0,_,_,_,h=>by rw[h.2]
 |fuel+1,listed,a,hd,h=>by
  cases hr:Region.ready md ops listed with
  |nil=>rw[h.1 hr]
  |cons i l=>
   have n:i∈Region.ready md ops listed:=by rw[hr];exact .head _
   obtain⟨e,o,f,_⟩:=mem_ready.1 n;have k:o.dst≠some d:=by have:=hd i e;rwa[f]at this
   have m:∀j,(listed.setIfInBounds i true).getD j true=false->ops[j]?.bind (·.dst)≠some d:=by
    intro j hj;by_cases hij:i=j
    .subst hij;rw[f];exact k
    .simp_all
   have c:∀v,wpAnyQ P md ops C (fun a'=>a'=aF) fuel (listed.setIfInBounds i true) (a.put o.dst v)->a.tmps[d]? =aF.tmps[d]? :=by
    intro v g;have:=zg5 fuel _ _ m g;rw[<-this];unfold Act.put;cases hod:o.dst with
    |none=>rfl
    |some d2=>
     grind
   have b:=h.2 i n;unfold qOp at b;simp only[f]at b;split at b
   .obtain⟨v,_,g⟩:=b;exact c v g
   .exact c _ b
theorem zsz {a:Act} {dst:Option Tmp} {u v:Value} (h:∀d,dst=some d->(a.put dst u).tmps[d]? =(a.put dst v).tmps[d]?):a.put dst u=a.put dst v:=by
 cases dst with
 |none=>rfl
 |some d=>
  have b:=h d rfl;unfold Act.put at b ⊢;simp only at b ⊢;by_cases hd:d<a.tmps.size
  .grind
  .rw[Array.setIfInBounds_eq_of_size_le (Nat.not_lt.1 hd),Array.setIfInBounds_eq_of_size_le (Nat.not_lt.1 hd)]
theorem zmm {listed:Array Bool} (he:zg4 md ops=true) (hsz:listed.size=ops.size) (hr:Region.ready md ops listed=[]):∀j,j<ops.size->listed.getD j false=true:=by
 intro j
 induction j using Nat.strongRecOn with
 |_ j ih=>
  intro b;cases hl:listed.getD j false with
  |true=>rfl
  |false=>
   exfalso;have d:j∈Region.ready md ops listed:=by
    rw[mem_ready];refine⟨getD_in (by omega) hl,ops[j],Array.getElem?_eq_getElem b,fun e a g=>?_⟩;have c:=List.all_eq_true.1 he j (List.mem_range.2 b);rw[Array.getElem?_eq_getElem b]at c;simp only[Option.map_some,Option.getD_some]at c;have f:=Array.all_eq_true'.1 c e a;simp only[g,Bool.not_true,Bool.false_or,decide_eq_true_eq]at f;exact ih e.on f (by omega)
   rw[hr]at d;cases d
variable {s:Nat} {os:Oper} {D:Bool->World->Prop} {aF:Act} {Q:Exit->Act->World->Prop}
theorem zps (_hs:ops[s]? =some os) {j:Nat} (hne:j≠s):(ops.setIfInBounds s (nopOf os))[j]? =ops[j]? :=Array.getElem?_setIfInBounds_ne (Ne.symm hne)
theorem zg6 (hs:ops[s]? =some os):(ops.setIfInBounds s (nopOf os))[s]? =some (nopOf os):=Array.getElem?_setIfInBounds_self_of_lt (Array.getElem?_eq_some_iff.1 hs).1
theorem zjs (hs:ops[s]? =some os) (hd:os.dst=none) (j:Nat):(ops.setIfInBounds s (nopOf os))[j]?.bind (·.dst)=ops[j]?.bind (·.dst):=by
 by_cases h:j=s
 .subst h;rw[zg6 hs,hs];simp[nopOf,hd]
 .rw[zps hs h]
theorem zjt (hs:ops[s]? =some os) (hd:os.dst=none) (t:Array Value):yielded (ops.setIfInBounds s (nopOf os)) t=yielded ops t:=by
 funext j
 unfold yielded;rw[zjs hs hd]
theorem zij (hs:ops[s]? =some os) (listed:Array Bool) (i:Nat):i∈Region.ready md (ops.setIfInBounds s (nopOf os)) listed↔i∈Region.ready md ops listed:=by
 rw[mem_ready,mem_ready];by_cases h:i=s
 .subst h;rw[zg6 hs,hs];constructor
  .rintro⟨a,o,c,b⟩;injection c with c
   subst c;exact⟨a,os,rfl,b⟩
  .rintro⟨a,o,c,b⟩;injection c with c
   subst c;exact⟨a,_,rfl,b⟩
 .rw[zps hs h]
theorem zpt {p q:Tmp} {ty:TypeId} (hs:ops[s]? =some os) (hd:os.dst=none) (hg:os.guard=none) (hop:os.op=.store ty (.tmp p) (.tmp q)) (he:zg4 md ops=true) (hap:apartB ops=true) (hp:waitsB md ops s p=true) (hq:waitsB md ops s q=true)
 (hst:∀w,D false w->∃w',(execOp aF.eval os).run P w=.ok .skip w'/\D true w') (hend:∀w,D true w->Q .normal aF w):
 ∀(fuel:Nat) (listed:Array Bool) (a:Act) (w:World),listed.size=ops.size->(∀b,wpAnyQ P md (ops.setIfInBounds s (nopOf os)) (D b) (fun a'=>a'=aF) fuel listed a)->D (listed.getD s false) w->wpAny P md ops Q fuel listed a w:=by
 have X:s<ops.size:=(Array.getElem?_eq_some_iff.1 hs).1;have k:∀(listed:Array Bool) (w:World),listed.size=ops.size->Region.ready md ops listed=[]->D (listed.getD s false) w->D true w:=fun listed w z t n=>by
  rwa[zmm he z t s X]at n
 have u:∀listed,Region.ready md (ops.setIfInBounds s (nopOf os)) listed=[]↔Region.ready md ops listed=[]:=fun listed=>by
  rw[List.eq_nil_iff_forall_not_mem,List.eq_nil_iff_forall_not_mem];exact forall_congr' (fun i=>not_congr (zij hs listed i))
 intro fuel
 induction fuel with
 |zero=>
  intro listed a w z t n;have f:=t true;refine⟨(u listed).1 f.1,?_⟩;rw[f.2];exact hend w (k listed w z ((u listed).1 f.1) n)
 |succ fuel ih=>
  intro listed a w z t n;refine⟨fun hr=>?_,fun i hi=>?_⟩
  .rw[(t true).1 ((u listed).2 hr)];exact hend w (k listed w z hr n)
  .obtain⟨W,o,r,E⟩:=mem_ready.1 hi;have I:i<ops.size:=(Array.getElem?_eq_some_iff.1 r).1;have F:=(zij (md:=md) hs listed i).2 hi;have m:(listed.setIfInBounds i true).size=ops.size:=by simpa using z
   by_cases his:i=s
   .subst his;obtain rfl:o=os:=Option.some.inj (r.symm.trans hs);have H:∀b,wpAnyQ P md (ops.setIfInBounds i (nopOf o)) (D b) (fun a'=>a'=aF) fuel (listed.setIfInBounds i true) a:=fun b=>by
     have f:=(t b).2 i F;unfold qOp at f;rw[zg6 hs]at f;simp only at f;rw[if_pos (show Region.wanted (nopOf o) _=true by simp[Region.wanted,nopOf,hg])]at f;obtain⟨v,_,L⟩:=f;exact L
    have g:∀d,waitsB md ops i d=true->a.tmps[d]? =aF.tmps[d]? :=fun d V=>by
     refine zg5 (C:=D true) fuel _ a (fun j hj G=>?_) (H true);rw[zjs hs hd]at G;have x:j<ops.size:=by
      grind
     have M:=List.all_eq_true.1 V j (List.mem_range.2 x);rw[decide_eq_true G]at M;simp only[Bool.not_true,Bool.false_or]at M;obtain⟨oj,Y,e,R,T,N⟩:=Region.waitsFor_spec M;obtain rfl:oj=o:=Option.some.inj (Y.symm.trans r);have h6:=E e R T;rw[N]at h6;by_cases hij:i=j
     .grind
     .simp_all
    have y:listed.getD i false=false:=getD_both W;rw[y]at n;obtain⟨w',B,hD⟩:=hst w n;have S:execOp a.eval o=execOp aF.eval o:=by
     have e1:a.eval (.tmp p)=aF.eval (.tmp p):=by
      show a.tmps.getD p undef=aF.tmps.getD p undef;rw[Array.getD_eq_getD_getElem?,Array.getD_eq_getD_getElem?,g p hp]
     have e2:a.eval (.tmp q)=aF.eval (.tmp q):=by
      show a.tmps.getD q undef=aF.tmps.getD q undef;rw[Array.getD_eq_getD_getElem?,Array.getD_eq_getD_getElem?,g q hq]
     unfold execOp;rw[hop];simp only[e1,e2]
    unfold wpOp;rw[r];simp only[Region.wanted,hg,if_true];left;unfold Oper.wp;rw[S,B];show wpAny P md ops Q fuel (listed.setIfInBounds i true) (a.put o.dst undef) w';rw[hd];refine ih _ a w' m H ?_;rw[show(listed.setIfInBounds i true).getD i false=true from by
     have:i<listed.size:=by omega
     simp[this]]
    exact hD
   .have y:(listed.setIfInBounds i true).getD s false=listed.getD s false:=getD_set_ne false his;have J:(ops.setIfInBounds s (nopOf os))[i]? =some o:=by rw[zps hs his,r]
    have c:∀b,(if Region.wanted o (yielded ops a.tmps)then o.quiet P a (D b) (wpAnyQ P md (ops.setIfInBounds s (nopOf os)) (D b) (fun a'=>a'=aF) fuel (listed.setIfInBounds i true))else wpAnyQ P md (ops.setIfInBounds s (nopOf os)) (D b) (fun a'=>a'=aF) fuel (listed.setIfInBounds i true) (a.put o.dst undef)):=fun b=>by
     have f:=(t b).2 i F;unfold qOp at f;rw[J]at f;simp only[zjt hs hd]at f;exact f
    unfold wpOp;rw[r];simp only;by_cases hw:Region.wanted o (yielded ops a.tmps)=true
    .rw[if_pos hw];left;simp only[hw,if_true]at c;have A:∀(b b':Bool) (v v':Value),wpAnyQ P md (ops.setIfInBounds s (nopOf os)) (D b) (fun a'=>a'=aF) fuel (listed.setIfInBounds i true) (a.put o.dst v)->wpAnyQ P md (ops.setIfInBounds s (nopOf os)) (D b') (fun a'=>a'=aF) fuel (listed.setIfInBounds i true) (a.put o.dst v')->a.put o.dst v=a.put o.dst v':=fun b b' v v' k1 k2=>by
      refine zsz (fun d U=>?_);have h:∀j,(listed.setIfInBounds i true).getD j true=false->(ops.setIfInBounds s (nopOf os))[j]?.bind (·.dst)≠some d:=fun j hj=>by
       rw[zjs hs hd];have hij:i≠j:=by
        rintro rfl;have:i<listed.size:=by omega
        simp[this]at hj
       by_cases x:j<ops.size
       .exact zsy hap I x hij (by rw[r];exact U)
       .grind
      rw[zg5 fuel _ _ h k1,zg5 fuel _ _ h k2]
     obtain⟨v,L,hk⟩:=c (listed.getD s false);refine Oper.wp_of_quiet (C:=D (listed.getD s false)) (K:=fun a'=>∀b,wpAnyQ P md (ops.setIfInBounds s (nopOf os)) (D b) (fun Z=>Z=aF) fuel (listed.setIfInBounds i true) a') n (fun a' w' O l=>ih _ a' w' m l (by rw[y];exact O)) ⟨v,L,fun b=>?_⟩;obtain⟨v',_,l⟩:=c b;rw[A _ _ v v' hk l];exact l
    .grind
theorem zba {id:Nat} {l:List Oper} {a:Act} {w:World} {p q:Tmp} {ty:TypeId} (s:Nat) (hm:P.follows .mixedOrders=true) (l':List Oper) (hs:l.toArray[s]? =some os) (hl':l'=l.set s (nopOf os)) (hd:os.dst=none) (hg:os.guard=none) (hop:os.op=.store ty (.tmp p) (.tmp q))
 (hB:Region.lexB .any l'.toArray=true) (he:zg4 .any l.toArray=true) (hap:apartB l.toArray=true) (hp:waitsB .any l.toArray s p=true) (hq:waitsB .any l.toArray s q=true) (D:Bool->World->Prop) (hD:D false {w with drawn:=w.drawn+1})
 (h:∀b,wpQuiet P l'.toArray (D b) (fun a'=>a'=aF) l' a)
 (hst:∀w,D false w->∃w',(execOp aF.eval os).run P w=.ok .skip w'/\D true w') (hend:∀w,D true w->Q .normal aF w):(Code.region id l.toArray true).wp P Q a w:=by
 simp only[Region.lexB,Bool.and_eq_true]at hB;have e:l.toArray.setIfInBounds s (nopOf os)=l'.toArray:=by rw[hl'];simp
 have c:l'.length=l.toArray.size:=by rw[hl'];simp
 refine wp_region_any hm ?_;have hsl:s<l.toArray.size:=(Array.getElem?_eq_some_iff.1 hs).1;refine zpt hs hd hg hop he hap hp hq hst hend _ _ a _ (by simp) (fun b=>?_) (by rw[getD_replicate_false];exact hD);rw[e,<-c];have:=wpAnyQ_lex (C:=D b) (md:=.any) hB.1 l' 0 (Array.replicate l'.length false) a (by simp) (by simpa using hB.2) (h b);exact this
end
structure WL (g:Nat) (t:TypeId) (w0:World) (cs:Array Value) where
 w:World
 h:KB g w0 w
 hc:Blk w g t cs
theorem Calls.late {P:Program} {f:FuncId} {args:Array Value} {g:Nat} {t:TypeId} {w0:World} {cs:Array Value} {x:WL g t w0 cs} {v:Value} (h:Calls P f args x.w fun e w'=>e=.returned v/\Below x.w.heap.size x.w w'):
 Calls P f args x.w fun e w''=>e=.returned v/\∃y:WL g t w0 cs,w''=y.w:=h.mono fun _ _ ⟨b,a⟩=>⟨b,⟨_,x.h.trans (KB.of_below a),x.hc.below a x.hc.lt⟩,rfl⟩
def zk5 (s:Gr.Str) (a n ab:Nat) (w:World) (e:Ending) (w':World):Prop:=Kept1 ab w w'/\((∃v:Nat,numAt s a n=some v/\e=.returned (.tuple #[.int .i64 (v:Int),.bool true])/\Blk w' ab 3 #[.int .i64 ((a+n:Nat):Int)])\/(numAt s a n=none/\e=.returned (.tuple #[.int .i64 0,.bool false])/\∃a':Nat,a'<=s.length/\Blk w' ab 3 #[.int .i64 (a':Int)]))
theorem zs7 (s:Gr.Str) (hl:s.length<=1073741823) (ab sb a n:Nat) (j:Int) (hj:j=(n:Int)) (hn:n<=9) (ha:a<=s.length) (w:World) (hA:Blk w ab 3 #[.int .i64 (a:Int)]) (hS:Blk w sb 9 #[.string ⟨s.toArray⟩]):
 Calls prog 89 #[.int .i64 j,.pointer (some ⟨ab,0,none⟩),.pointer (some ⟨sb,0,none⟩)] w (zk5 s a n ab w):=by
 subst hj;have r:sb≠ab:=by
  intro e;subst e;have:=hA.symm.trans hS;simp at this
 have x:=hid hA;have t:=hid hS;clear hA hS;go_enter func89,ntmps89;go_wp2_with fail;go_loopw [6,8] (fun s6 s8 wr=>∃k v:Nat,k<=n/\v<=999999999/\a+k<=s.length/\s6=.int .i64 (v:Int)/\s8=.int .i64 (k:Int)/\Hid (((s.drop a).take k).all Gr.dig=true/\v=Gr.val ((s.drop a).take k)/\Blk wr ab 3 #[.int .i64 ((a+k:Nat):Int)]/\Kept1 ab w wr)) (fun _ s8 _=>n-(intOf s8).toNat)
 case atStart=>exact⟨0,0,by omega,by omega,by omega,rfl,rfl,hid ⟨by simp,by simp[Gr.val],x.out,Kept1.refl _ _⟩⟩
 case round=>
  obtain⟨k,v,hk,hv,hak,rfl,rfl,c⟩:=hrel;have qA:wr.cell? ⟨ab,0,none⟩=some (.int .i64 ((a+k:Nat):Int)):=c.out.2.2.1.cell 0;have qF:∀j,wr.frozen? ⟨ab,j,none⟩=false:=c.out.2.2.1.frozen;have qS:wr.cell? ⟨sb,0,none⟩=some (.string ⟨s.toArray⟩):=(c.out.2.2.2.blk t.out r).cell 0;by_cases hlt:k<n
  .have h:(k:Int)<(n:Int):=by omega
   by_cases hltS:a+k<s.length
   .have q:¬(s.length:Int)<=((a+k:Nat):Int):=by omega
    obtain⟨b,l⟩:∃b:Nat,(s[a+k]'hltS).toNat=b:=⟨_,rfl⟩
    have hbv:(((⟨s.toArray⟩:ByteArray)[a+k]'(by simpa[ByteArray.size]using hltS)).toNat:Int)=(b:Int):=by rw[<-l];rfl
    have hbl:b<256:=by rw[<-l];exact(s[a+k]'hltS).toNat_lt
    have f:=hid (zd0 (s[a+k]'hltS) b l);clear l;by_cases h48:48<=b
    .have p:¬(b:Int)<48:=by omega
     have b48:(48:Int)<=(b:Int):=by omega
     by_cases h57:b<=57
     .have m:¬(57:Int)<(b:Int):=by omega
      have u:=hid (zcl s a k hltS);have d:Hid (((s.drop a).take (k+1)).all Gr.dig=true/\10*v+(b-48)=Gr.val ((s.drop a).take (k+1))):=hid (by
       rw[u.out,List.all_append,c.out.1,zbl,<-c.out.2.1,f.out.2];exact⟨by simp[f.out.1,h48,h57],rfl⟩)
      have o:10*v+(b-48)<=999999999:=by
       rw[d.out.2];have:=zk4 _ d.out.1 (by simp;omega);omega
      have i:Hid (Blk (wr.setCell ⟨ab,0,none⟩ (.int .i64 (((a+k:Nat):Int)+1))) ab 3 #[.int .i64 ((a+(k+1):Nat):Int)]/\Kept1 ab w (wr.setCell ⟨ab,0,none⟩ (.int .i64 (((a+k:Nat):Int)+1)))):=hid ⟨by rw[show((a+(k+1):Nat):Int)=((a+k:Nat):Int)+1 from by omega];exact c.out.2.2.1.set_ 0 _,c.out.2.2.2.trans (Kept1.set 0 _)⟩;go_wp2;go_roundw
      case rel=>exact⟨k+1,10*v+(b-48),by omega,o,by omega,by exact congrArg (Value.int .i64) (by omega),by go_num,hid ⟨d.out.1,d.out.2,i.out.1,i.out.2⟩⟩
      case measure=>simp[intOf];omega
     .have m:(57:Int)<(b:Int):=by omega
      have g:=hid (zdo s a n k hlt hltS (by rw[f.out.1];simp[h57]));go_wp2;go_ret2;exact⟨c.out.2.2.2,.inr ⟨g.out,rfl,a+k,by omega,c.out.2.2.1⟩⟩
    .have p:(b:Int)<48:=by omega
     have g:=hid (zdo s a n k hlt hltS (by rw[f.out.1];simp[h48]));go_wp2;go_ret2;exact⟨c.out.2.2.2,.inr ⟨g.out,rfl,a+k,by omega,c.out.2.2.1⟩⟩
   .have q:(s.length:Int)<=((a+k:Nat):Int):=by omega
    have g:=hid (zdb s a n (by omega));go_wp2;go_ret2;exact⟨c.out.2.2.2,.inr ⟨g.out,rfl,a+k,by omega,c.out.2.2.1⟩⟩
  .obtain rfl:k=n:=by omega
   have h:¬(k:Int)<(k:Int):=by omega
   have g:Hid (numAt s a k=some v):=hid (by rw[zil s a k (by omega) c.out.1,c.out.2.1]);clear hlt;go_wp2;go_ret2;exact⟨c.out.2.2.2,.inl ⟨v,g.out,rfl,c.out.2.2.1⟩⟩
end Go.Proofs.YtpgmfihonmoliaaGreatDoor
