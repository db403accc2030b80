import Derived.Test.YtpjmhafmeieloabGreatDoorGrRPrint
import Derived.Test.YtpjmhafmeieloabGreatDoorZ25
import Derived.Test.YtpjmhafmeieloabGreatDoorZ16
namespace Go.Proofs.YtpjmhafmeieloabGreatDoor
open Gr
open _root_.Go.Proofs.Tryz
open _root_.Go.Lib (hid)
set_option maxRecDepth 100000
set_option maxHeartbeats 16000000
open Go.RowKit
structure TM (w wr:World) (gc:Array Value) (v:Value) (L:List Gr.Str):Prop where
 below:Below w.heap.size w wr
 gbox:Blk wr w.heap.size 27 gc
 own:OwnRow strL wr (w.heap.size+1) 9 v L
 hd:w.heap.size+1<=wr.heap.size
section
variable {w wr w2:World} {gc:Array Value} {v v':Value} {L L':List Gr.Str}
theorem TM.later (h:TM w wr gc v L) (hb:Below wr.heap.size wr w2):TM w w2 gc v L:=
 ⟨h.below.trans (hb.mono h.below.size),h.gbox.below hb h.gbox.lt,h.own.later hb,Nat.le_trans h.hd hb.size⟩
theorem TM.alloc (h:TM w wr gc v L) (o:Obj):TM w (wr.alloc o) gc v L:=h.later ((Below.refl _ _).alloc (Nat.le_refl _) _)
theorem TM.grown (h:TM w wr gc v L) (ho:OwnRow strL w2 (w.heap.size+1) 9 v' L') (hg:wr.grownBy w2 v.ownBlock):TM w w2 gc v' L':=
 ⟨h.below.trans ((h.own.grown_below hg h.hd).mono (by omega)),zbd h.gbox h.own hg (by omega),ho,Nat.le_trans h.hd (h.own.grown_below hg h.hd).size⟩
theorem TM.none (h:TM w wr gc v L):TM w wr gc (.slice none 0 0) []:=⟨h.below,h.gbox,OwnRow.nil,h.hd⟩
end
theorem znn (A:Option Addr) (c:Nat) (root:Int) (vs:List NV) (ns:List Gr.Nd) (P:Nat->Prop) (F b:Nat) (hok:PrOk ns P F b) (hnl:ns.length<=1000) (hks:∀n∈ns,∀k∈n.keys,k<ns.length/\P k/\Tall' ns F k) (w:World) (h:GAt w w.heap.size A vs ns):
 Calls prog 32 #[.agg #[.slice A ns.length c,.int .i64 root]] w fun e w'=>e=.returned (.bool (rtwice ns F))/\Below w.heap.size w w':=by
 have H:=hid h;have an:=hid (znm A c root vs ns P F b hok hnl);have ap:=hid hok;obtain⟨gc,p⟩:∃gc:Array Value,#[.slice A ns.length c,.int .i64 root]=gc:=⟨_,rfl⟩
 have m:Hid (gc[0]? =some (.slice A ns.length c)/\gc[1]? =some (.int .i64 root)):=hid (by rw[<-p];exact⟨rfl,rfl⟩);obtain⟨w1,z⟩:=ex (w.alloc (.cells #[.slice A ns.length c,.int .i64 root] 27))
 have am:Hid (TM w w1 gc (.slice none 0 0) []):=hid (by rw[<-z,<-p];exact⟨(Below.refl _ _).alloc (Nat.le_refl _) _,Blk.new _ _ _,OwnRow.nil,by simp⟩);clear h hok p;go_enter func32,ntmps32;go_upto_region 2 with fail;(try rw[z]);clear z;go_loopw [3] (fun s3 wr=>∃i:Nat,i<=ns.length/\s3=.int .i64 i/\Hid (TM w wr gc (.slice none 0 0) []/\∀j,j<i->∀(hj:j<ns.length),dupS (ns[j].keys.map (printF ns F))=false)) (fun s3 _=>ns.length-(intOf s3).toNat)
 case atStart=>exact⟨0,by omega,rfl,hid ⟨am.out,fun j hj=>by omega⟩⟩
 case round=>
  obtain⟨i,hi,rfl,J⟩:=hrel;obtain⟨wq,ak⟩:∃wq,wq=wr:=⟨_,rfl⟩
  subst ak;have g0:wq.cell? ⟨w.heap.size,0,none⟩=some (.slice A ns.length c):=by rw[J.out.1.gbox.cell];exact m.out.1
  by_cases hlt:i<ns.length
  .have E:(i:Int)<(ns.length:Int):=by omega
   have o:ns[i]∈ns:=List.getElem_mem hlt;obtain⟨ae,ab,ao⟩:=ap.out.lens _ o;have U:=hid (hks _ o);obtain⟨B,ks,aj,rfl,D⟩:=H.out.node hlt;obtain⟨ka,kn,kc⟩:=ks;obtain⟨ia,inn,ic⟩:=aj;have Q:=hid (znc (f:=F) hlt);have K:Hid (dupS (ns[i].keys.map (printF ns F))=false->∀j,j<i+1->∀(hj:j<ns.length),dupS (ns[j].keys.map (printF ns F))=false):=hid (fun h j hj ai=>by
    rcases Nat.lt_or_ge j i with h1|h1
    .exact J.out.2 j h1 ai
    .obtain rfl:j=i:=by omega
     exact h)
   obtain⟨n,hn⟩:=ex (ns[i])
   rw[hn]at D ae ab U Q K;obtain rfl:kn=n.keys.length:=D.kn;have O:Hid (∀W,Below w.heap.size w W->W.cell? {block:=(B.add (i*5)).block,off:=(B.add (i*5)).off+3}=some (.slice ka n.keys.length kc)):=hid (fun W hW=>(hW.cell (by exact D.lt)).trans D.c3);have aq:Hid (∀W,Below w.heap.size w W->RowAt intL W w.heap.size ka n.keys):=hid (fun W hW=>D.keys.below hW);have hib:i<=1000:=by omega
   clear D hn o ab ao;go_upto_region 6 with fail;go_loopw [4,5] (fun s4 s5 wr=>∃(k:Nat) (L:List Gr.Str) (AL:Option Addr) (cL:Nat),k<=n.keys.length/\s5=.int .i64 k/\s4=.slice AL L.length cL/\Hid (TM w wr gc (.slice AL L.length cL) L/\L=(n.keys.map (printF ns F)).take k/\((n.keys.map (printF ns F)).take k).Nodup)) (fun _ s5 _=>n.keys.length-(intOf s5).toNat)
   case atStart=>exact⟨0,[],none,0,by omega,rfl,rfl,hid ⟨J.out.1,by simp,by simp⟩⟩
   case round=>
    obtain⟨k,L,AL,cL,hk,rfl,rfl,d⟩:=hrel;obtain⟨a,ag⟩:∃a,a=wr:=⟨_,rfl⟩
    subst ag;have g0:a.cell? ⟨w.heap.size,0,none⟩=some (.slice (some B) ns.length c):=by rw[d.out.1.gbox.cell];exact m.out.1
    have c3:=O.out a d.out.1.below;have hkb:k<=1000:=by omega
    by_cases hlk:k<n.keys.length
    .have S:(k:Int)<(n.keys.length:Int):=by omega
     obtain⟨y,hy⟩:=ex (n.keys[k])
     obtain⟨I,rfl,_,y0⟩:=zae (aq.out a d.out.1.below) hlk;rw[hy]at y0;obtain⟨T,N,M⟩:=U.out y (by rw[<-hy];exact List.getElem_mem hlk);obtain⟨t,ht⟩:=ex (printF ns F y)
     have s:Hid (k<(n.keys.map (printF ns F)).length):=hid (by simpa using hlk);have r:Hid (∀h:k<(n.keys.map (printF ns F)).length,(n.keys.map (printF ns F))[k]=t):=hid (fun h=>by rw[List.getElem_map,hy,ht]);have R:Hid (∀x:WB a.heap.size a,Calls prog 49 #[.agg #[.slice (some B) ns.length c,.int .i64 root],.int .i64 y] x.w fun e w'=>e=.returned (.string ⟨t.toArray⟩)/\Below a.heap.size a w'):=hid (fun x=>by
      have hb:=(d.out.1.later x.h).below;rw[<-ht];exact(an.out F y x.w (Nat.le_refl _) T N M ((H.out.below hb).more hb.size)).mono (fun _ _ ⟨e1,e2⟩=>⟨e1,x.h.trans (e2.mono x.h.size)⟩))
     have q0:∀x:WB a.heap.size a,x.w.cell? ⟨w.heap.size,0,none⟩=some (.slice (some B) ns.length c):=fun x=>by rw[(d.out.1.later x.h).gbox.cell];exact m.out.1
     have q1:∀x:WB a.heap.size a,x.w.cell? ⟨w.heap.size,1,none⟩=some (.int .i64 root):=fun x=>by rw[(d.out.1.later x.h).gbox.cell];exact m.out.2
     have q3:∀x:WB a.heap.size a,x.w.cell? {block:=(B.add (i*5)).block,off:=(B.add (i*5)).off+3}=some (.slice (some I) n.keys.length kc):=fun x=>O.out x.w (d.out.1.later x.h).below
     have qy:∀x:WB a.heap.size a,x.w.cell? (I.add k)=some (.int .i64 (y:Int)):=fun x=>(x.h.cell (World.block_lt_of_cell? a _ y0)).trans y0
     clear hy T N M y0 ht;go_upto_region 8 with fail;refine zab a.heap.size a (by kernel_rfl) (by kernel_rfl) (Below.refl _ _) ?_
     repeat (go_big_quiet_step (((first| (with_reducible refine Calls.grow (R.out _))))))
     refine wpQuiet_nil ?_;rintro _ ⟨ac,rfl⟩;obtain⟨w8,q⟩:=ex ac.w
     have g:Hid (TM w w8 gc (.slice AL L.length cL) L):=hid (by rw[<-q];exact d.out.1.later ac.h);(try rw[q]);clear q q0 q1 q3 qy g0 c3 R;have hLb:L.length<=1000:=by rw[d.out.2.1,List.length_take];omega
     go_upto_region 10 with fail;go_loop [7] (fun s7=>∃j:Nat,j<=L.length/\s7=.int .i64 j/\Hid (t∉L.take j)) (fun s7=>L.length-(intOf s7).toNat)
     case atStart=>exact⟨0,by omega,rfl,hid (by simp)⟩
     case round=>
      obtain⟨j,hj,rfl,HJ⟩:=hrel;by_cases hlj:j<L.length
      .have Z:(j:Int)<(L.length:Int):=by omega
       obtain⟨u,X⟩:=ex (L[j])
       obtain⟨adl,rfl,_,l0⟩:=zu1 (zln g.out.own) hlj;rw[X]at l0;have hjb:j<=1000:=by omega
       by_cases hut:u=t
       .have af:((⟨u.toArray⟩:ByteArray)==⟨t.toArray⟩)=true:=by rw[zoq];exact decide_eq_true hut
        have al:(@BEq.beq (List UInt8) _ u t)=true:=by rw[hut];exact beq_self_eq_true _
        have HF:Hid (rtwice ns F=true):=hid (Q.out (zwz s.out (by
         rw[r.out,<-hut,<-X,<-d.out.2.1];exact List.getElem_mem hlj)))
        clear X hut;go_wp2;go_ret;exact⟨by rw[HF.out]<;>rfl,g.out.below⟩
       .have af:((⟨u.toArray⟩:ByteArray)==⟨t.toArray⟩)=false:=by rw[zoq];exact decide_eq_false hut
        have al:(@BEq.beq (List UInt8) _ u t)=false:=by rw[beq_eq_false_iff_ne];exact hut
        have HN:Hid (t∉L.take (j+1)):=hid (by
         rw[List.take_succ_eq_append_getElem hlj,X];intro hm;rcases List.mem_append.1 hm with h1|h1
         .exact HJ.out h1
         .exact hut (List.mem_singleton.1 h1).symm)
        clear X hut;go_wp2;go_round
        case rel=>exact⟨j+1,by omega,by go_num,HN⟩
        case measure=>simp[intOf];omega
      .have Z:¬(j:Int)<(L.length:Int):=by omega
       have ar:Hid (t∉L):=hid (by have:=HJ.out;rwa[List.take_of_length_le (by omega)]at this);have C:Hid (w.heap.size+1<=w8.heap.size):=hid g.out.hd;have aa:Hid (L++[t]=(n.keys.map (printF ns F)).take (k+1)/\((n.keys.map (printF ns F)).take (k+1)).Nodup):=hid ⟨by rw[List.take_succ_eq_append_getElem s.out,r.out,<-d.out.2.1],zj8 s.out d.out.2.2 (by rw[r.out,<-d.out.2.1];exact ar.out)⟩;go_wp2_with (at_builtin;go_must (refine zaa _ rfl (.tmp 49) (.tmp 51) 77 9 16 rfl strT (w.heap.size+1) (.slice AL L.length cL) L rfl (g.out.own.alloc _) _ _ 1 [t] rfl (RowAt.lit1 _ _ rfl _ ?_) ?_ ?_ ?_))
       any_goals (first|rfl| (have:=C.out;omega)| (have:=C.out;simp;omega)| (rw[World.size_alloc];have:=C.out;omega))
       intro v' w5 l hg ah;have G:Hid (TM w w5 gc v' (L++[t])):=hid ((g.out.alloc _).grown l hg);obtain⟨A5,c5,Y,_⟩:=l.form;obtain⟨L5,V⟩:=ex (L++[t])
       rw[V]at G aa Y;subst Y;clear l hg ah V;go_wp2;go_roundw
       case rel=>exact⟨k+1,L5,A5,c5,by omega,by go_num,rfl,hid ⟨G.out,aa.out⟩⟩
       case measure=>simp[intOf];omega
    .have S:¬(k:Int)<(n.keys.length:Int):=by omega
     have HE:Hid (TM w a gc (.slice none 0 0) []/\∀j,j<i+1->∀(hj:j<ns.length),dupS (ns[j].keys.map (printF ns F))=false):=hid ⟨d.out.1.none,K.out (zyf (k:=k) (by simp;omega) d.out.2.2)⟩;go_wp2;go_roundw
     case rel=>exact⟨i+1,by omega,by go_num,HE⟩
     case measure=>simp[intOf];omega
  .have E:¬(i:Int)<(ns.length:Int):=by omega
   have HF:Hid (rtwice ns F=false):=hid (zq7 (i:=i) (by omega) J.out.2);have HB:=hid J.out.1.below;go_wp2;go_ret;exact⟨by rw[HF.out]<;>rfl,HB.out⟩
theorem zgg (A:Option Addr) (c:Nat) (root:Int) (vs:List NV) (is:List Gr.Ni) (hl:is.length<=1000) (hks:∀n∈is,n.keys.length<=1000/\n.items.length<=1000/\n.text.length<=1000) (w:World) (h:IAt w w.heap.size A vs is):
 Calls prog 17 #[.agg #[.slice A is.length c,.int .i64 root]] w fun e w'=>e=.returned (.int .i64 (rcheck sclX is root:Nat))/\Below w.heap.size w w':=by
 have H:=hid h;obtain⟨w1,o⟩:=ex (w.alloc (.cells #[.slice A is.length c,.int .i64 root] 27))
 have b1:Blk w1 w.heap.size 27 #[.slice A is.length c,.int .i64 root]:=by rw[<-o];exact Blk.new _ _ _
 have X:Hid (Below w.heap.size w w1):=hid (by rw[<-o];exact(Below.refl _ _).alloc (Nat.le_refl _) _);obtain⟨g0,g1⟩:=cells2 b1;have R:=hid b1;have v:¬(4096:Int)<(is.length:Int):=by omega
 have HW:=hid (zrs A c root vs is (by omega) (fun n j=>by have:=hks n j;omega) w1 ((h.below X.out).more X.out.size));have l:Hid (rcheck sclX is root=if rwell sclX is root=false then 3 else if rtwice (is.map Gr.Ni.nd) is.length=true then 8 else if(depth (is.map Gr.Ni.nd) root.toNat).1>32 then 5 else 0):=hid (by unfold rcheck;rw[if_neg (by omega)]);have I:=hid (fun hs:rwell sclX is root=true=>zge zcq hs);obtain⟨wl,S⟩:=ex (rwell sclX is root)
 rw[S]at HW l I;clear h b1 S;go_enter func17,ntmps17;go_upto_region 1 with fail;(try rw[o]);clear o;go_wp2_with fail;refine HW.out.mono ?_;rintro e w2 ⟨rfl,F⟩;have p:Hid (Below w.heap.size w w2):=hid (X.out.trans (F.mono X.out.size));have B:=R.out.below F R.out.lt;obtain⟨g0,g1⟩:=cells2 B;have z:=hid B;clear F B;cases wl with
 |false=>
  have D:Hid (rcheck sclX is root=3):=hid (by rw[l.out,if_pos rfl]);go_wp2;go_ret;exact⟨by rw[D.out]<;>rfl,p.out⟩
 |true=>
  obtain⟨r,rfl,U,t⟩:=I.out rfl;have a:=hid U;have C:Hid (∀W,Below w.heap.size w W->GAt W W.heap.size A vs (is.map Gr.Ni.nd)):=hid (fun W J=>((H.out.below J).more J.size).toG (zbl t).1);have s:Hid (∀n∈is.map Gr.Ni.nd,n.keys.length<=1000/\n.items.length<=1000/\n.text.length<=1000):=hid (fun n j=>by
   obtain⟨x,Y,rfl⟩:=List.mem_map.1 j;have:=hks x Y;simp only[Gr.Ni.nd,List.length_map];omega)
  have b:Hid (rcheck sclX is (r:Int)=if rtwice (is.map Gr.Ni.nd) is.length=true then 8 else if(depth (is.map Gr.Ni.nd) r).1>32 then 5 else 0):=hid (by rw[l.out,if_neg (by decide),Int.toNat_natCast]);clear HW l I hks U t;obtain⟨g,E⟩:=ex (is.map Gr.Ni.nd)
  have y:is.length=g.length:=by rw[<-E];simp
  rw[E]at a C s b;obtain⟨m,T⟩:=ex is.length
  have N:Hid (∀W,Below w.heap.size w W->Calls prog 32 #[.agg #[.slice A m c,.int .i64 r]] W fun e w'=>e=.returned (.bool (rtwice g m))/\Below W.heap.size W w'):=hid (fun W J=>by
   rw[<-T,y];refine znn A c (r:Int) vs g (fun u=>mkd (inKeys g) u=true) g.length 2000000000 ⟨a.out.refs,a.out.keep,a.out.ok,fun n j=>by have:=s.out n j;omega,fun f i hf hk hi=>a.out.plen (by omega) (fun x Y=>by have:=s.out x Y;omega) f i hf hi hk,by omega⟩ (by omega) ?_ W (C.out W J);intro n j k hk;have Q:k∈allKeys g:=List.mem_flatMap.2 ⟨n,j,hk⟩;obtain⟨h1,h2⟩:=a.out.tall k Q;exact⟨h1,a.out.key k Q,h2⟩)
  have P:Hid (∀W,Below w.heap.size w W->Calls prog 33 #[.agg #[.slice A m c,.int .i64 r]] W fun e w'=>e=.returned (.tuple #[.int .i64 (depth g r).1,.bool (depth g r).2])/\Below W.heap.size W w'):=hid (fun W J=>by
   rw[<-T,y];exact zns A c r vs g a.out (by omega) (fun n j=>by have:=s.out n j;omega) W (C.out W J))
  rw[T]at g0 b z;(try rw[T]);obtain⟨d,Z⟩:=ex ((depth g r).1)
  obtain⟨dt,V⟩:=ex ((depth g r).2)
  rw[Z]at b;rw[Z,V]at P;obtain⟨tb,M⟩:=ex (rtwice g m)
  rw[M]at b N;clear E y T Z V M hl v;go_wp2_with fail;refine(N.out w2 p.out).mono ?_;rintro e w3 ⟨rfl,G⟩;have q:Hid (Below w.heap.size w w3):=hid (p.out.trans (G.mono p.out.size));have K:=z.out.below G z.out.lt;obtain⟨k0,k1⟩:=cells2 K;clear G K g0 g1;cases tb with
  |true=>
   have D:Hid (rcheck sclX is (r:Int)=8):=hid (by rw[b.out,if_pos rfl]);go_wp2;go_ret;exact⟨by rw[D.out]<;>rfl,q.out⟩
  |false=>
   go_wp2_with fail;refine(P.out w3 q.out).mono ?_;rintro e w4 ⟨rfl,O⟩;have L:Hid (Below w.heap.size w w4):=hid (q.out.trans (O.mono q.out.size));clear O k0 k1;by_cases hd32:32<d
   .have D:Hid (rcheck sclX is (r:Int)=5):=hid (by rw[b.out,if_neg (by decide),if_pos hd32]);go_wp2;go_ret;exact⟨by rw[D.out]<;>rfl,L.out⟩
   .have D:Hid (rcheck sclX is (r:Int)=0):=hid (by rw[b.out,if_neg (by decide),if_neg hd32]);go_wp2;go_ret;exact⟨by rw[D.out]<;>rfl,L.out⟩
namespace Gr
theorem znt {sclr:Int->Str->Bool} (hs:∀k t,sclr k t=true->0<=k/\k<=8) {is:List Ni} {root:Int} (h:checkI sclr is root=0):
 ∃r:Nat,root=(r:Int)/\WellF (is.map Ni.nd) r/\is.all (rng is.length)=true/\(∀x∈is.map Ni.nd,formB sclr x=true)/\twice (is.map Ni.nd) (is.map Ni.nd).length=false/\(depth (is.map Ni.nd) r).1<=32:=by
 have b:=zfj sclr hs is root;rw[h]at b;unfold rcheck at b;split at b
 .omega
 .split at b
  .omega
  .rename_i hw;rw[Bool.not_eq_false]at hw;obtain⟨r,rfl,a,f⟩:=zge hs hw;split at b
   .omega
   .split at b
    .omega
    .rename_i ht hd;rw[Int.toNat_natCast]at hd;refine⟨r,rfl,a,f,?_,?_,by omega⟩
     .unfold checkI at h;split at h
      .omega
      .split at h
       .omega
       .unfold checkN at h;split at h
        .omega
        .rename_i hall;rw[Classical.not_not,List.all_eq_true]at hall;intro x g;obtain⟨i,c,rfl⟩:=List.mem_iff_getElem.1 g;have:=hall i (List.mem_range.2 c);rw[Bool.and_eq_true]at this;have d:=this.2;rw[List.getD_eq_getElem?_getD,List.getElem?_eq_getElem c]at d;exact d
     .rw[zld a.ok a.refs _ (fun k e=>⟨(a.tall k e).1,(a.tall k e).2⟩)];rw[Bool.not_eq_true]at ht;rw[List.length_map];exact ht
end Gr
section
variable {kind:Int} {text:Gr.Str} {is:List Gr.Ni} {r:Nat} {dp:Int}
end
def RCkOk (w:World) (g:Value) (chk:Nat):Prop:=∀W,Below w.heap.size w W->Calls prog 17 #[g] W fun e w'=>e=.returned (.int .i64 (chk:Nat))/\Below W.heap.size W w'
theorem RCkOk.later {w w':World} {g:Value} {chk:Nat} (h:RCkOk w g chk) (hb:Below w.heap.size w w'):RCkOk w' g chk:=fun W a=>h W (hb.trans (a.mono hb.size))
theorem zr0 (A:Option Addr) (n c:Nat) (root:Int) (chk:Nat) (w:World) (h:RCkOk w (.agg #[.slice A n c,.int .i64 root]) chk):
 Calls prog 20 #[.agg #[.slice A n c,.int .i64 root]] w fun e w'=>e=.returned (.tuple #[if chk=0 then .agg #[.slice A n c,.int .i64 root]else gZero,.int .i64 (chk:Nat)])/\Below w.heap.size w w':=by
 have C:=hid h;clear h;go_enter func20,ntmps20;go_upto_region 1 with fail;obtain⟨o,b⟩:=ex ((w.alloc (.cells #[.slice A n c,.int .i64 root] 27)).alloc (.cells #[.slice none 0 0,.int .i64 0] 27))
 obtain⟨m,a⟩:=ex w.heap.size
 have t:Blk o m 27 #[.slice A n c,.int .i64 root]:=by rw[<-b,<-a];exact(Blk.new _ _ _).alloc _
 have y:Blk o (m+1) 27 #[.slice none 0 0,.int .i64 0]:=by rw[<-b,<-a];have:=Blk.new (w.alloc (.cells #[.slice A n c,.int .i64 root] 27)) 27 #[.slice none 0 0,.int .i64 0];rwa[World.size_alloc]at this
 have r:Below m w o:=by rw[<-b,<-a];exact((Below.refl _ _).alloc (Nat.le_refl _) _).alloc (by simp) _
 have u:=hid r;have p:=hid a;have s:Hid (RCkOk o (.agg #[.slice A n c,.int .i64 root]) chk):=hid (C.out.later (by rw[a];exact r));have g:=hid t;have l:=hid y;obtain⟨B,z⟩:=cells2 t;(try rw[b]);(try rw[a]);clear b a t y r;go_wp2_with fail;refine(s.out o (Below.refl _ _)).mono ?_;rintro e x ⟨rfl,f⟩;have k:=g.out.below f g.out.lt;have d:=l.out.below f l.out.lt;have q:Hid (Below m w x):=hid (u.out.trans (f.mono (by have:=g.out.lt;omega)));obtain⟨k0,k1⟩:=cells2 k;obtain⟨d0,d1⟩:=cells2 d;have df:∀i,x.frozen? ⟨m+1,i,none⟩=false:=d.frozen;have j:=hid d;clear f k d B z;by_cases h0:chk=0
 .subst h0;go_wp2_with fail;have e0:=((j.out.set_ 0 (.slice A n c)).set_ 1 (.int .i64 root)).cell 0;have e1:=((j.out.set_ 0 (.slice A n c)).set_ 1 (.int .i64 root)).cell 1;refine bodyPost_ret (v:=.tuple #[.agg #[.slice A n c,.int .i64 root],.int .i64 0]) (by rw[results_cell_tmp rfl];go_simp) rfl ⟨rfl,?_⟩;rw[p.out];exact(q.out.setCell (by simp) _).setCell (by simp) _
 .have h0I:((chk:Int)==0)=false:=by rw[beq_eq_false_iff_ne];omega
  go_wp2_with fail;refine bodyPost_ret (v:=.tuple #[gZero,.int .i64 chk]) (by rw[results_cell_tmp rfl];go_simp;rfl) rfl ⟨by first|rfl|rw[if_neg h0],?_⟩;rw[p.out];exact(q.out.setCell (by simp) _).setCell (by simp) _
theorem zt9 (sclr:Int->Gr.Str->Bool) (ns:List Gr.Nd) (root:Nat) (hr:Refs ns) (hroot:root<ns.length):checkI sclr (ns.map Gr.Nd.ni) (root:Int)=checkG sclr ns root:=by
 unfold checkI checkG;rw[List.length_map,zi4,zrf ns root hr hroot];by_cases h1:ns.length>4096
 .rw[if_pos h1,if_pos h1]
 .rw[if_neg h1,if_neg h1,if_neg (by simp;intro e;rw[e]at hroot;simp at hroot),Int.toNat_natCast]
theorem zu4 {F:FuncId} {args:Array Value} {A:Option Addr} {n c chk:Nat} {w:World} (h:Calls prog F args w fun e w'=>e=.returned (.tuple #[if chk=0 then .agg #[.slice A n c,.int .i64 0]else gZero,.int .i64 (chk:Nat)])/\Below w.heap.size w w'):
 Calls prog F args w fun e w'=>Below w.heap.size w w'/\∃A4 n4 c4,e=.returned (.tuple #[.agg #[.slice A4 n4 c4,.int .i64 0],.int .i64 (chk:Nat)])/\Hid ((chk=0->A4=A/\n4=n/\c4=c)/\(chk≠0->A4=none/\n4=0/\c4=0)):=by
 refine h.mono ?_;rintro e w' ⟨rfl,a⟩;refine⟨a,?_⟩;by_cases h0:chk=0
 .exact⟨A,n,c,by rw[if_pos h0],hid ⟨fun _=>⟨rfl,rfl,rfl⟩,fun h=>absurd h0 h⟩⟩
 .exact⟨none,0,0,by rw[if_neg h0];rfl,hid ⟨fun h=>absurd h h0,fun _=>⟨rfl,rfl,rfl⟩⟩⟩
theorem zua (A:Option Addr) (n c chk:Nat) (w:World) (h:RCkOk w (.agg #[.slice A n c,.int .i64 0]) chk):
 Calls prog 20 #[.agg #[.slice A n c,.int .i64 0]] w fun e w'=>Below w.heap.size w w'/\∃A4 n4 c4,e=.returned (.tuple #[.agg #[.slice A4 n4 c4,.int .i64 0],.int .i64 (chk:Nat)])/\Hid ((chk=0->A4=A/\n4=n/\c4=c)/\(chk≠0->A4=none/\n4=0/\c4=0)):=zu4 (zr0 _ _ _ _ _ w h)
theorem zy5 (A:Option Addr) (c:Nat) (root:Int) (vs:List NV) (is:List Gr.Ni) (hl:is.length<=1000) (hks:∀n∈is,n.keys.length<=1000/\n.items.length<=1000/\n.text.length<=1000) (w:World) (h:IAt w w.heap.size A vs is):RCkOk w (.agg #[.slice A is.length c,.int .i64 root]) (checkI sclX is root):=fun W a=>by
 rw[<-zfj sclX zcq];exact zgg A c root vs is hl hks W ((h.below a).more a.size)
theorem zy6 {ns:List Gr.Nd} {root:Nat} (hr:Refs ns) (h0:root<ns.length) (hl:ns.length<=1000) (hks:∀n∈ns,n.keys.length<=1000/\n.items.length<=1000/\n.text.length<=1000) (A:Option Addr) (c:Nat) (vs:List NV) (W:World) (hG:GAt W W.heap.size A vs ns):
 RCkOk W (.agg #[.slice A ns.length c,.int .i64 (root:Nat)]) (checkG sclX ns root):=fun b a=>by
 have:=zgg A c root vs (ns.map Gr.Nd.ni) (by simpa using hl) (fun n e=>by
  obtain⟨x,d,rfl⟩:=List.mem_map.1 e;have:=hks x d;simp only[Gr.Nd.ni,List.length_map];omega) b ((hG.below a).more a.size).toI
 rw[zfj sclX zcq,zt9 sclX ns root hr h0,List.length_map]at this;exact this
theorem zhj {x:GArg} (h:Gr.FewG x.p):(x.is.map Gr.Ni.nd).length<=40/\∀n∈x.is.map Gr.Ni.nd,n.text.length<=100/\n.keys.length<=80/\n.items.length<=80:=⟨by have:x.p.1.length<=40:=h.len;rw[List.length_map];exact this,fun n b=>by
 obtain⟨y,a,rfl⟩:=List.mem_map.1 b;have:=h.each y a;simp only[Gr.Ni.nd,List.length_map];omega⟩
theorem zep {x:GArg} (_hf:Gr.FewG x.p) (hc:x.chk sclX=0):∃r:Nat,x.root=(r:Int)/\r<x.is.length/\WellF (x.is.map Gr.Ni.nd) r/\∀(w:World) (B:Nat),IAt w B x.a x.vs x.is->GAt w B x.a x.vs (x.is.map Gr.Ni.nd):=by
 obtain⟨r,d,b,c,_⟩:=Gr.znt zcq (show checkI sclX x.is x.root=0 from hc);exact⟨r,d,by have:=b.root;rwa[List.length_map]at this,b,fun w B h=>h.toG (zbl c).1⟩
theorem zub (A:Option Addr) (c:Nat) (ord:Bool) (l:List PArg) (hl:l.length<=6) (hf:∀x∈l,Gr.FewG x.k.p/\Gr.FewG x.v.p) (w:World) (hT:UT w) (h:PsAt w w.heap.size A l):
 Calls prog 6 #[.bool ord,.slice A l.length c] w (za6 (mapL ord l) w):=by
 go_enter func6,ntmps6;go_upto_region 2 with fail;obtain⟨w1,aE⟩:=ex (w.alloc (.cells #[.slice none 0 0,.int .i64 0] 27))
 obtain⟨f,J⟩:=ex w.heap.size
 have bF:w1.heap.size=f+1:=by rw[<-aE,<-J];simp
 have l1:Below f w w1:=by rw[<-aE,<-J];exact(Below.refl _ _).alloc (Nat.le_refl _) _
 have b1:Blk w1 f 27 #[.slice none 0 0,.int .i64 0]:=by rw[<-aE,<-J];exact Blk.new _ _ _
 have bA:=hid l1;have ah:=hid b1;have aO:=hid bF;have aK:=hid J;have HP:Hid (∀W,Below f w W->PsAt W f A l):=hid (fun W T=>by rw[<-J]at T ⊢;exact h.below T);have bM:Hid (∀W,Below f w W->UT W):=hid (fun W T=>UT.stays _ _ hT (by rw[J];exact T));have HF:=hid hf;have bJ:Hid (∀x∈l,∀W,Below f w W->f<=W.heap.size->ChkOk W x.k.v (x.k.chk sclX)/\ChkOk W x.v.v (x.v.chk sclX)):=hid (fun x D W T hs=>by
  have b5:∀y:GArg,Gr.FewG y.p->IAt W f y.a y.vs y.is->ChkOk W y.v (y.chk sclX):=fun y hy hi=>by
   have h1:y.is.length<=40:=hy.len;exact zy2 y.a y.c y.root y.vs y.is (fun z hz=>by have:=hy.each z hz;omega) (by omega) W (bM.out W T) (hi.more hs)
  have:=(HP.out W T).each x D;exact⟨b5 x.k (hf x D).1 this.1,b5 x.v (hf x D).2 this.2⟩)
 (try rw[J]);(try rw[aE]);clear aE J bF l1 b1 h hf hT;go_loopw [15] (fun s15 wr=>∃(j:Nat),j<=l.length/\s15=.int .i64 j/\Hid ((l.take j).any PArg.bad=false/\Below w1.heap.size w1 wr)) (fun s15 _=>l.length-(intOf s15).toNat)
 case atStart=>exact⟨0,by omega,rfl,hid ⟨rfl,Below.refl _ _⟩⟩
 case round=>
  obtain⟨j,hj,rfl,HW⟩:=hrel;obtain⟨wq,cd⟩:∃wq,wq=wr:=⟨_,rfl⟩
  subst cd;have bo:Hid (Below f w wq):=hid (bA.out.trans (HW.out.2.mono (by have:=aO.out;omega)));by_cases hlt:j<l.length
  .have X:(j:Int)<(l.length:Int):=by omega
   obtain⟨ad,rfl,aD,a0,a1,a2,a3⟩:=zrp (HP.out wq bo.out).row hlt;obtain⟨x,D⟩:=ex (l[j])
   have Q:x∈l:=by rw[<-D];exact List.getElem_mem hlt
   rw[D]at a0 a1 a2 a3;have a9:Hid ((l.take (j+1)).any PArg.bad=x.bad):=hid (by rw[List.take_succ_eq_append_getElem hlt,List.any_append,D,HW.out.1];simp);have V:Hid (x.bad=true->mapL ord l=([],3)):=hid (fun h=>by unfold mapL;rw[if_pos (zbw _ l j hlt (by rw[D];exact h))]);have aa:Hid (x.bad=(x.k.chk sclX != 0 || x.v.chk sclX != 0)):=hid rfl;have bi:=hid (bJ.out x Q);obtain⟨ck,F⟩:=ex (x.k.chk sclX)
   obtain⟨cv,ao⟩:=ex (x.v.chk sclX)
   rw[F,ao]at aa bi;clear D Q F ao aD;go_upto_region 4 with fail;obtain⟨E,G⟩:=ex (wq.alloc (.cells (pairC x) 30))
   obtain⟨nb,s⟩:=ex wq.heap.size
   have l6:Below nb wq E:=by rw[<-G,<-s];exact(Below.refl _ _).alloc (Nat.le_refl _) _
   have b6:Blk E nb 30 (pairC x):=by rw[<-G,<-s];exact Blk.new _ _ _
   have m:Hid (Below w1.heap.size w1 E):=hid (HW.out.2.trans (l6.mono (by rw[<-s];exact HW.out.2.size)));have ab:=hid b6;obtain⟨c0,c1⟩:=cells2 b6;(try rw[G]);(try rw[s]);clear G s a0 a1 a2 a3 l6 b6;have u:Hid (∀W,Below w1.heap.size w1 W->Below f w W/\f<=W.heap.size):=hid (fun W T=>⟨bA.out.trans (T.mono (by have:=aO.out;omega)),by have:=T.size;have:=aO.out;omega⟩);have bw:=hid (bi.out E (u.out E m.out).1 (u.out E m.out).2).1;go_wp2_with fail;refine(bw.out E (Below.refl _ _)).mono ?_;rintro e I ⟨rfl,H⟩;have r:Hid (Below w1.heap.size w1 I):=hid (m.out.trans (H.mono m.out.size));have aG:Hid (Blk I nb 30 (pairC x)):=hid (ab.out.below H ab.out.lt);clear H c0 c1 bw;have d:=ah.out.below r.out ah.out.lt;obtain⟨d0,d1⟩:=cells2 d;have df:∀i,I.frozen? ⟨f,i,none⟩=false:=d.frozen;clear d;by_cases h0:ck=0
   rotate_left
   .have cr:((ck:Int) != 0)=true:=by rw[bne_iff_ne];omega
    have HE:=hid (V.out (by rw[aa.out];simp[h0]));go_wp2_with fail;refine bodyPost_ret (v:=.tuple #[gZero,.int .i64 3]) (by rw[results_cell_tmp rfl];go_simp;rfl) rfl ?_;rw[HE.out];refine za6.zero 3 ?_;rw[aK.out];exact((u.out I r.out).1.setCell (by simp) _).setCell (by simp) _
   .subst h0;have cr:(((0:Nat):Int) != 0)=false:=rfl;clear d0 d1 df;have c2:I.cell? ⟨nb,2,none⟩=some (.slice x.v.a x.v.is.length x.v.c):=aG.out.cell 2;have c3:I.cell? ⟨nb,3,none⟩=some (.int .i64 x.v.root):=aG.out.cell 3;have ca:=hid (bi.out I (u.out I r.out).1 (u.out I r.out).2);go_wp2_with fail;refine(ca.out.2 I (Below.refl _ _)).mono ?_;rintro e w8 ⟨rfl,ae⟩;have M:Hid (Below w1.heap.size w1 w8):=hid (r.out.trans (ae.mono r.out.size));clear ae c2 c3 ca;have d:=ah.out.below M.out ah.out.lt;obtain⟨d0,d1⟩:=cells2 d;have df:∀i,w8.frozen? ⟨f,i,none⟩=false:=d.frozen;clear d;by_cases h1:cv=0
    .subst h1;have ce:(((0:Nat):Int) != 0)=false:=rfl;have a8:Hid ((l.take (j+1)).any PArg.bad=false):=hid (by rw[a9.out,aa.out];rfl);go_wp2;go_roundw
     case rel=>exact⟨j+1,by omega,by go_num,hid ⟨a8.out,M.out⟩⟩
     case measure=>simp[intOf];omega
    .have ce:((cv:Int) != 0)=true:=by rw[bne_iff_ne];omega
     have HE:=hid (V.out (by rw[aa.out];simp[h1]));go_wp2_with fail;refine bodyPost_ret (v:=.tuple #[gZero,.int .i64 3]) (by rw[results_cell_tmp rfl];go_simp;rfl) rfl ?_;rw[HE.out];refine za6.zero 3 ?_;rw[aK.out];exact((u.out w8 M.out).1.setCell (by simp) _).setCell (by simp) _
  .have X:¬(j:Int)<(l.length:Int):=by omega
   have Z:Hid (l.any PArg.bad=false):=hid (by have:=HW.out.1;rwa[List.take_of_length_le (by omega)]at this);have bC:Hid (∀x∈l,Gr.GoodG x.k.p/\Gr.GoodG x.v.p):=hid (goodsP HF.out Z.out);have cy:Hid (∀x∈l,x.k.chk sclX=0/\x.v.chk sclX=0):=hid (fun x D=>by
    have:=Z.out;rw[List.any_eq_false]at this;have:=this x D;simp[PArg.bad]at this;exact this)
   have aR:=ah.out.below HW.out.2 ah.out.lt;have bL:=hid aR;have bU:Hid (f+1<=wq.heap.size):=hid (by have:=HW.out.2.size;have:=aO.out;omega);clear aR HW bJ;go_upto_region 9 with fail;obtain⟨w2,aH⟩:=ex (wq.alloc (.cells #[.int .i64 10,.string ⟨#[]⟩,.bool ord,.slice none 0 0,.slice none 0 0] 40))
   obtain⟨o,ac⟩:=ex wq.heap.size
   have l2:Below o wq w2:=by rw[<-aH,<-ac];exact(Below.refl _ _).alloc (Nat.le_refl _) _
   have b2:Blk w2 o 40 #[.int .i64 10,.string ⟨(([]:Gr.Str)).toArray⟩,.bool ord,.slice none 0 0,.slice none 0 0]:=by rw[<-aH,<-ac];exact Blk.new _ _ _
   have hgt:f+1<=o:=by rw[<-ac];exact bU.out
   have cb:=Tab.one (B:=o) b2 (Nat.le_refl _);have bO:=hid cb;have ag:Hid (Below f w w2/\w2.heap.size=o+1):=hid ⟨bo.out.trans (l2.mono (by omega)),by rw[<-aH,<-ac];simp⟩;have bv:Hid (Blk w2 f 27 #[.slice none 0 0,.int .i64 0]):=hid (bL.out.below l2 (by omega));(try rw[aH]);(try rw[ac]);clear aH ac l2 b2 cb bo bL bU hlt X hj;go_loopw [8,36] (fun s8 s36 wr=>∃(j:Nat) (A1:Option Addr) (n1 c1:Nat) (x0:NV) (vl:List NV),j<=l.length/\s36=.int .i64 j/\s8=.slice A1 n1 c1/\Hid (Tab o wr (.slice A1 n1 c1) (x0::vl) (Gr.mapN ord ((l.take j).map PArg.p))/\Below o w2 wr/\(l.take j).any PArg.dup=false)) (fun _ s36 _=>l.length-(intOf s36).toNat)
   case atStart=>exact⟨0,_,_,_,_,_,by omega,rfl,rfl,hid ⟨bO.out,Below.refl _ _,rfl⟩⟩
   case round=>
    obtain⟨j,A1,n1,c1,y0,vl,hj,rfl,rfl,HV⟩:=hrel;obtain⟨wp,cg⟩:∃wp,wp=wr:=⟨_,rfl⟩
    subst cg;clear bO;have bI:Hid (Below f w wp):=hid (ag.out.1.trans (HV.out.2.1.mono (by omega)));have aJ:Hid (Gr.MOk (Gr.mapI ((l.take j).map PArg.p)) j):=hid (by
     have:=Gr.zka ((l.take j).map PArg.p) (goodsM (fun x D=>bC.out x (List.mem_of_mem_take D)));rwa[List.length_map,List.length_take,Nat.min_eq_left hj]at this)
    obtain⟨p,hp⟩:=ex (Gr.mapI ((l.take j).map PArg.p))
    have bP:Hid (Gr.mapN ord ((l.take j).map PArg.p)=⟨10,[],ord,p.1.1,p.1.2⟩::p.2):=hid (by unfold Gr.mapN;rw[hp]);rw[hp]at aJ;rw[bP.out]at HV;have br:Hid (n1=p.2.length+1):=hid (by
     obtain⟨A9,c9,e9,_⟩:=HV.out.1.at_;injection e9 with _ e9 _)
    by_cases hlt:j<l.length
    .have X:(j:Int)<(l.length:Int):=by omega
     obtain⟨ad,rfl,aD,a0,a1,a2,a3⟩:=zrp (HP.out wp bI.out).row hlt;obtain⟨x,D⟩:=ex (l[j])
     have Q:x∈l:=by rw[<-D];exact List.getElem_mem hlt
     rw[D]at a0 a1 a2 a3;obtain⟨F,ao⟩:=cy.out x Q;obtain⟨ba,bm⟩:=HF.out x Q;obtain⟨rk,aM,bQ,aI,bB⟩:=zep ba F;obtain⟨rv,bf,bH,aS,b4⟩:=zep bm ao;have aT:=zhj ba;have aU:=zhj bm;have aF:Hid (∀W,Below f w W->GAt W f x.k.a x.k.vs (x.k.is.map Gr.Ni.nd)/\GAt W f x.v.a x.v.vs (x.v.is.map Gr.Ni.nd)):=hid (fun W T=>by
      have:=(HP.out W T).each x Q;exact⟨bB W f this.1,b4 W f this.2⟩)
     have a9:Hid ((l.take (j+1)).any PArg.dup=x.dup):=hid (by rw[List.take_succ_eq_append_getElem hlt,List.any_append,D,HV.out.2.2];simp);have V:Hid (x.dup=true->mapL ord l=([],16)):=hid (fun h=>by unfold mapL;rw[if_neg (by rw[Z.out];decide),if_pos (zbw _ l j hlt (by rw[D];exact h))]);obtain⟨L,K⟩:=ex (x.k.is.map Gr.Ni.nd)
     obtain⟨gv,Y⟩:=ex (x.v.is.map Gr.Ni.nd)
     have bs:x.k.is.length=L.length:=by rw[<-K];simp
     have bu:x.v.is.length=gv.length:=by rw[<-Y];simp
     have bp:Hid (Gr.mapN ord ((l.take (j+1)).map PArg.p)=⟨10,[],ord,p.1.1++[rk+n1],p.1.2++[rv+(n1+L.length)]⟩::((p.2++L.map (shN n1))++gv.map (shN (n1+L.length)))):=hid (by
      have e0:Gr.mapI ((l.take (j+1)).map PArg.p)=Gr.mstepI p x.p:=by
       unfold Gr.mapI at hp ⊢;rw[List.take_succ_eq_append_getElem hlt,D,List.map_append,List.foldl_append,hp];rfl
      have e1:p.2.length+1=n1:=br.out.symm;have e2:p.2.length+x.k.is.length+1=n1+L.length:=by omega
      unfold Gr.mapN;rw[e0];simp only[Gr.mstepI,PArg.p,GArg.p,e1,e2,aM,bf,Int.toNat_natCast,K,Y])
     have a4:Hid (x.dup=Gr.dupB L rk):=hid (by unfold PArg.dup;rw[K,aM,Int.toNat_natCast]);rw[K]at aI aT aF;rw[Y]at aS aU aF;rw[bs]at a0;rw[aM]at a1;rw[bu]at a2;rw[bf]at a3;have af:=hid (And.intro aI aT);have bd:=hid (And.intro aS aU);have R:Hid (n1<=481/\L.length<=40/\gv.length<=40/\rk<L.length/\rv<gv.length/\p.1.1.length=j/\p.1.2.length=j):=hid ⟨by have:=br.out;have:=aJ.out.nl;omega,aT.1,aU.1,aI.root,aS.root,aJ.out.kl,aJ.out.il⟩;obtain⟨du,bV⟩:=ex (Gr.dupB L rk)
     have bl:=hid bV;clear F ao ba bm aM bQ aI bB bf bH aS b4 aT aU K Y bs bu D Q hp aD bV;go_upto_region 11 with fail;obtain⟨E,G⟩:=ex (wp.alloc (.cells #[.slice x.k.a L.length x.k.c,.int .i64 rk,.slice x.v.a gv.length x.v.c,.int .i64 rv] 30))
     obtain⟨nb,s⟩:=ex wp.heap.size
     have l6:Below nb wp E:=by rw[<-G,<-s];exact(Below.refl _ _).alloc (Nat.le_refl _) _
     have b6:Blk E nb 30 #[.slice x.k.a L.length x.k.c,.int .i64 rk,.slice x.v.a gv.length x.v.c,.int .i64 rv]:=by rw[<-G,<-s];exact Blk.new _ _ _
     have bt:o<=nb:=by rw[<-s];have:=HV.out.2.1.size;have:=ag.out.2;omega
     have m:Hid (Below o w2 E/\o<=E.heap.size):=hid ⟨HV.out.2.1.trans (l6.mono bt),by have:=b6.lt;omega⟩;have bR:Hid (Tab o E (.slice A1 n1 c1) (y0::vl) (⟨10,[],ord,p.1.1,p.1.2⟩::p.2)):=hid (HV.out.1.later (by rw[s];exact l6));have ab:=hid b6;obtain⟨c0,c1⟩:=cells2 b6;(try rw[G]);(try rw[s]);clear G s a0 a1 a2 a3 l6 b6 bt;have u:Hid (∀W,Below o w2 W->Below f w W):=hid (fun W T=>ag.out.1.trans (T.mono (by omega)));have bb:=hid (zne x.k.a x.k.c rk x.k.vs L af.out.1.refs (by have:=R.out;omega) (fun n hn=>by have:=af.out.2.2 n hn;omega) af.out.1.root E ((aF.out E (u.out E m.out.1)).1.more (by have:=m.out.2;omega)));rw[bl.out]at bb;go_wp2_with fail;refine bb.out.mono ?_;rintro e I ⟨rfl,H⟩;have r:Hid (Below o w2 I/\o<=I.heap.size):=hid ⟨m.out.1.trans (H.mono m.out.2),Nat.le_trans m.out.2 H.size⟩;have aG:=hid (ab.out.below H ab.out.lt);have cj:=hid (bR.out.later H);clear H c0 c1 bb ab bR m;cases du with
     |true=>
      have HE:=hid (V.out (by rw[a4.out,bl.out]));have d:=bv.out.below r.out.1 (by omega);obtain⟨d0,d1⟩:=cells2 d;have df:∀i,I.frozen? ⟨f,i,none⟩=false:=d.frozen;clear d;go_wp2_with fail;refine bodyPost_ret (v:=.tuple #[gZero,.int .i64 16]) (by rw[results_cell_tmp rfl];go_simp;rfl) rfl ?_;rw[HE.out];refine za6.zero 16 ?_;rw[aK.out];exact((u.out I r.out.1).setCell (by simp) _).setCell (by simp) _
     |false=>
      have a8:Hid ((l.take (j+1)).any PArg.dup=false):=hid (by rw[a9.out,a4.out,bl.out]);obtain⟨k1,bX⟩:=ex (rk+n1)
      have a7:(rk:Int)+(n1:Int)=(k1:Int):=by omega
      obtain⟨n8,av⟩:=ex (n1+L.length)
      obtain⟨k2,bx⟩:=ex (rv+n8)
      have aX:(rv:Int)+(n8:Int)=(k2:Int):=by omega
      have aw:((⟨10,[],ord,p.1.1,p.1.2⟩:Gr.Nd)::p.2).length=n1:=by rw[List.length_cons];exact br.out.symm
      have S:=zcr o x.k.a x.k.c rk x.k.vs L (.slice A1 n1 c1) (y0::vl) (⟨10,[],ord,p.1.1,p.1.2⟩::p.2) (by have:=R.out;omega) (by rw[aw];have:=R.out;omega) (fun n hn=>by have:=af.out.2.2 n hn;omega) af.out.1.refs af.out.1.root I ((aF.out I (u.out I r.out.1)).1.more (by omega)) cj.out r.out.2;rw[aw,a7]at S;have bG:=hid S;obtain⟨c0,c1⟩:=cells2 aG.out;rw[bX,av,bx]at bp;clear S bX a7;go_wp2_with fail;refine bG.out.mono ?_;rintro e w8 ⟨v8,cq,rfl,bc,ae,bY⟩;obtain⟨A8,c8,bE,_⟩:=bc.at_;rw[List.length_append,List.length_map,aw,av]at bE;subst bE;have M:Hid (Below o w2 w8/\o<=w8.heap.size):=hid ⟨r.out.1.trans ae,Nat.le_trans r.out.2 ae.size⟩;have aA:=bY _ (by decide) _ _ aG.out;have c2:w8.cell? ⟨nb,2,none⟩=some (.slice x.v.a gv.length x.v.c):=aA.cell 2;have c3:w8.cell? ⟨nb,3,none⟩=some (.int .i64 rv):=aA.cell 3;have am:((⟨10,[],ord,p.1.1,p.1.2⟩:Gr.Nd)::p.2++L.map (shN n1)).length=n8:=by rw[List.length_append,aw,List.length_map,av]
      have S:=zcr o x.v.a x.v.c rv x.v.vs gv (.slice A8 n8 c8) cq _ (by have:=R.out;omega) (by rw[am];have:=R.out;omega) (fun n hn=>by have:=bd.out.2.2 n hn;omega) bd.out.1.refs bd.out.1.root w8 ((aF.out w8 (u.out w8 M.out.1)).2.more (by omega)) bc M.out.2;rw[am,aX]at S;have a6:=hid S;have HN8:=hid av;clear S aX ae bY bc aA c0 c1 bG aw am av bx;go_wp2_with fail;refine a6.out.mono ?_;rintro e w9 ⟨v9,aC,rfl,N,bk,_⟩;have N:Tab o w9 v9 aC (⟨10,[],ord,p.1.1,p.1.2⟩::((p.2++L.map (shN n1))++gv.map (shN n8))):=N;obtain⟨rs,b8⟩:=ex ((p.2++L.map (shN n1))++gv.map (shN n8))
      rw[b8]at N bp;have an:aC≠[]:=by
       intro e;have:=N.rows.len;rw[e]at this;cases this
      obtain⟨g,b7,rest,aV,bT,az,aR,_⟩:=N.row.row an;obtain⟨nn,bn⟩:=ex aC.length
      rw[bn]at aV;subst aV;obtain⟨x0,aL,rfl⟩:∃x0 aL,aC=x0::aL:=by cases aC with
       |nil=>exact absurd rfl an
       |cons a b=>exact⟨a,b,rfl⟩
      have hnn0I:(0:Int)<(nn:Int):=by rw[List.length_cons]at bn;omega
      have aQ:Hid (Below o w2 w9/\o<=w9.heap.size):=hid ⟨M.out.1.trans bk,Nat.le_trans M.out.2 bk.size⟩;have cu:=hid N;have bz:=hid az;have bW:Hid (OwnRow intL w9 o 3 (.slice x0.k.a x0.k.n x0.k.c) p.1.1):=hid (N.rows.own 0 false);have z3:w9.cell? ⟨g,3,none⟩=some (.slice x0.k.a x0.k.n x0.k.c):=az.cell 3;clear N az aR bk an bT bn c2 c3 a6 b8;go_upto_region 16 with fail;go_wp2_with (at_builtin;go_must (refine zaa _ rfl (.tmp 62) (.tmp 64) 38 3 8 rfl intT o (.slice x0.k.a x0.k.n x0.k.c) p.1.1 rfl (bW.out.alloc _) _ _ 1 [k1] rfl (RowAt.lit1 _ _ rfl _ ?_) ?_ ?_ ?_))
      any_goals (first|rfl| (have:=R.out;have:=aQ.out.2;simp;omega))
      intro v10 aP C hg ai;obtain⟨co,ci,aY,_⟩:=C.form;obtain⟨q,hq⟩:=ex ((p.1.1++[k1]).length)
      rw[hq]at aY;subst aY;clear hq;obtain⟨i,hi,O,au⟩:=(cu.out.later ((Below.refl w9.heap.size w9).alloc (Nat.le_refl _) _)).pushK C hg (by rw[World.size_alloc];exact ai);have aq:KeptT 40 w9 aP:=(KeptT.alloc _ _ _).trans (KeptT.grown hg (bW.out.alloc _) (by decide));have al:=aq _ _ bz.out;have cn:aP.cell? ⟨g,3,none⟩=some (.slice x0.k.a x0.k.n x0.k.c):=al.cell 3;have cw:∀i,aP.frozen? ⟨g,i,none⟩=false:=al.frozen;obtain⟨P,ax⟩:=ex (aP.setCell ⟨g,3,none⟩ (.slice co q ci))
      rw[ax]at O au;have aW:Below o w2 P/\o<=P.heap.size:=by
       have h1:=au (by rw[World.size_alloc];have:=aQ.out.2;omega);have h2:=(aQ.out.1.alloc aQ.out.2 _).trans h1;exact⟨h2,by have:=h2.size;have:=ag.out.2;omega⟩
      have U:=hid aW;have bN:=hid O;obtain⟨g',cap',rest',bS,_,aj,_,_⟩:=O.row.row (by simp);obtain rfl:g=g':=by injection bS with e;injection e with e;injection e
      have ay:=hid aj;have a5:Hid (OwnRow intL P o 3 (.slice x0.i.a x0.i.n x0.i.c) p.1.2):=hid (O.rows.own 0 true);clear C hg ai hi O au aq al aW z3 bS aj;go_upto_region 17 with fail;(try rw[ax]);(try clear ax);clear cn cw;have z4:P.cell? ⟨g,4,none⟩=some (.slice x0.i.a x0.i.n x0.i.c):=ay.out.cell 4;go_wp2_with (at_builtin;go_must (refine zaa _ rfl (.tmp 72) (.tmp 74) 38 3 8 rfl intT o (.slice x0.i.a x0.i.n x0.i.c) p.1.2 rfl (a5.out.alloc _) _ _ 1 [k2] rfl (RowAt.lit1 _ _ rfl _ ?_) ?_ ?_ ?_))
      any_goals (first|rfl| (have:=R.out;have:=U.out.2;simp;omega))
      intro v12 aN C hg ai;obtain⟨cl,ch,aZ,_⟩:=C.form;obtain⟨q2,cc⟩:=ex ((p.1.2++[k2]).length)
      rw[cc]at aZ;subst aZ;clear cc;obtain⟨i2,ct,aB,_,ak⟩:=(bN.out.later ((Below.refl P.heap.size P).alloc (Nat.le_refl _) _)).push C hg (by rw[World.size_alloc];exact ai);have aq:KeptT 40 P aN:=(KeptT.alloc _ _ _).trans (KeptT.grown hg (a5.out.alloc _) (by decide));have ap:=aq _ _ ay.out;have k40:aN.cell? ⟨g,4,none⟩=some (.slice x0.i.a x0.i.n x0.i.c):=ap.cell 4;have k4f:∀i,aN.frozen? ⟨g,i,none⟩=false:=ap.frozen;obtain⟨bK,ar⟩:=ex (aN.setCell ⟨g,4,none⟩ (.slice cl q2 ch))
      rw[ar]at aB ak;have cs:Hid (Tab o bK (.slice (some ⟨g,0,none⟩) nn b7) (_::aL) (Gr.mapN ord ((l.take (j+1)).map PArg.p))/\Below o w2 bK/\(l.take (j+1)).any PArg.dup=false):=hid (by
       rw[bp.out];exact⟨aB,(U.out.1.alloc U.out.2 _).trans (ak (by rw[World.size_alloc];have:=U.out.2;omega)),a8.out⟩)
      clear C hg ai ct aB ak aq ap z4;go_wp2_with fail;(try rw[ar]);(try clear ar);go_roundw
      case rel=>exact⟨j+1,some ⟨g,0,none⟩,nn,b7,_,aL,by omega,by go_num,rfl,cs⟩
      case measure=>simp[intOf];omega
    .have X:¬(j:Int)<(l.length:Int):=by omega
     have cm:Hid (l.any PArg.dup=false):=hid (by have:=HV.out.2.2;rwa[List.take_of_length_le (by omega)]at this);have be:Hid (Gr.mapN ord (l.map PArg.p)=⟨10,[],ord,p.1.1,p.1.2⟩::p.2):=hid (by have:=bP.out;rwa[List.take_of_length_le (by omega)]at this);have b0:=hid (zlj ord Z.out cm.out);obtain⟨h1,h2,h3,h4⟩:=mapOk ord (goodsM bC.out) (by simpa using hl);obtain⟨A9,c9,aV,bh⟩:=HV.out.1.at_;injection aV with e1 e2 e3
     subst e1 e3;rw[<-be.out]at bh;have bj:(Gr.mapN ord (l.map PArg.p)).length=n1:=by rw[be.out];exact e2.symm
     have F:=ck_g h1 h2 h3 h4 A1 c1 _ wp (bM.out wp bI.out) bh;obtain⟨cz,bg⟩:=ex (checkG sclX (Gr.mapN ord (l.map PArg.p)) 0)
     rw[bj,bg]at F;rw[bg]at b0;have b9:=hid (zu4 (zfo A1 n1 c1 0 cz wp F));have cp:=hid bj;have cx:Hid (o<=wp.heap.size):=hid (by have:=HV.out.2.1.size;have:=ag.out.2;omega);clear h1 h2 h3 h4 bh bj F bg e2 hp;go_wp2_with fail;refine b9.out.mono ?_;rintro e E ⟨bq,A4,n4,c4,rfl,bZ⟩;have m:=hid (And.intro (HV.out.2.1.trans (bq.mono cx.out)) bq);have d:=bv.out.below m.out.1 (by omega);have bD:=hid d;obtain⟨d0,d1⟩:=cells2 d;have df:∀i,E.frozen? ⟨f,i,none⟩=false:=d.frozen;clear bq d b9;go_wp2_with fail;refine bodyPost_ret (v:=.tuple #[.agg #[.slice A4 n4 c4,.int .i64 0],.int .i64 cz]) (by rw[results_cell_tmp rfl];go_simp) rfl ?_;rw[b0.out];have cf:Below w.heap.size w ((E.setCell ⟨f,0,none⟩ (.slice A4 n4 c4)).setCell ⟨f,1,none⟩ (.int .i64 0)):=by
      rw[aK.out];exact((ag.out.1.trans (m.out.1.mono (by omega))).setCell (by simp) _).setCell (by simp) _
     exact zlk cf cp.out bZ.out (by
      intro h0;obtain⟨rfl,rfl,rfl⟩:=bZ.out.1 h0;have b3:∀t,t≠27->KeptT t wp ((E.setCell ⟨f,0,none⟩ (.slice A4 n4 c4)).setCell ⟨f,1,none⟩ (.int .i64 0)):=fun t ht=>(KeptT.later m.out.2).trans ((KeptT.setCell (p:=⟨f,0,none⟩) bD.out ht _).trans (KeptT.setCell (p:=⟨f,1,none⟩) (bD.out.set_ 0 _) ht _))
      rw[be.out];exact⟨_,HV.out.1.row.kept (b3 _ (by decide)),HV.out.1.rows.kept (b3 _ (by decide))⟩)
theorem zi9 {gs:List Gr.Nd} {a:Option Addr} {c n:Nat} {vs:List NV} (hl:gs.length<=40) (hb:∀y∈gs,y.text.length<=100/\y.keys.length<=80/\y.items.length<=80) (hr:Refs gs) (hn:n<=1000) (W:World) (h:GAt W W.heap.size a vs gs):
 Calls prog 19 #[.slice a gs.length c,.int .i64 (n:Nat)] W fun e w'=>∃A5 c5 us,e=.returned (.slice A5 us.length c5)/\Hid (us.length=gs.length/\RowAt nodeL w' w'.heap.size A5 us)/\Tab W.heap.size w' (.slice A5 us.length c5) us (gs.map (shN n))/\Below W.heap.size W w':=by
 refine(zni a c n vs gs (by omega) (fun y g=>by have:=hb y g;omega) (fun y g u k=>by have:=hr y g u k;omega) (by omega) W h).mono ?_;rintro e w' ⟨v',us,rfl,d,hb⟩;obtain⟨A5,c5,rfl,_⟩:=d.at_;have b:=d.rows.len;have j:RowAt nodeL w' w'.heap.size A5 us:=by
  obtain⟨A9,c9,i,f⟩:=d.row.form;injection i with e1
  rw[e1];exact f
 rw[<-b]at d ⊢;exact⟨A5,c5,us,rfl,hid ⟨by rw[b,List.length_map],j⟩,d,hb⟩
theorem zuc (Ak Av:Option Addr) (ck_ cv_:Nat) (ord:Bool) (l:List PArg) (hl:l.length<=6) (hf:∀x∈l,Gr.FewG x.k.p/\Gr.FewG x.v.p) (w:World) (h:GsAt w w.heap.size Ak (l.map PArg.k)/\GsAt w w.heap.size Av (l.map PArg.v)):
 Calls prog 7 #[.bool ord,.slice Ak l.length ck_,.slice Av l.length cv_] w (za6 (mapL ord l) w):=by
 go_enter func7,ntmps7;go_upto_region 4 with fail;obtain⟨w1,aB⟩:=ex (w.alloc (.cells #[.slice none 0 0,.int .i64 0] 27))
 obtain⟨b,U⟩:=ex w.heap.size
 have aH:w1.heap.size=b+1:=by rw[<-aB,<-U];simp
 have l1:Below b w w1:=by rw[<-aB,<-U];exact(Below.refl _ _).alloc (Nat.le_refl _) _
 have b1:Blk w1 b 27 #[.slice none 0 0,.int .i64 0]:=by rw[<-aB,<-U];exact Blk.new _ _ _
 obtain⟨w2,aD⟩:=ex (w1.alloc (.cells #[.int .i64 10,.string ⟨#[]⟩,.bool ord,.slice none 0 0,.slice none 0 0] 40))
 have aM:w2.heap.size=b+2:=by rw[<-aD];simp[aH]
 have l2:Below (b+1) w1 w2:=by rw[<-aD];exact(Below.refl _ _).alloc (by omega) _
 have b2:Blk w2 (b+1) 40 (rootC 10 ord SV.nil SV.nil):=by rw[<-aD,<-aH];exact Blk.new _ _ _
 obtain⟨f,aA⟩:=ex (w2.alloc (.cells #[.int .i64 10,.string ⟨#[]⟩,.bool ord,.slice none 0 0,.slice none 0 0] 40))
 have bO:f.heap.size=b+3:=by rw[<-aA];simp[aM]
 have l3:Below (b+2) w2 f:=by rw[<-aA];exact(Below.refl _ _).alloc (by omega) _
 have b3:Blk f (b+2) 40 #[.int .i64 10,.string ⟨(([]:Gr.Str)).toArray⟩,.bool ord,.slice none 0 0,.slice none 0 0]:=by rw[<-aA,<-aM];exact Blk.new _ _ _
 have bj:=Tab.one (B:=b+2) b3 (Nat.le_refl _);have aT:Below b w f:=(l1.trans (l2.mono (by omega))).trans (l3.mono (by omega));have aG:=hid aT;have bP:Hid (LsM f f (b+1) (.slice (some ⟨b+2,0,none⟩) 1 1) 10 ord [] SV.nil SV.nil [] [] []):=hid ⟨Below.refl _ _,bj.row,bj.rows,b2.below l3 (by omega),by omega⟩;have ap:Hid (Blk f b 27 #[.slice none 0 0,.int .i64 0]):=hid ((b1.below l2 (by omega)).below l3 (by omega));have aE:Hid (GsAt f b Ak (l.map PArg.k)/\GsAt f b Av (l.map PArg.v)):=hid (by rw[U]at h;exact⟨h.1.below aT,h.2.below aT⟩);have aR:Hid (∀x∈l,IAt f b x.k.a x.k.vs x.k.is/\IAt f b x.v.a x.v.vs x.v.is):=hid (fun x r=>⟨aE.out.1.each x.k (List.mem_map_of_mem r),aE.out.2.each x.v (List.mem_map_of_mem r)⟩);have bN:Hid (∀x∈l,∀W,Below b f W->b<=W.heap.size->RCkOk W x.k.v (x.k.chk sclX)/\RCkOk W x.v.v (x.v.chk sclX)):=hid (fun x r W hW hs=>by
  have b7:∀y:GArg,Gr.FewG y.p->IAt f b y.a y.vs y.is->RCkOk W y.v (y.chk sclX):=fun y hy hi=>by
   have h1:y.is.length<=40:=hy.len;exact zy5 y.a y.c y.root y.vs y.is (by omega) (fun z hz=>by have:=hy.each z hz;omega) W ((hi.below hW).more hs)
  exact⟨b7 x.k (hf x r).1 (aR.out x r).1,b7 x.v (hf x r).2 (aR.out x r).2⟩)
 have HA:Hid (∀j (hj:j<l.length),∃ak av,Ak=some ak/\Av=some av/\∀W,Below (b+1) f W->W.cell? (ak.add (j*2))=some (.slice l[j].k.a l[j].k.is.length l[j].k.c)/\W.cell? {block:=(ak.add (j*2)).block,off:=(ak.add (j*2)).off+1}=some (.int .i64 l[j].k.root)/\W.cell? (av.add (j*2))=some (.slice l[j].v.a l[j].v.is.length l[j].v.c)/\W.cell? {block:=(av.add (j*2)).block,off:=(av.add (j*2)).off+1}=some (.int .i64 l[j].v.root)):=hid (fun j hj=>by
  obtain⟨ak,rfl,h1,z0,z1⟩:=zgf aE.out.1.row (k:=j) (by simpa using hj);obtain⟨av,rfl,h2,z2,z3⟩:=zgf aE.out.2.row (k:=j) (by simpa using hj);simp only[List.getElem_map]at z0 z1 z2 z3;refine⟨ak,av,rfl,rfl,fun W hW=>?_⟩;have cc:(ak.add (j*2)).block<b+1:=by rw[zap];omega
  have bA:(av.add (j*2)).block<b+1:=by rw[zap];omega
  exact⟨(hW.cell cc).trans z0,(hW.cell (by exact cc)).trans z1,(hW.cell bA).trans z2,(hW.cell (by exact bA)).trans z3⟩)
 have HF:=hid hf;have aI:=hid U;have J:=hid bO;(try rw[U]);(try rw[aB]);(try rw[aH]);(try rw[aD]);(try rw[aM]);(try rw[aA]);(try rw[show b+1+1=b+2 from rfl]);clear aB U aD aH aA aM h hf l1 l2 l3 b1 b2 b3 bj aT bO;go_loopw [10] (fun s10 wr=>∃(j:Nat),j<=l.length/\s10=.int .i64 j/\Hid ((l.take j).any PArg.bad=false/\Below f.heap.size f wr)) (fun s10 _=>l.length-(intOf s10).toNat)
 case atStart=>exact⟨0,by omega,rfl,hid ⟨rfl,Below.refl _ _⟩⟩
 case round=>
  obtain⟨j,hj,rfl,HW⟩:=hrel;obtain⟨wq,cf⟩:∃wq,wq=wr:=⟨_,rfl⟩
  subst cf;have bv:Hid (Below (b+1) f wq):=hid (HW.out.2.mono (by have:=J.out;omega));by_cases hlt:j<l.length
  .have aj:(j:Int)<(l.length:Int):=by omega
   obtain⟨ak,av,rfl,rfl,hA⟩:=HA.out j hlt;obtain⟨x,r⟩:=ex (l[j])
   have ab:x∈l:=by rw[<-r];exact List.getElem_mem hlt
   rw[r]at hA;have T:=hid hA;have a5:Hid ((l.take (j+1)).any PArg.bad=x.bad):=hid (by rw[List.take_succ_eq_append_getElem hlt,List.any_append,r,HW.out.1];simp);have ai:Hid (x.bad=true->mapL ord l=([],3)):=hid (fun h=>by unfold mapL;rw[if_pos (zbw _ l j hlt (by rw[r];exact h))]);have am:Hid (x.bad=(x.k.chk sclX != 0 || x.v.chk sclX != 0)):=hid rfl;have bn:=hid (bN.out x ab);obtain⟨ck,I⟩:=ex (x.k.chk sclX)
   obtain⟨cv,aw⟩:=ex (x.v.chk sclX)
   rw[I,aw]at am bn;obtain⟨a0,a1,_⟩:=T.out wq bv.out;clear r ab I aw hA;have bC:=hid (bn.out wq (bv.out.mono (by omega)) (by have:=HW.out.2.size;have:=J.out;omega)).1;go_wp2_with fail;refine(bC.out wq (Below.refl _ _)).mono ?_;rintro e w7 ⟨rfl,bM⟩;have ag:Hid (Below f.heap.size f w7):=hid (HW.out.2.trans (bM.mono HW.out.2.size));clear bM a0 a1 bC;have d:=ap.out.below ag.out ap.out.lt;obtain⟨d0,d1⟩:=cells2 d;have df:∀i,w7.frozen? ⟨b,i,none⟩=false:=d.frozen;clear d;by_cases h0:ck=0
   rotate_left
   .have cp:((ck:Int) != 0)=true:=by rw[bne_iff_ne];omega
    have HE:=hid (ai.out (by rw[am.out];simp[h0]));go_wp2_with fail;refine bodyPost_ret (v:=.tuple #[gZero,.int .i64 3]) (by rw[results_cell_tmp rfl];go_simp;rfl) rfl ?_;rw[HE.out];refine za6.zero 3 ?_;rw[aI.out];exact((aG.out.trans (ag.out.mono (by have:=J.out;omega))).setCell (by simp) _).setCell (by simp) _
   .subst h0;have cp:(((0:Nat):Int) != 0)=false:=rfl;clear d0 d1 df;obtain⟨_,_,a2,a3⟩:=T.out w7 (ag.out.mono (by have:=J.out;omega));have ce:=hid (bn.out w7 (ag.out.mono (by have:=J.out;omega)) (by have:=ag.out.size;have:=J.out;omega)).2;go_wp2_with fail;refine(ce.out w7 (Below.refl _ _)).mono ?_;rintro e P ⟨rfl,bQ⟩;have bt:Hid (Below f.heap.size f P):=hid (ag.out.trans (bQ.mono ag.out.size));clear bQ a2 a3 ce;have d:=ap.out.below bt.out ap.out.lt;obtain⟨d0,d1⟩:=cells2 d;have df:∀i,P.frozen? ⟨b,i,none⟩=false:=d.frozen;clear d;by_cases h1:cv=0
    .subst h1;have cg:(((0:Nat):Int) != 0)=false:=rfl;have a4:Hid ((l.take (j+1)).any PArg.bad=false):=hid (by rw[a5.out,am.out];rfl);go_wp2;go_roundw
     case rel=>exact⟨j+1,by omega,by go_num,hid ⟨a4.out,bt.out⟩⟩
     case measure=>simp[intOf];omega
    .have cg:((cv:Int) != 0)=true:=by rw[bne_iff_ne];omega
     have HE:=hid (ai.out (by rw[am.out];simp[h1]));go_wp2_with fail;refine bodyPost_ret (v:=.tuple #[gZero,.int .i64 3]) (by rw[results_cell_tmp rfl];go_simp;rfl) rfl ?_;rw[HE.out];refine za6.zero 3 ?_;rw[aI.out];exact((aG.out.trans (bt.out.mono (by have:=J.out;omega))).setCell (by simp) _).setCell (by simp) _
  .have aj:¬(j:Int)<(l.length:Int):=by omega
   have al:Hid (l.any PArg.bad=false):=hid (by have:=HW.out.1;rwa[List.take_of_length_le (by omega)]at this);have bG:Hid (∀x∈l,Gr.GoodG x.k.p/\Gr.GoodG x.v.p):=hid (goodsP HF.out al.out);have cu:Hid (∀x∈l,x.k.chk sclX=0/\x.v.chk sclX=0):=hid (fun x r=>by
    have:=al.out;rw[List.any_eq_false]at this;have:=this x r;simp[PArg.bad]at this;exact this)
   have bI:Hid (LsM f wq (b+1) (.slice (some ⟨b+2,0,none⟩) 1 1) 10 ord [] SV.nil SV.nil [] [] []):=hid (bP.out.later HW.out.2);clear bP HW bv bN;go_upto_region 9 with fail;clear hlt aj hj;go_loopw [9,11] (fun s9 s11 wr=>∃(j:Nat) (A1:Option Addr) (n1 c1:Nat) (vs1:List NV) (sk si:SV),j<=l.length/\s11=.int .i64 j/\s9=.slice A1 n1 c1/\Hid (LsM f wr (b+1) (.slice A1 n1 c1) 10 ord vs1 sk si (Gr.mapI ((l.take j).map PArg.p)).1.1 (Gr.mapI ((l.take j).map PArg.p)).1.2 (Gr.mapI ((l.take j).map PArg.p)).2/\(l.take j).any PArg.dup=false)) (fun _ s11 _=>l.length-(intOf s11).toNat)
   case atStart=>exact⟨0,_,_,_,_,_,_,by omega,rfl,rfl,hid ⟨bI.out,rfl⟩⟩
   case round=>
    obtain⟨j,A1,n1,c1,vs1,sk,si,hj,rfl,rfl,HV⟩:=hrel;obtain⟨wp,cn⟩:∃wp,wp=wr:=⟨_,rfl⟩
    subst cn;clear bI;have an:Hid (Gr.MOk (Gr.mapI ((l.take j).map PArg.p)) j):=hid (by
     have:=Gr.zka ((l.take j).map PArg.p) (goodsM (fun x r=>bG.out x (List.mem_of_mem_take r)));rwa[List.length_map,List.length_take,Nat.min_eq_left hj]at this)
    obtain⟨p,hp⟩:=ex (Gr.mapI ((l.take j).map PArg.p))
    rw[hp]at an HV;have bp:Hid (vs1.length=p.2.length):=hid (by have:=HV.out.1.rows.len;simpa using this);have aU:Hid (n1=p.2.length+1):=hid (by
     obtain⟨A9,c9,e9,_⟩:=HV.out.1.row.form;have:=bp.out;injection e9 with _ e9 _
     rw[e9,List.length_cons,this])
    by_cases hlt:j<l.length
    .have aj:(j:Int)<(l.length:Int):=by omega
     obtain⟨ak,av,rfl,rfl,hA⟩:=HA.out j hlt;obtain⟨x,r⟩:=ex (l[j])
     have ab:x∈l:=by rw[<-r];exact List.getElem_mem hlt
     rw[r]at hA;obtain⟨I,aw⟩:=cu.out x ab;obtain⟨a9,bs⟩:=HF.out x ab;obtain⟨rk,aJ,bR,a6,bF⟩:=zep a9 I;obtain⟨rv,bg,bK,bu,b6⟩:=zep bs aw;have aN:=zhj a9;have aP:=zhj bs;have ay:Hid (∀W,Below b f W->GAt W b x.k.a x.k.vs (x.k.is.map Gr.Ni.nd)/\GAt W b x.v.a x.v.vs (x.v.is.map Gr.Ni.nd)):=hid (fun W hW=>by
      have:=aR.out x ab;exact⟨bF W b (this.1.below hW),b6 W b (this.2.below hW)⟩)
     have a5:Hid ((l.take (j+1)).any PArg.dup=x.dup):=hid (by rw[List.take_succ_eq_append_getElem hlt,List.any_append,r,HV.out.2];simp);have ai:Hid (x.dup=true->mapL ord l=([],16)):=hid (fun h=>by unfold mapL;rw[if_neg (by rw[al.out];decide),if_pos (zbw _ l j hlt (by rw[r];exact h))]);obtain⟨gk,F⟩:=ex (x.k.is.map Gr.Ni.nd)
     obtain⟨gv,R⟩:=ex (x.v.is.map Gr.Ni.nd)
     have bz:x.k.is.length=gk.length:=by rw[<-F];simp
     have bB:x.v.is.length=gv.length:=by rw[<-R];simp
     obtain⟨E,aO⟩:=ex p.1.1
     obtain⟨is,aQ⟩:=ex p.1.2
     obtain⟨rs,aS⟩:=ex p.2
     obtain⟨n2,b8⟩:=ex (n1+gk.length)
     have cd:Hid (Gr.mapI ((l.take (j+1)).map PArg.p)=((E++[rk+n1],is++[rv+n2]),(rs++gk.map (shN n1))++gv.map (shN n2))):=hid (by
      have e0:Gr.mapI ((l.take (j+1)).map PArg.p)=Gr.mstepI p x.p:=by
       unfold Gr.mapI at hp ⊢;rw[List.take_succ_eq_append_getElem hlt,r,List.map_append,List.foldl_append,hp];rfl
      have e1:rs.length+1=n1:=by rw[<-aS];exact aU.out.symm
      have e2:rs.length+x.k.is.length+1=n2:=by omega
      rw[e0];simp only[Gr.mstepI,PArg.p,GArg.p,e1,e2,aJ,bg,Int.toNat_natCast,F,R,aO,aQ,aS])
     have aW:Hid (x.dup=Gr.dupB gk rk):=hid (by unfold PArg.dup;rw[F,aJ,Int.toNat_natCast]);have o:Hid (n1<=481/\gk.length<=40/\gv.length<=40/\E.length=j/\is.length=j/\vs1.length+1=n1/\n2=n1+gk.length/\rk<40/\rv<40):=hid (by
      have h1:=aN.1;have h2:=aP.1;rw[F]at h1;rw[R]at h2;refine⟨by have:=aU.out;have:=an.out.nl;omega,h1,h2,by rw[<-aO];exact an.out.kl,by rw[<-aQ];exact an.out.il,by have:=aU.out;have:=bp.out;omega,b8.symm,by omega,by omega⟩)
     rw[F]at a6 aN ay;rw[R]at bu aP ay;rw[bz,aJ,bB,bg]at hA;rw[aO,aQ,aS]at HV;have T:=hid hA;have aL:=hid (And.intro a6 aN);have bJ:=hid (And.intro bu aP);obtain⟨du,bX⟩:=ex (Gr.dupB gk rk)
     have br:=hid bX;have ao:Hid (∀W,Below (b+1) f W->Below b f W/\b<=W.heap.size):=hid (fun W hW=>⟨hW.mono (Nat.le_succ _),by have:=hW.size;have:=J.out;omega⟩);have bb:=hid (zrc x.k.a x.k.c rk x.k.vs gk aL.out.1 (by have:=o.out;omega) (fun n hn=>by have:=aL.out.2.2 n hn;omega) wp ((ay.out wp (ao.out wp HV.out.1.below).1).1.more (ao.out wp HV.out.1.below).2));rw[br.out]at bb;obtain⟨a0,a1,_,_⟩:=T.out wp HV.out.1.below;clear I aw a9 bs aJ bR a6 bF bg bK bu b6 aN aP F R bz bB r ab hp bX hA aO aQ aS b8 an bp aU;go_wp2_with fail;refine bb.out.mono ?_;rintro e X ⟨rfl,bV⟩;have s:=hid (HV.out.1.later bV);clear bV a0 a1 bb HV;cases du with
     |true=>
      have HE:=hid (ai.out (by rw[aW.out,br.out]));have d:=ap.out.below s.out.below (Nat.lt_succ_self b);obtain⟨d0,d1⟩:=cells2 d;have df:∀i,X.frozen? ⟨b,i,none⟩=false:=d.frozen;clear d;go_wp2_with fail;refine bodyPost_ret (v:=.tuple #[gZero,.int .i64 16]) (by rw[results_cell_tmp rfl];go_simp;rfl) rfl ?_;rw[HE.out];refine za6.zero 16 ?_;rw[aI.out];exact((aG.out.trans (s.out.below.mono (Nat.le_succ _))).setCell (by simp) _).setCell (by simp) _
     |false=>
      have a4:Hid ((l.take (j+1)).any PArg.dup=false):=hid (by rw[a5.out,aW.out,br.out]);obtain⟨G,bZ⟩:=ex (rk+n1)
      have cb:(n1:Int)+(rk:Int)=(G:Int):=by omega
      have hk1b:G<=2000:=by have:=o.out;omega
      have bW:IntKind.i64.wrap (G:Int)=(G:Int):=IntWalk.i64_in _ (by omega);obtain⟨O,bD⟩:=ex (rv+n2)
      rw[bZ,bD]at cd;obtain⟨ac,co,af⟩:=sk;obtain rfl:co=E.length:=(SV.row (s.out.rows.own 0 false)).2;obtain⟨a0,a1,_a2,_a3⟩:=T.out X s.out.below;have y4:X.cell? ⟨b+1,3,none⟩=some (.slice ac E.length af):=s.out.box.cell 3;have ar:Below X.heap.size X (X.alloc (.cells #[.int .i64 (G:Int)] 3)):=(Below.refl _ _).alloc (Nat.le_refl _) _;have aY:(X.alloc (.cells #[.int .i64 (G:Int)] 3)).cell? ⟨b+1,3,none⟩=some (.slice ac E.length af):=(s.out.box.alloc _).cell 3;have aZ:(X.alloc (.cells #[.int .i64 (G:Int)] 3)).cell? {block:=(ak.add (j*2)).block,off:=(ak.add (j*2)).off+1}=some (.int .i64 (rk:Int)):=(ar.cell (World.block_lt_of_cell? X _ a1)).trans a1;have C:OwnRow intL (X.alloc (.cells #[.int .i64 (G:Int)] 3)).drew (b+1+1) 3 (.slice ac E.length af) E:=(s.out.rows.own 0 false).alloc _;have u:RowAt intL (X.alloc (.cells #[.int .i64 (G:Int)] 3)).drew (X.heap.size+1) (some ⟨X.heap.size,0,none⟩) [G]:=RowAt.lit1 _ _ rfl _ rfl;have aC:E.length+[G].length<=1073741824:=by have:=o.out;simp;omega
      have ax:b+1+1<=(X.alloc (.cells #[.int .i64 (G:Int)] 3)).drew.heap.size:=by have:=s.out.hd;simp;omega
      have H:Hid (LsM f (X.alloc (.cells #[.int .i64 (G:Int)] 3)).drew (b+1) (.slice A1 n1 c1) 10 ord vs1 ⟨ac,E.length,af⟩ si E is rs):=hid (s.out.later ((Below.refl _ _).alloc (Nat.le_refl _) _).drew);have Y:some (b+1)≠(Value.slice ac E.length af).ownBlock:=fun e=>by have:=((s.out.rows.own 0 false).lt (b+1) e.symm).1;omega
      clear ar bZ;go_upto_region 13 with fail;go_cut [] (fun wx=>∃s',Hid (LsM f wx (b+1) (.slice A1 n1 c1) 10 ord vs1 s' si (E++[G]) is rs))
      case first=>
       go_region_law (refine zai _ rfl (.tmp 51) (.tmp 60) 38 3 8 rfl intT (b+1+1) (.slice ac E.length af) E rfl C _ _ 1 [G] rfl u aC ax ?_;intro v' w2 m L S;obtain⟨A9,c9,a7,_⟩:=m.form;subst a7;have cq:∀i,w2.frozen? ⟨b+1,i,none⟩=false:=(H.out.box.grown L Y).frozen;have cm:w2.cell? ⟨b+1,3,none⟩=some (.slice ac E.length af):=(H.out.box.grown L Y).cell 3;have be:=hid (And.intro m (And.intro L S));clear m L S)
       all_goals
        go_wp2;go_meet;have h2:=be.out;rw[show(E++[G]).length=E.length+1 from by simp]at h2;exact⟨⟨A9,E.length+1,c9⟩,hid (H.out.growK (x:=⟨A9,E.length+1,c9⟩) h2.1 h2.2.1 h2.2.2)⟩
      case rest=>
       obtain⟨s',q⟩:=hcut;obtain⟨aF,bl⟩:∃aF,aF=s':=⟨_,rfl⟩
       subst bl;clear y4 aY aZ C u aC ax Y H a0 a1 bW cb;obtain⟨a0,a1,_a2,_a3⟩:=T.out wc q.out.below;have aq:=hid (zi9 (c:=x.k.c) (n:=n1) o.out.2.1 aL.out.2.2 aL.out.1.refs (by have:=o.out;omega) wc ((ay.out wc (ao.out wc q.out.below).1).1.more (ao.out wc q.out.below).2));clear a1 _a2 _a3;go_wp2_with fail;refine aq.out.mono ?_;rintro e w5 ⟨A5,c5,bm,rfl,K,M,D⟩;have Z:=hid (q.out.later D);have ah:=hid (And.intro M D);clear D M aq a0;go_wp2_with (at_builtin;go_must (refine zaa _ rfl (.tmp 63) (.tmp 71) 25 40 80 rfl nodeT (b+1+1) (.slice A1 n1 c1) (⟨10,[],ord,SV.nil,SV.nil⟩::vs1) rfl Z.out.row _ _ c5 bm rfl K.out.2 ?_ ?_ ?_))
       any_goals (first|rfl| (have:=o.out;have:=K.out.1;have:=Z.out.hd;simp;omega))
       intro v8 P A hg a8;obtain⟨A8,c8,bc,_⟩:=A.form;subst bc;have ad:=q.out.push ah.out.2 ah.out.1.rows A hg;have aa:((⟨10,[],ord,SV.nil,SV.nil⟩:NV)::(vs1++bm)).length=n2:=by have:=o.out;have:=K.out.1;simp;omega
       rw[aa]at ad;have bk:=hid ad;(try rw[aa]);obtain⟨az,au⟩:=ex (vs1++bm)
       have aV:Hid (az.length+1=n2):=hid (by rw[<-au];have:=o.out;have:=K.out.1;simp;omega);rw[au]at bk;have Q:=bk;clear au;clear A hg a8 aa ad q Z ah K bk s;have bL:(n2:Int)+(rv:Int)=(O:Int):=by omega
       have hk2b:O<=2000:=by have:=o.out;omega
       have bE:IntKind.i64.wrap (O:Int)=(O:Int):=IntWalk.i64_in _ (by omega);clear bD;obtain⟨V,cj,ae⟩:=si;obtain rfl:cj=is.length:=(SV.row (Q.out.rows.own 0 true)).2;obtain⟨_a0,_a1,a2,a3⟩:=T.out P Q.out.below;have y4:P.cell? ⟨b+1,4,none⟩=some (.slice V is.length ae):=Q.out.box.cell 4;have ar:Below P.heap.size P (P.alloc (.cells #[.int .i64 (O:Int)] 3)):=(Below.refl _ _).alloc (Nat.le_refl _) _;have aY:(P.alloc (.cells #[.int .i64 (O:Int)] 3)).cell? ⟨b+1,4,none⟩=some (.slice V is.length ae):=(Q.out.box.alloc _).cell 4;have aZ:(P.alloc (.cells #[.int .i64 (O:Int)] 3)).cell? {block:=(av.add (j*2)).block,off:=(av.add (j*2)).off+1}=some (.int .i64 (rv:Int)):=(ar.cell (World.block_lt_of_cell? P _ a3)).trans a3;have C:OwnRow intL (P.alloc (.cells #[.int .i64 (O:Int)] 3)).drew (b+1+1) 3 (.slice V is.length ae) is:=(Q.out.rows.own 0 true).alloc _;have u:RowAt intL (P.alloc (.cells #[.int .i64 (O:Int)] 3)).drew (P.heap.size+1) (some ⟨P.heap.size,0,none⟩) [O]:=RowAt.lit1 _ _ rfl _ rfl;have aC:is.length+[O].length<=1073741824:=by have:=o.out;simp;omega
       have ax:b+1+1<=(P.alloc (.cells #[.int .i64 (O:Int)] 3)).drew.heap.size:=by have:=Q.out.hd;simp;omega
       have H:Hid (LsM f (P.alloc (.cells #[.int .i64 (O:Int)] 3)).drew (b+1) (.slice A8 n2 c8) 10 ord az aF ⟨V,is.length,ae⟩ (E++[G]) is (rs++gk.map (shN n1))):=hid (Q.out.later ((Below.refl _ _).alloc (Nat.le_refl _) _).drew);have Y:some (b+1)≠(Value.slice V is.length ae).ownBlock:=fun e=>by have:=((Q.out.rows.own 0 true).lt (b+1) e.symm).1;omega
       clear ar ;go_upto_region 15 with fail;go_cut [] (fun wx=>∃s',Hid (LsM f wx (b+1) (.slice A8 n2 c8) 10 ord az aF s' (E++[G]) (is++[O]) (rs++gk.map (shN n1))))
       case first=>
        go_region_law (refine zai _ rfl (.tmp 74) (.tmp 83) 38 3 8 rfl intT (b+1+1) (.slice V is.length ae) is rfl C _ _ 1 [O] rfl u aC ax ?_;intro v' w2 m L S;obtain⟨A9,c9,a7,_⟩:=m.form;subst a7;have cq:∀i,w2.frozen? ⟨b+1,i,none⟩=false:=(H.out.box.grown L Y).frozen;have cm:w2.cell? ⟨b+1,4,none⟩=some (.slice V is.length ae):=(H.out.box.grown L Y).cell 4;have be:=hid (And.intro m (And.intro L S));clear m L S)
        all_goals
         go_wp2;go_meet;have h2:=be.out;rw[show(is++[O]).length=is.length+1 from by simp]at h2;exact⟨⟨A9,is.length+1,c9⟩,hid (H.out.growI (x:=⟨A9,is.length+1,c9⟩) h2.1 h2.2.1 h2.2.2)⟩
       case rest=>
        obtain⟨s',q⟩:=hcut;obtain⟨bT,bl⟩:∃bT,bT=s':=⟨_,rfl⟩
        subst bl;clear y4 aY aZ C u aC ax Y H a2 a3 bE bL;obtain⟨_a0,_a1,a2,a3⟩:=T.out wc q.out.below;have aq:=hid (zi9 (c:=x.v.c) (n:=n2) o.out.2.2.1 bJ.out.2.2 bJ.out.1.refs (by have:=o.out;omega) wc ((ay.out wc (ao.out wc q.out.below).1).2.more (ao.out wc q.out.below).2));clear a3 _a0 _a1;go_wp2_with fail;refine aq.out.mono ?_;rintro e w5 ⟨A5,c5,bh,rfl,K,M,D⟩;have Z:=hid (q.out.later D);have ah:=hid (And.intro M D);clear D M aq a2;go_wp2_with (at_builtin;go_must (refine zaa _ rfl (.tmp 86) (.tmp 94) 25 40 80 rfl nodeT (b+1+1) (.slice A8 n2 c8) (⟨10,[],ord,SV.nil,SV.nil⟩::az) rfl Z.out.row _ _ c5 bh rfl K.out.2 ?_ ?_ ?_))
        any_goals (first|rfl| (have:=o.out;have:=K.out.1;have:=aV.out;have:=Z.out.hd;simp;omega))
        intro v8 P A hg a8;obtain⟨A10,c10,bc,_⟩:=A.form;subst bc;have ad:=q.out.push ah.out.2 ah.out.1.rows A hg;have aa:((⟨10,[],ord,SV.nil,SV.nil⟩:NV)::(az++bh)).length=(n2+bh.length):=by have:=o.out;have:=K.out.1;have:=aV.out;simp;omega
        rw[aa]at ad;have ci:=hid ad;(try rw[aa]);clear A hg a8 aa ad q Z ah;go_wp2;go_roundw
        case rel=>exact⟨j+1,_,_,_,_,_,_,by omega,by go_num,rfl,hid ⟨by rw[cd.out];exact ci.out,a4.out⟩⟩
        case measure=>simp[intOf];omega
    .have aj:¬(j:Int)<(l.length:Int):=by omega
     have cl:Hid (l.any PArg.dup=false):=hid (by have:=HV.out.2;rwa[List.take_of_length_le (by omega)]at this);have bf:Hid (Gr.mapN ord (l.map PArg.p)=⟨10,[],ord,p.1.1,p.1.2⟩::p.2):=hid (by unfold Gr.mapN;rw[<-hp,List.take_of_length_le (by omega)]);have b4:=hid (zlj ord al.out cl.out);have aK:=hid (mapOk ord (goodsM bG.out) (by simpa using hl));obtain⟨ka,kn,kc⟩:=sk;obtain⟨sa,sn,sc⟩:=si;obtain⟨g,c0,cr,ct,⟨g0,g1,g2,g3,g4⟩,aX⟩:=HV.out.1.fin;injection cr with e1 e2 e3
     subst e1 e2 e3;have b9:=hid aX;have ca:Blk wp (b+1) 40 #[.int .i64 10,.string ⟨#[]⟩,.bool ord,.slice ka kn kc,.slice sa sn sc]:=HV.out.1.box;obtain⟨k0,G,O,k3,k4⟩:=cells5 ca;obtain⟨N,hN⟩:=ex (vs1.length+1)
     have hn0:(0:Int)<(N:Int):=by omega
     have bY:Hid (N=vs1.length+1):=hid hN.symm;rw[hN];clear hN aX ca hp an aR HA;go_upto_region 17 with fail;go_upto_region 18 with fail;obtain⟨w5,bd⟩:=ex (((((wp.setCell ⟨g,0,none⟩ (.int .i64 10)).setCell ⟨g,1,none⟩ (.string ⟨#[]⟩)).setCell ⟨g,2,none⟩ (.bool ord)).setCell ⟨g,3,none⟩ (.slice ka kn kc)).setCell ⟨g,4,none⟩ (.slice sa sn sc))
     obtain⟨D,M⟩:=b9.out w5 bd.symm;(try rw[bd]);clear bd k0 G O k3 k4 g0 g1 g2 g3 g4 ct;obtain⟨A5,c5,cs,bw⟩:=M.at_;injection cs with e1 e2 e3
     subst e1 e3;rw[<-bf.out]at bw;have bo:(Gr.mapN ord (l.map PArg.p)).length=N:=by rw[bf.out,bY.out];exact e2.symm
     have I:=zy6 aK.out.1 aK.out.2.1 aK.out.2.2.1 aK.out.2.2.2 (some ⟨g,0,none⟩) c1 _ w5 bw;obtain⟨cz,bi⟩:=ex (checkG sclX (Gr.mapN ord (l.map PArg.p)) 0)
     rw[bo,bi]at I;rw[bi]at b4;have bU:=hid (zua (some ⟨g,0,none⟩) N c1 cz w5 I);have bS:Hid (Below (b+1) f w5):=hid D;have ba:=hid (And.intro M bo);clear D M bw bo I bi e2;go_wp2_with fail;refine bU.out.mono ?_;rintro e w6 ⟨bx,A4,n4,c4,rfl,b0⟩;have bq:Hid (Below (b+1) f w6/\Below w5.heap.size w5 w6):=hid ⟨bS.out.trans (bx.mono (by have:=bS.out.size;have:=J.out;omega)),bx⟩;have d:=ap.out.below bq.out.1 (Nat.lt_succ_self b);have bH:=hid d;obtain⟨d0,d1⟩:=cells2 d;have df:∀i,w6.frozen? ⟨b,i,none⟩=false:=d.frozen;clear bx d bU;go_wp2_with fail;refine bodyPost_ret (v:=.tuple #[.agg #[.slice A4 n4 c4,.int .i64 0],.int .i64 cz]) (by rw[results_cell_tmp rfl];go_simp) rfl ?_;rw[b4.out];have ch:Below w.heap.size w ((w6.setCell ⟨b,0,none⟩ (.slice A4 n4 c4)).setCell ⟨b,1,none⟩ (.int .i64 0)):=by
      rw[aI.out];exact((aG.out.trans (bq.out.1.mono (Nat.le_succ _))).setCell (by simp) _).setCell (by simp) _
     exact zlk ch ba.out.2 b0.out (by
      intro h0;obtain⟨rfl,rfl,rfl⟩:=b0.out.1 h0;have b5:∀t,t≠27->KeptT t w5 ((w6.setCell ⟨b,0,none⟩ (.slice (some ⟨g,0,none⟩) n4 c4)).setCell ⟨b,1,none⟩ (.int .i64 0)):=fun t ht=>(KeptT.later bq.out.2).trans ((KeptT.setCell (p:=⟨b,0,none⟩) bH.out ht _).trans (KeptT.setCell (p:=⟨b,1,none⟩) (bH.out.set_ 0 _) ht _))
      rw[bf.out];have h7:Tab (b+1+1) _ _ _ _:=⟨ba.out.1.row.kept (b5 _ (by decide)),ba.out.1.rows.kept (b5 _ (by decide))⟩
      rw[<-bY.out]at h7;exact⟨_,h7⟩)
theorem zyl {x:GArg} (h:Gr.few x.is=true):Gr.FewG x.p:=⟨Gr.zw0 h,fun y a=>Gr.zw1 h y a⟩
theorem pairT:SliceT prog pairL 23 30 64:=zbq pairL 23 30 (.agg #[.slice none 0 0,.int .i64 0,.slice none 0 0,.int .i64 0]) 64 underlying23 (by kernel_rfl) rfl (by omega)
def zipP (ks vs:List GArg):List PArg:=List.zipWith PArg.mk ks vs
theorem zym (ks vs:List GArg):(zipP ks vs).map PArg.k=ks.take (min ks.length vs.length):=by
 unfold zipP
 induction ks generalizing vs with
 |nil=>simp
 |cons k ks ih=>
  cases vs with
  |nil=>simp
  |cons v vs=>simp only[List.zipWith_cons_cons,List.map_cons,List.length_cons,ih vs,Nat.add_min_add_right,List.take_succ_cons]
theorem zyn (ks vs:List GArg):(zipP ks vs).map PArg.v=vs.take (min ks.length vs.length):=by
 unfold zipP
 induction ks generalizing vs with
 |nil=>simp
 |cons k ks ih=>
  cases vs with
  |nil=>simp
  |cons v vs=>simp only[List.zipWith_cons_cons,List.map_cons,List.length_cons,ih vs,Nat.add_min_add_right,List.take_succ_cons]
theorem GsAt.take {w:World} {B:Nat} {A:Option Addr} {l:List GArg} (h:GsAt w B A l) (k:Nat) (hk:k<=l.length):GsAt w B A (l.take k):=⟨h.row.take k hk,fun x a=>h.each x (List.mem_of_mem_take a)⟩
theorem zr1 (ord:Bool) (Ak:Option Addr) (ck:Nat) (kl:List GArg) (Av:Option Addr) (cv:Nat) (vl:List GArg) (hzk:∀x∈kl,Sz x.is) (hck:kl.length<=ck/\ck<=maxLen) (hzv:∀x∈vl,Sz x.is) (hcv:vl.length<=cv/\cv<=maxLen) (w:World) (hUT:UT w) (hk:GsAt w w.heap.size Ak kl) (hv:GsAt w w.heap.size Av vl):
 Calls prog 3 #[.bool ord,.slice Ak kl.length ck,.slice Av vl.length cv] w fun e w'=>e=.returned (.bool true)/\Below w.heap.size w w':=by
 have HT:Hid (∀W,Below w.heap.size w W->UT W):=hid (fun W f=>UT.stays _ _ hUT f);have S:Hid (∀W,Below w.heap.size w W->GsAt W w.heap.size Ak kl/\GsAt W w.heap.size Av vl):=hid (fun W f=>⟨hk.below f,hv.below f⟩);have K:Hid (∀W,Below w.heap.size w W->Calls prog 5 #[] W fun e w'=>e=.returned (.bool true)/\Below W.heap.size W w'):=hid (fun W f=>zrm W (UT.stays _ _ hUT f));have HZ:=hid (And.intro hzk hzv);have HC:=hid (And.intro hck hcv);obtain⟨N,hN⟩:=ex (min kl.length vl.length)
 have aj:min (kl.length:Int) (vl.length:Int)=(N:Int):=by omega
 have C:Hid (N<=kl.length/\N<=vl.length):=hid (by omega);obtain⟨d,V⟩:=ex (zipP kl vl)
 have D:Hid (d.map PArg.k=kl.take N/\d.map PArg.v=vl.take N):=hid (by rw[<-V,zym,zyn,hN];exact⟨rfl,rfl⟩);have u:Hid (d.length=N):=hid (by rw[<-V];unfold zipP;rw[List.length_zipWith,hN]);clear hzk hzv hck hcv hUT hk hv hN V;go_enter func3,ntmps3;go_upto_region 4 with fail;go_loopw [8,9] (fun s8 s9 wr=>∃(j:Nat) (A1:Option Addr) (c1:Nat),j<=N/\j<=6/\s9=.int .i64 j/\s8=.slice A1 j c1/\Hid (OwnRow pairL wr w.heap.size 30 (.slice A1 j c1) (d.take j)/\Below w.heap.size w wr/\∀x∈d.take j,Gr.few x.k.is=true/\Gr.few x.v.is=true)) (fun _ s9 _=>N-(intOf s9).toNat)
 case atStart=>exact⟨0,none,0,by omega,by omega,rfl,rfl,hid ⟨OwnRow.nil,Below.refl _ _,by simp⟩⟩
 case round=>
  obtain⟨j,A1,c1,hj,hj6,rfl,rfl,E⟩:=hrel;obtain⟨g,aP⟩:∃g,g=wr:=⟨_,rfl⟩
  subst aP;by_cases hlt:j<N
  .have aE:(j:Int)<(N:Int):=by omega
   by_cases h5:5<j
   .have aR:(5:Int)<(j:Int):=by omega
    go_wp2_with fail;refine(K.out g E.out.2.1).mono ?_;rintro e A ⟨rfl,i⟩;have H:Hid (Below w.heap.size w A):=hid (E.out.2.1.trans (i.mono E.out.2.1.size));clear i;go_wp2;go_ret;exact⟨rfl,H.out⟩
   .have aR:¬(5:Int)<(j:Int):=by omega
    have ab:j<kl.length:=by have:=C.out;omega
    have ac:j<vl.length:=by have:=C.out;omega
    have hjkI:(j:Int)<(kl.length:Int):=by omega
    have hjvI:(j:Int)<(vl.length:Int):=by omega
    have Q:j<d.length:=by rw[u.out];exact hlt
    obtain⟨x,P⟩:=ex (d[j])
    have T:kl[j]=x.k:=by
     have h:=congrArg (fun l:List GArg=>l[j]?) D.out.1;simp only[List.getElem?_map,List.getElem?_eq_getElem Q,P,Option.map_some,List.getElem?_take,if_pos hlt,List.getElem?_eq_getElem ab]at h;injection h with h;exact h.symm
    have Y:vl[j]=x.v:=by
     have h:=congrArg (fun l:List GArg=>l[j]?) D.out.2;simp only[List.getElem?_map,List.getElem?_eq_getElem Q,P,Option.map_some,List.getElem?_take,if_pos hlt,List.getElem?_eq_getElem ac]at h;injection h with h;exact h.symm
    have G:x.k∈kl/\x.v∈vl:=⟨T▸List.getElem_mem ab,Y▸List.getElem_mem ac⟩
    obtain⟨ak,rfl,aM,a0,a1⟩:=zgf (S.out g E.out.2.1).1.row ab;obtain⟨av,rfl,al,b0,b1⟩:=zgf (S.out g E.out.2.1).2.row ac;rw[T]at a0 a1;rw[Y]at b0 b1;have aA:Hid (∀W,Below w.heap.size g W->W.cell? (ak.add (j*2))=some (.slice x.k.a x.k.is.length x.k.c)/\W.cell? {block:=(ak.add (j*2)).block,off:=(ak.add (j*2)).off+1}=some (.int .i64 x.k.root)/\W.cell? (av.add (j*2))=some (.slice x.v.a x.v.is.length x.v.c)/\W.cell? {block:=(av.add (j*2)).block,off:=(av.add (j*2)).off+1}=some (.int .i64 x.v.root)):=hid (fun W f=>by
     have F:(ak.add (j*2)).block<w.heap.size:=by rw[zap];exact aM
     have t:(av.add (j*2)).block<w.heap.size:=by rw[zap];exact al
     exact⟨(f.cell F).trans a0,(f.cell (by exact F)).trans a1,(f.cell t).trans b0,(f.cell (by exact t)).trans b1⟩)
    have af:Hid (∀W,Below w.heap.size w W->(Calls prog 4 #[.agg #[.slice x.k.a x.k.is.length x.k.c,.int .i64 x.k.root]] W fun e w'=>e=.returned (.bool (Gr.few x.k.is))/\Below W.heap.size W w')/\Calls prog 4 #[.agg #[.slice x.v.a x.v.is.length x.v.c,.int .i64 x.v.root]] W fun e w'=>e=.returned (.bool (Gr.few x.v.is))/\Below W.heap.size W w'):=hid (fun W f=>⟨zrq x.k.a x.k.c x.k.root x.k.vs x.k.is (HZ.out.1 _ G.1) W (((S.out W f).1.each _ G.1).more f.size),zrq x.v.a x.v.c x.v.root x.v.vs x.v.is (HZ.out.2 _ G.2) W (((S.out W f).2.each _ G.2).more f.size)⟩);have ao:Hid (d.take (j+1)=d.take j++[x]):=hid (by rw[List.take_succ_eq_append_getElem Q,P]);have aq:Hid (Gr.few x.k.is=true->Gr.few x.v.is=true->∀y∈d.take (j+1),Gr.few y.k.is=true/\Gr.few y.v.is=true):=hid (fun F t y hy=>by
     rw[ao.out]at hy;rcases List.mem_append.1 hy with hy|hy
     .exact E.out.2.2 y hy
     .rw[List.mem_singleton.1 hy];exact⟨F,t⟩)
    have aS:Hid (OwnRow pairL g w.heap.size 30 (.slice A1 j c1) (d.take j)):=hid E.out.1;have aG:Hid ((d.take j).length=j):=hid (by rw[List.length_take];omega);have LQ:Hid (Below w.heap.size w g):=hid E.out.2.1;obtain⟨f1,am⟩:=ex (Gr.few x.k.is)
    obtain⟨f2,aH⟩:=ex (Gr.few x.v.is)
    rw[am,aH]at af aq;have an:=hid (af.out g LQ.out).1;clear P T Y G am aH aM al Q b0 b1 E;go_wp2_with fail;refine an.out.mono ?_;rintro e A ⟨rfl,i⟩;have ag:Below g.heap.size g A:=i;have H:Hid (Below w.heap.size w A):=hid (LQ.out.trans (ag.mono LQ.out.size));have Q3:=hid ag;clear i ag a0 a1 an;cases f1 with
    |false=>
     go_wp2_with fail;refine(K.out A H.out).mono ?_;rintro e b ⟨rfl,B⟩;have r:Hid (Below w.heap.size w b):=hid (H.out.trans (B.mono H.out.size));clear B;go_wp2;go_ret;exact⟨rfl,r.out⟩
    |true=>
     obtain⟨_,_,b0,b1⟩:=aA.out A (Q3.out.mono LQ.out.size);have ay:=hid (af.out A H.out).2;go_wp2_with fail;refine ay.out.mono ?_;rintro e b ⟨rfl,B⟩;have r:Hid (Below w.heap.size w b):=hid (H.out.trans (B.mono H.out.size));have Q4:Hid (Below g.heap.size g b):=hid (Q3.out.trans (B.mono Q3.out.size));clear B b0 b1 ay;cases f2 with
     |false=>
      go_wp2_with fail;refine(K.out b r.out).mono ?_;rintro e w5 ⟨rfl,m⟩;have L5:Hid (Below w.heap.size w w5):=hid (r.out.trans (m.mono r.out.size));clear m;go_wp2;go_ret;exact⟨rfl,L5.out⟩
     |true=>
      obtain⟨a0,a1,b0,b1⟩:=aA.out b (Q4.out.mono LQ.out.size);have I:OwnRow pairL (b.alloc (.cells (pairC x) 30)).drew w.heap.size 30 (.slice A1 j c1) (d.take j):=(aS.out.later Q4.out).alloc _;have aa:RowAt pairL (b.alloc (.cells (pairC x) 30)).drew (b.heap.size+1) (some ⟨b.heap.size,0,none⟩) [x]:=RowAt.lit1 _ _ rfl _ rfl;have aW:(d.take j).length+[x].length<=1073741824:=by rw[aG.out];simp;omega
      have ax:w.heap.size<=(b.alloc (.cells (pairC x) 30)).drew.heap.size:=by have:=r.out.size;simp;omega
      have LA:Hid (Below w.heap.size w (b.alloc (.cells (pairC x) 30)).drew):=hid (r.out.alloc r.out.size _).drew;go_upto_region 8 with fail;go_region_law (refine zai _ rfl (.tmp 43) (.tmp 53) 23 30 64 rfl pairT w.heap.size (.slice A1 j c1) (d.take j) rfl I _ _ 1 [x] rfl aa aW ax ?_;intro v' w2 s aL aJ;obtain⟨A9,c9,ai,_⟩:=s.form;subst ai;have aQ:=hid (And.intro s aL);clear s aL aJ)
      all_goals
       go_wp2_with fail;have t:=aQ.out;rw[show(d.take j++[x]).length=j+1 from by rw[List.length_append,aG.out];rfl]at t;rw[show min j d.length+1=j+1 from by have:=u.out;omega];exact⟨⟨j+1,A9,c9,by omega,by omega,by go_num,rfl,hid ⟨by rw[ao.out];exact t.1,LA.out.trans (I.grown_below t.2 ax),aq.out trivial trivial⟩⟩,by simp[intOf];omega⟩
  .have aE:¬(j:Int)<(N:Int):=by omega
   have ap:j=N:=by omega
   have aU:N<=6:=by omega
   have z:Hid (∀x∈d,Gr.FewG x.k.p/\Gr.FewG x.v.p):=hid (fun x P=>by
    have:=E.out.2.2 x (by rw[List.take_of_length_le (by rw[u.out];omega)];exact P);exact⟨zyl this.1,zyl this.2⟩)
   have U:Hid (Below w.heap.size w g):=hid E.out.2.1;have aF:PsAt g g.heap.size A1 d:=by
    obtain⟨A9,c9,ai,ar⟩:=E.out.1.form;injection ai with e1 e2 e3
    rw[<-e1,List.take_of_length_le (by rw[u.out];omega)]at ar;refine⟨ar,fun x P=>?_⟩;have F:x.k∈kl:=List.mem_of_mem_take (by rw[<-D.out.1];exact List.mem_map_of_mem P);have t:x.v∈vl:=List.mem_of_mem_take (by rw[<-D.out.2];exact List.mem_map_of_mem P);exact⟨((S.out g U.out).1.each _ F).more U.out.size,((S.out g U.out).2.each _ t).more U.out.size⟩
   have J:d.length<=6:=by rw[u.out];exact aU
   obtain⟨L,hL⟩:=ex ((mapL ord d).1)
   obtain⟨no,O⟩:=ex ((mapL ord d).2)
   have ad:=zxa ord J z.out;rw[hL,O]at ad;have au:=hid ad;have X:=zub A1 c1 ord d J z.out g (HT.out g U.out) aF;rw[u.out,<-ap]at X;have ae:Hid (Calls prog 6 #[.bool ord,.slice A1 j c1] g fun e w'=>Below g.heap.size g w'/\∃A2 c2 vs2,e=.returned (.tuple #[.agg #[.slice A2 L.length c2,.int .i64 0],.int .i64 (no:Nat)])/\∀W',KeptT 40 w' W'->KeptT 3 w' W'->IAt W' W'.heap.size A2 vs2 L):=hid (X.mono (fun e w' hp=>by unfold za6 at hp;rwa[hL,O]at hp));have HR:Hid (∀W,Below w.heap.size w W->Calls prog 7 #[.bool ord,.slice Ak N ck,.slice Av N cv] W fun e w'=>Below W.heap.size W w'/\Below w.heap.size w w'/\∃A2 c2 vs2,e=.returned (.tuple #[.agg #[.slice A2 L.length c2,.int .i64 0],.int .i64 (no:Nat)])/\Hid (∀W',KeptT 40 w' W'->KeptT 3 w' W'->IAt W' W'.heap.size A2 vs2 L)):=hid (fun W f=>by
    have F:=((S.out W f).1.take N C.out.1).more f.size;have t:=((S.out W f).2.take N C.out.2).more f.size;rw[<-D.out.1]at F;rw[<-D.out.2]at t;have:=zuc Ak Av ck cv ord d J z.out W ⟨F,t⟩;rw[u.out]at this;refine this.mono (fun e w' hp=>?_);unfold za6 at hp;rw[hL,O]at hp;obtain⟨F,A2,c2,vs2,t,h3⟩:=hp;exact⟨F,f.trans (F.mono f.size),A2,c2,vs2,t,hid h3⟩)
   clear hL O ad z E X aF;obtain⟨M,hM⟩:=ex L.length
   have aX:=hid hM;rw[hM]at ae HR;have aV:(N:Int)<=(ck:Int):=by have:=HC.out;have:=C.out;omega
   have aO:(N:Int)<=(cv:Int):=by have:=HC.out;have:=C.out;omega
   clear hM hlt ap;go_wp2_with fail;refine ae.out.mono ?_;rintro e A ⟨i,A2,c2,vs2,rfl,aB⟩;have H:Hid (Below w.heap.size w A):=hid (U.out.trans (i.mono U.out.size));have aD:=hid (aB A (KeptT.refl _ _) (KeptT.refl _ _));clear i ae aB;obtain⟨gb,q⟩:=ex A.heap.size
   go_upto_region 10 with fail;obtain⟨b,R⟩:=ex (A.alloc (.cells #[.slice A2 M c2,.int .i64 0] 27))
   have l4:Below gb A b:=by rw[<-R,<-q];exact(Below.refl _ _).alloc (Nat.le_refl _) _
   have b4:Blk b gb 27 #[.slice A2 M c2,.int .i64 0]:=by rw[<-R,<-q];exact Blk.new _ _ _
   have aI:w.heap.size<=gb:=by rw[<-q];exact H.out.size
   have r:Hid (Below w.heap.size w b):=hid (H.out.trans (l4.mono aI));have aC:=hid b4;have aK:Hid (IAt b b.heap.size A2 vs2 L):=hid (by have:=aD.out.below (by rw[q];exact l4);exact this.more (by rw[q];have:=b4.lt;omega));(try rw[R]);(try rw[q]);clear R q l4 b4 aI aD;go_cut [12,13] (fun s12 s13 wx=>∃A3 c3 vs3 gc,s12=.pointer (some ⟨gc,0,none⟩)/\s13=.int .i64 (no:Nat)/\Hid (Blk wx gc 27 #[.slice A3 M c3,.int .i64 0]/\Below b.heap.size b wx/\IAt wx wx.heap.size A3 vs3 L))
   case first=>
    go_region_held3 (fun _=>True) (first|trivial|go_keep) (first
     | (go_at_call 7;(with_reducible refine(HR.out (b.alloc (.cells #[.slice none 0 0,.int .i64 0] 27)).drew (r.out.alloc r.out.size _).drew).mono ?_);rintro e5 w5 ⟨m,aT,A3,c3,vs3,rfl,ah⟩;have o:Blk w5 b.heap.size 27 #[.slice none 0 0,.int .i64 0]:=(Blk.new b 27 #[.slice none 0 0,.int .i64 0]).drew.below m (Blk.new b 27 #[.slice none 0 0,.int .i64 0]).drew.lt;have q0:=o.cell 0;have q1:=o.cell 1;have qf:=o.frozen)
     | (go_at_call 7;(with_reducible refine(HR.out _ ?_).mono ?_);(first|assumption|exact r.out|exact r.out.drew);rintro e5 w5 ⟨m,aT,A3,c3,vs3,rfl,ah⟩))
    all_goals
     go_wp2;go_meet
     first
      |exact⟨A3,c3,vs3,w5.heap.size,rfl,rfl,hid ⟨Blk.new _ _ _,((Below.refl b.heap.size b).drew.trans m).alloc m.size _,ah.out _ (KeptT.alloc _ _ _) (KeptT.alloc _ _ _)⟩⟩
      |exact⟨A3,c3,vs3,b.heap.size,rfl,rfl,hid ⟨(o.set_ 0 _).set_ 1 _,(((((Below.refl b.heap.size b).alloc (Nat.le_refl _) _).drew.trans (m.mono (by simp))).setCell (p:=⟨b.heap.size,0,none⟩) (Nat.le_refl _) _).setCell (p:=⟨b.heap.size,1,none⟩) (Nat.le_refl _) _),ah.out _ ((KeptT.setCell (p:=⟨b.heap.size,0,none⟩) o (by decide) _).trans (KeptT.setCell (p:=⟨b.heap.size,1,none⟩) (o.set_ 0 _) (by decide) _)) ((KeptT.setCell (p:=⟨b.heap.size,0,none⟩) o (by decide) _).trans (KeptT.setCell (p:=⟨b.heap.size,1,none⟩) (o.set_ 0 _) (by decide) _))⟩⟩
   case rest=>
    obtain⟨A3,c3,vs3,gc,rfl,rfl,n⟩:=hcut;have L6:Hid (Below w.heap.size w wc):=hid (r.out.trans (n.out.2.1.mono r.out.size));have b5:=aC.out.below n.out.2.1 aC.out.lt;obtain⟨r0,r1⟩:=cells2 b5;obtain⟨r2,r3⟩:=cells2 n.out.1;have Z:=zrn A2 A3 c2 c3 0 (no:Nat) vs2 vs3 L au.out.1 wc ((aK.out.below n.out.2.1).more n.out.2.1.size) n.out.2.2 (fun h=>au.out.2 (by omega) A2 c2 vs2 wc (HT.out wc L6.out) ((aK.out.below n.out.2.1).more n.out.2.1.size));rw[aX.out]at Z;have aN:=hid Z;clear b5 Z aV aO aj;go_wp2_with fail;refine aN.out.mono ?_;rintro e w7 ⟨rfl,aw⟩;have L7:Hid (Below w.heap.size w w7):=hid (L6.out.trans (aw.mono L6.out.size));clear aw r0 r1 r2 r3 aN;go_wp2_with fail;refine(K.out w7 L7.out).mono ?_;rintro e w8 ⟨rfl,az⟩;have L8:Hid (Below w.heap.size w w8):=hid (L7.out.trans (az.mono L7.out.size));clear az;go_wp2;go_ret;exact⟨rfl,L8.out⟩
end Go.Proofs.YtpjmhafmeieloabGreatDoor
