import Derived.Test.YtpjmhafmeieloaaGreatDoorGrRPrint
import Derived.Test.YtpjmhafmeieloaaGreatDoorZ24
namespace Go.Proofs.YtpjmhafmeieloaaGreatDoor
open Gr
open _root_.Go.Proofs.Tryz
open _root_.Go.Lib (hid)
set_option maxRecDepth 100000
set_option maxHeartbeats 16000000
open Go.RowKit
structure TM (w wr:World) (gc:Array Value) (v:Value) (L:List Gr.Str):Prop where
 below:Below w.heap.size w wr
 gbox:Blk wr w.heap.size 24 gc
 own:OwnRow strL wr (w.heap.size+1) 9 v L
 hd:w.heap.size+1<=wr.heap.size
section
variable {w wr w2:World} {gc:Array Value} {v v':Value} {L L':List Gr.Str}
theorem TM.later (h:TM w wr gc v L) (hb:Below wr.heap.size wr w2):TM w w2 gc v L:=
 ⟨h.below.trans (hb.mono h.below.size),h.gbox.below hb h.gbox.lt,h.own.later hb,Nat.le_trans h.hd hb.size⟩
theorem TM.alloc (h:TM w wr gc v L) (o:Obj):TM w (wr.alloc o) gc v L:=h.later ((Below.refl _ _).alloc (Nat.le_refl _) _)
theorem TM.grown (h:TM w wr gc v L) (ho:OwnRow strL w2 (w.heap.size+1) 9 v' L') (hg:wr.grownBy w2 v.ownBlock):TM w w2 gc v' L':=
 ⟨h.below.trans ((h.own.grown_below hg h.hd).mono (by omega)),zbg h.gbox h.own hg (by omega),ho,Nat.le_trans h.hd (h.own.grown_below hg h.hd).size⟩
theorem TM.none (h:TM w wr gc v L):TM w wr gc (.slice none 0 0) []:=⟨h.below,h.gbox,OwnRow.nil,h.hd⟩
end
theorem znr (A:Option Addr) (c:Nat) (root:Int) (vs:List NV) (ns:List Gr.Nd) (P:Nat->Prop) (F b:Nat) (hok:PrOk ns P F b) (hnl:ns.length<=1000) (hks:∀n∈ns,∀k∈n.keys,k<ns.length/\P k/\Tall' ns F k) (w:World) (h:GAt w w.heap.size A vs ns):
 Calls prog 32 #[.agg #[.slice A ns.length c,.int .i64 root]] w fun e w'=>e=.returned (.bool (rtwice ns F))/\Below w.heap.size w w':=by
 have H:=hid h;have al:=hid (znq A c root vs ns P F b hok hnl);have aj:=hid hok;obtain⟨gc,p⟩:∃gc:Array Value,#[.slice A ns.length c,.int .i64 root]=gc:=⟨_,rfl⟩
 have m:Hid (gc[0]? =some (.slice A ns.length c)/\gc[1]? =some (.int .i64 root)):=hid (by rw[<-p];exact⟨rfl,rfl⟩);obtain⟨w1,s⟩:=ex (w.alloc (.cells #[.slice A ns.length c,.int .i64 root] 24))
 have an:Hid (TM w w1 gc (.slice none 0 0) []):=hid (by rw[<-s,<-p];exact⟨(Below.refl _ _).alloc (Nat.le_refl _) _,Blk.new _ _ _,OwnRow.nil,by simp⟩);clear h hok p;go_enter func32,ntmps32;go_upto_region 2 with fail;(try rw[s]);clear s;go_loopw [3] (fun s3 wr=>∃i:Nat,i<=ns.length/\s3=.int .i64 i/\Hid (TM w wr gc (.slice none 0 0) []/\∀j,j<i->∀(hj:j<ns.length),dupS (ns[j].keys.map (printF ns F))=false)) (fun s3 _=>ns.length-(intOf s3).toNat)
 case atStart=>exact⟨0,by omega,rfl,hid ⟨an.out,fun j hj=>by omega⟩⟩
 case round=>
  obtain⟨i,hi,rfl,M⟩:=hrel;obtain⟨wq,aq⟩:∃wq,wq=wr:=⟨_,rfl⟩
  subst aq;have g0:wq.cell? ⟨w.heap.size,0,none⟩=some (.slice A ns.length c):=by rw[M.out.1.gbox.cell];exact m.out.1
  by_cases hlt:i<ns.length
  .have Q:(i:Int)<(ns.length:Int):=by omega
   have C:ns[i]∈ns:=List.getElem_mem hlt;obtain⟨ae,N,ap⟩:=aj.out.lens _ C;have E:=hid (hks _ C);obtain⟨z,ks,ar,rfl,D⟩:=H.out.node hlt;obtain⟨ka,kn,kc⟩:=ks;obtain⟨ia,inn,ic⟩:=ar;have J:=hid (zmm (f:=F) hlt);have S:Hid (dupS (ns[i].keys.map (printF ns F))=false->∀j,j<i+1->∀(hj:j<ns.length),dupS (ns[j].keys.map (printF ns F))=false):=hid (fun h j hj ag=>by
    rcases Nat.lt_or_ge j i with h1|h1
    .exact M.out.2 j h1 ag
    .obtain rfl:j=i:=by omega
     exact h)
   obtain⟨n,hn⟩:=ex (ns[i])
   rw[hn]at D ae N E J S;obtain rfl:kn=n.keys.length:=D.kn;have U:Hid (∀W,Below w.heap.size w W->W.cell? {block:=(z.add (i*5)).block,off:=(z.add (i*5)).off+3}=some (.slice ka n.keys.length kc)):=hid (fun W hW=>(hW.cell (by exact D.lt)).trans D.c3);have af:Hid (∀W,Below w.heap.size w W->RowAt intL W w.heap.size ka n.keys):=hid (fun W hW=>D.keys.below hW);have hib:i<=1000:=by omega
   clear D hn C N ap;go_upto_region 6 with fail;go_loopw [4,5] (fun s4 s5 wr=>∃(k:Nat) (L:List Gr.Str) (AL:Option Addr) (cL:Nat),k<=n.keys.length/\s5=.int .i64 k/\s4=.slice AL L.length cL/\Hid (TM w wr gc (.slice AL L.length cL) L/\L=(n.keys.map (printF ns F)).take k/\((n.keys.map (printF ns F)).take k).Nodup)) (fun _ s5 _=>n.keys.length-(intOf s5).toNat)
   case atStart=>exact⟨0,[],none,0,by omega,rfl,rfl,hid ⟨M.out.1,by simp,by simp⟩⟩
   case round=>
    obtain⟨k,L,AL,cL,hk,rfl,rfl,d⟩:=hrel;obtain⟨a,ah⟩:∃a,a=wr:=⟨_,rfl⟩
    subst ah;have g0:a.cell? ⟨w.heap.size,0,none⟩=some (.slice (some z) ns.length c):=by rw[d.out.1.gbox.cell];exact m.out.1
    have c3:=U.out a d.out.1.below;have hkb:k<=1000:=by omega
    by_cases hlk:k<n.keys.length
    .have Y:(k:Int)<(n.keys.length:Int):=by omega
     obtain⟨y,hy⟩:=ex (n.keys[k])
     obtain⟨ab,rfl,_,y0⟩:=zae (af.out a d.out.1.below) hlk;rw[hy]at y0;obtain⟨G,T,ac⟩:=E.out y (by rw[<-hy];exact List.getElem_mem hlk);obtain⟨t,ht⟩:=ex (printF ns F y)
     have r:Hid (k<(n.keys.map (printF ns F)).length):=hid (by simpa using hlk);have q:Hid (∀h:k<(n.keys.map (printF ns F)).length,(n.keys.map (printF ns F))[k]=t):=hid (fun h=>by rw[List.getElem_map,hy,ht]);have K:Hid (∀x:WB a.heap.size a,Calls prog 48 #[.agg #[.slice (some z) ns.length c,.int .i64 root],.int .i64 y] x.w fun e w'=>e=.returned (.string ⟨t.toArray⟩)/\Below a.heap.size a w'):=hid (fun x=>by
      have hb:=(d.out.1.later x.h).below;rw[<-ht];exact(al.out F y x.w (Nat.le_refl _) G T ac ((H.out.below hb).more hb.size)).mono (fun _ _ ⟨e1,e2⟩=>⟨e1,x.h.trans (e2.mono x.h.size)⟩))
     have q0:∀x:WB a.heap.size a,x.w.cell? ⟨w.heap.size,0,none⟩=some (.slice (some z) ns.length c):=fun x=>by rw[(d.out.1.later x.h).gbox.cell];exact m.out.1
     have q1:∀x:WB a.heap.size a,x.w.cell? ⟨w.heap.size,1,none⟩=some (.int .i64 root):=fun x=>by rw[(d.out.1.later x.h).gbox.cell];exact m.out.2
     have q3:∀x:WB a.heap.size a,x.w.cell? {block:=(z.add (i*5)).block,off:=(z.add (i*5)).off+3}=some (.slice (some ab) n.keys.length kc):=fun x=>U.out x.w (d.out.1.later x.h).below
     have qy:∀x:WB a.heap.size a,x.w.cell? (ab.add k)=some (.int .i64 (y:Int)):=fun x=>(x.h.cell (World.block_lt_of_cell? a _ y0)).trans y0
     clear hy G T ac y0 ht;go_upto_region 8 with fail;refine zaa a.heap.size a (by kernel_rfl) (by kernel_rfl) (Below.refl _ _) ?_
     repeat (go_big_quiet_step (((first| (with_reducible refine Calls.grow (K.out _))))))
     refine wpQuiet_nil ?_;rintro _ ⟨V,rfl⟩;obtain⟨w8,o⟩:=ex V.w
     have g:Hid (TM w w8 gc (.slice AL L.length cL) L):=hid (by rw[<-o];exact d.out.1.later V.h);(try rw[o]);clear o q0 q1 q3 qy g0 c3 K;have hLb:L.length<=1000:=by rw[d.out.2.1,List.length_take];omega
     go_upto_region 10 with fail;go_loop [7] (fun s7=>∃j:Nat,j<=L.length/\s7=.int .i64 j/\Hid (t∉L.take j)) (fun s7=>L.length-(intOf s7).toNat)
     case atStart=>exact⟨0,by omega,rfl,hid (by simp)⟩
     case round=>
      obtain⟨j,hj,rfl,HJ⟩:=hrel;by_cases hlj:j<L.length
      .have X:(j:Int)<(L.length:Int):=by omega
       obtain⟨u,O⟩:=ex (L[j])
       obtain⟨adl,rfl,_,l0⟩:=zu5 (zls g.out.own) hlj;rw[O]at l0;have hjb:j<=1000:=by omega
       by_cases hut:u=t
       .have ai:((⟨u.toArray⟩:ByteArray)==⟨t.toArray⟩)=true:=by rw[zp2];exact decide_eq_true hut
        have ao:(@BEq.beq (List UInt8) _ u t)=true:=by rw[hut];exact beq_self_eq_true _
        have HF:Hid (rtwice ns F=true):=hid (J.out (zvs r.out (by
         rw[q.out,<-hut,<-O,<-d.out.2.1];exact List.getElem_mem hlj)))
        clear O hut;go_wp2;go_ret;exact⟨by rw[HF.out]<;>rfl,g.out.below⟩
       .have ai:((⟨u.toArray⟩:ByteArray)==⟨t.toArray⟩)=false:=by rw[zp2];exact decide_eq_false hut
        have ao:(@BEq.beq (List UInt8) _ u t)=false:=by rw[beq_eq_false_iff_ne];exact hut
        have HN:Hid (t∉L.take (j+1)):=hid (by
         rw[List.take_succ_eq_append_getElem hlj,O];intro hm;rcases List.mem_append.1 hm with h1|h1
         .exact HJ.out h1
         .exact hut (List.mem_singleton.1 h1).symm)
        clear O hut;go_wp2;go_round
        case rel=>exact⟨j+1,by omega,by go_num,HN⟩
        case measure=>simp[intOf];omega
      .have X:¬(j:Int)<(L.length:Int):=by omega
       have am:Hid (t∉L):=hid (by have:=HJ.out;rwa[List.take_of_length_le (by omega)]at this);have B:Hid (w.heap.size+1<=w8.heap.size):=hid g.out.hd;have aa:Hid (L++[t]=(n.keys.map (printF ns F)).take (k+1)/\((n.keys.map (printF ns F)).take (k+1)).Nodup):=hid ⟨by rw[List.take_succ_eq_append_getElem r.out,q.out,<-d.out.2.1],zjr r.out d.out.2.2 (by rw[q.out,<-d.out.2.1];exact am.out)⟩;go_wp2_with (at_builtin;go_must (refine zab _ rfl (.tmp 49) (.tmp 51) 74 9 16 rfl strT (w.heap.size+1) (.slice AL L.length cL) L rfl (g.out.own.alloc _) _ _ 1 [t] rfl (RowAt.lit1 _ _ rfl _ ?_) ?_ ?_ ?_))
       any_goals (first|rfl| (have:=B.out;omega)| (have:=B.out;simp;omega)| (rw[World.size_alloc];have:=B.out;omega))
       intro v' w5 l hg ak;have R:Hid (TM w w5 gc v' (L++[t])):=hid ((g.out.alloc _).grown l hg);obtain⟨A5,c5,I,_⟩:=l.form;obtain⟨L5,Z⟩:=ex (L++[t])
       rw[Z]at R aa I;subst I;clear l hg ak Z;go_wp2;go_roundw
       case rel=>exact⟨k+1,L5,A5,c5,by omega,by go_num,rfl,hid ⟨R.out,aa.out⟩⟩
       case measure=>simp[intOf];omega
    .have Y:¬(k:Int)<(n.keys.length:Int):=by omega
     have HE:Hid (TM w a gc (.slice none 0 0) []/\∀j,j<i+1->∀(hj:j<ns.length),dupS (ns[j].keys.map (printF ns F))=false):=hid ⟨d.out.1.none,S.out (zx0 (k:=k) (by simp;omega) d.out.2.2)⟩;go_wp2;go_roundw
     case rel=>exact⟨i+1,by omega,by go_num,HE⟩
     case measure=>simp[intOf];omega
  .have Q:¬(i:Int)<(ns.length:Int):=by omega
   have HF:Hid (rtwice ns F=false):=hid (zpi (i:=i) (by omega) M.out.2);have HB:=hid M.out.1.below;go_wp2;go_ret;exact⟨by rw[HF.out]<;>rfl,HB.out⟩
theorem zgl (A:Option Addr) (c:Nat) (root:Int) (vs:List NV) (is:List Gr.Ni) (hl:is.length<=1000) (hks:∀n∈is,n.keys.length<=1000/\n.items.length<=1000/\n.text.length<=1000) (w:World) (h:IAt w w.heap.size A vs is):
 Calls prog 18 #[.agg #[.slice A is.length c,.int .i64 root]] w fun e w'=>e=.returned (.int .i64 (rcheck sclX is root:Nat))/\Below w.heap.size w w':=by
 have H:=hid h;obtain⟨Y,j⟩:=ex (w.alloc (.cells #[.slice A is.length c,.int .i64 root] 24))
 have b1:Blk Y w.heap.size 24 #[.slice A is.length c,.int .i64 root]:=by rw[<-j];exact Blk.new _ _ _
 have X:Hid (Below w.heap.size w Y):=hid (by rw[<-j];exact(Below.refl _ _).alloc (Nat.le_refl _) _);obtain⟨g0,g1⟩:=cells2 b1;have T:=hid b1;have F:¬(4096:Int)<(is.length:Int):=by omega
 have HW:=hid (zrp A c root vs is (by omega) (fun n l=>by have:=hks n l;omega) Y ((h.below X.out).more X.out.size));have s:Hid (rcheck sclX is root=if rwell sclX is root=false then 3 else if rtwice (is.map Gr.Ni.nd) is.length=true then 8 else if(depth (is.map Gr.Ni.nd) root.toNat).1>32 then 5 else 0):=hid (by unfold rcheck;rw[if_neg (by omega)]);have v:=hid (fun hs:rwell sclX is root=true=>zgc za5 hs);obtain⟨wl,U⟩:=ex (rwell sclX is root)
 rw[U]at HW s v;clear h b1 U;go_enter func18,ntmps18;go_upto_region 1 with fail;(try rw[j]);clear j;go_wp2_with fail;refine HW.out.mono ?_;rintro e w2 ⟨rfl,C⟩;have p:Hid (Below w.heap.size w w2):=hid (X.out.trans (C.mono X.out.size));have D:=T.out.below C T.out.lt;obtain⟨g0,g1⟩:=cells2 D;have z:=hid D;clear C D;cases wl with
 |false=>
  have I:Hid (rcheck sclX is root=3):=hid (by rw[s.out,if_pos rfl]);go_wp2;go_ret;exact⟨by rw[I.out]<;>rfl,p.out⟩
 |true=>
  obtain⟨r,rfl,P,t⟩:=v.out rfl;have a:=hid P;have y:Hid (∀W,Below w.heap.size w W->GAt W W.heap.size A vs (is.map Gr.Ni.nd)):=hid (fun W J=>((H.out.below J).more J.size).toG (za8 t).1);have o:Hid (∀n∈is.map Gr.Ni.nd,n.keys.length<=1000/\n.items.length<=1000/\n.text.length<=1000):=hid (fun n l=>by
   obtain⟨x,hx,rfl⟩:=List.mem_map.1 l;have:=hks x hx;simp only[Gr.Ni.nd,List.length_map];omega)
  have b:Hid (rcheck sclX is (r:Int)=if rtwice (is.map Gr.Ni.nd) is.length=true then 8 else if(depth (is.map Gr.Ni.nd) r).1>32 then 5 else 0):=hid (by rw[s.out,if_neg (by decide),Int.toNat_natCast]);clear HW s v hks P t;obtain⟨g,B⟩:=ex (is.map Gr.Ni.nd)
  have E:is.length=g.length:=by rw[<-B];simp
  rw[B]at a y o b;obtain⟨m,L⟩:=ex is.length
  have K:Hid (∀W,Below w.heap.size w W->Calls prog 32 #[.agg #[.slice A m c,.int .i64 r]] W fun e w'=>e=.returned (.bool (rtwice g m))/\Below W.heap.size W w'):=hid (fun W J=>by
   rw[<-L,E];refine znr A c (r:Int) vs g (fun u=>mkd (inKeys g) u=true) g.length 2000000000 ⟨a.out.refs,a.out.keep,a.out.ok,fun n l=>by have:=o.out n l;omega,fun f i hf Z hi=>a.out.plen (by omega) (fun x hx=>by have:=o.out x hx;omega) f i hf hi Z,by omega⟩ (by omega) ?_ W (y.out W J);intro n l k Z;have Q:k∈allKeys g:=List.mem_flatMap.2 ⟨n,l,Z⟩;obtain⟨h1,h2⟩:=a.out.tall k Q;exact⟨h1,a.out.key k Q,h2⟩)
  have N:Hid (∀W,Below w.heap.size w W->Calls prog 33 #[.agg #[.slice A m c,.int .i64 r]] W fun e w'=>e=.returned (.tuple #[.int .i64 (depth g r).1,.bool (depth g r).2])/\Below W.heap.size W w'):=hid (fun W J=>by
   rw[<-L,E];exact znw A c r vs g a.out (by omega) (fun n l=>by have:=o.out n l;omega) W (y.out W J))
  rw[L]at g0 b z;(try rw[L]);obtain⟨d,hd⟩:=ex ((depth g r).1)
  obtain⟨dt,O⟩:=ex ((depth g r).2)
  rw[hd]at b;rw[hd,O]at N;obtain⟨tb,M⟩:=ex (rtwice g m)
  rw[M]at b K;clear B E L hd O M hl F;go_wp2_with fail;refine(K.out w2 p.out).mono ?_;rintro e w3 ⟨rfl,G⟩;have q:Hid (Below w.heap.size w w3):=hid (p.out.trans (G.mono p.out.size));have R:=z.out.below G z.out.lt;obtain⟨k0,k1⟩:=cells2 R;clear G R g0 g1;cases tb with
  |true=>
   have I:Hid (rcheck sclX is (r:Int)=8):=hid (by rw[b.out,if_pos rfl]);go_wp2;go_ret;exact⟨by rw[I.out]<;>rfl,q.out⟩
  |false=>
   go_wp2_with fail;refine(N.out w3 q.out).mono ?_;rintro e w4 ⟨rfl,V⟩;have S:Hid (Below w.heap.size w w4):=hid (q.out.trans (V.mono q.out.size));clear V k0 k1;by_cases hd32:32<d
   .have I:Hid (rcheck sclX is (r:Int)=5):=hid (by rw[b.out,if_neg (by decide),if_pos hd32]);go_wp2;go_ret;exact⟨by rw[I.out]<;>rfl,S.out⟩
   .have I:Hid (rcheck sclX is (r:Int)=0):=hid (by rw[b.out,if_neg (by decide),if_neg hd32]);go_wp2;go_ret;exact⟨by rw[I.out]<;>rfl,S.out⟩
namespace Gr
theorem zcc {sclr:Int->Str->Bool} (hs:∀k t,sclr k t=true->0<=k/\k<=8) {is:List Ni} {root:Int} (h:checkI sclr is root=0):
 ∃r:Nat,root=(r:Int)/\WellF (is.map Ni.nd) r/\is.all (rng is.length)=true/\(∀x∈is.map Ni.nd,formB sclr x=true)/\twice (is.map Ni.nd) (is.map Ni.nd).length=false/\(depth (is.map Ni.nd) r).1<=32:=by
 have b:=zfe sclr hs is root;rw[h]at b;unfold rcheck at b;split at b
 .omega
 .split at b
  .omega
  .rename_i hw;rw[Bool.not_eq_false]at hw;obtain⟨r,rfl,a,g⟩:=zgc hs hw;split at b
   .omega
   .split at b
    .omega
    .rename_i ht hd;rw[Int.toNat_natCast]at hd;refine⟨r,rfl,a,g,?_,?_,by omega⟩
     .unfold checkI at h;split at h
      .omega
      .split at h
       .omega
       .unfold checkN at h;split at h
        .omega
        .rename_i hall;rw[Classical.not_not,List.all_eq_true]at hall;intro x f;obtain⟨i,e,rfl⟩:=List.mem_iff_getElem.1 f;have:=hall i (List.mem_range.2 e);rw[Bool.and_eq_true]at this;have c:=this.2;rw[List.getD_eq_getElem?_getD,List.getElem?_eq_getElem e]at c;exact c
     .rw[zem a.ok a.refs _ (fun k d=>⟨(a.tall k d).1,(a.tall k d).2⟩)];rw[Bool.not_eq_true]at ht;rw[List.length_map];exact ht
end Gr
theorem zkj (kind:Int) (text:Gr.Str) (is:List Gr.Ni) (r:Nat) (ht:text.length<=1000) (hks:∀x∈is,x.text.length<=1000/\x.keys.length<=1000/\x.items.length<=1000):∀x∈Gr.over kind text (is.map Gr.Ni.nd) r,x.keys.length<=1000/\x.items.length<=1000/\x.text.length<=1000:=by
 intro x hx;rcases List.mem_cons.1 hx with rfl|hx
 .simpa using ht
 .obtain⟨y,a,rfl⟩:=List.mem_map.1 hx;obtain⟨z,b,rfl⟩:=List.mem_map.1 a;have:=hks z b;simp only[shN,Gr.Ni.nd,List.length_map];omega
section
variable {kind:Int} {text:Gr.Str} {is:List Gr.Ni} {r:Nat} {dp:Int}
theorem zkk (h0:0<=kind/\kind<=11/\kind≠10) (ht:text.length<=1000) (hz:formB sclX ⟨kind,text,false,[],[r+1]⟩=true) (hl:is.length<=100) (hks:∀x∈is,x.text.length<=1000/\x.keys.length<=1000/\x.items.length<=1000) (hc:checkI sclX is (r:Int)=0) (hd:(depth (is.map Gr.Ni.nd) r).1=dp):
 checkG sclX (Gr.over kind text (is.map Gr.Ni.nd) r) 0=(if dp=32 then 5 else 0)/\(∀(A2:Option Addr) (c2:Nat) (vs2:List NV) (W:World),UT W->GAt W W.heap.size A2 vs2 (Gr.over kind text (is.map Gr.Ni.nd) r)->ChkOk W (.agg #[.slice A2 (is.length+1) c2,.int .i64 0]) (if dp=32 then 5 else 0))/\
 ∀(A2:Option Addr) (c2:Nat) (vs2:List NV) (W:World),GAt W W.heap.size A2 vs2 (Gr.over kind text (is.map Gr.Ni.nd) r)->DepOk W (.agg #[.slice A2 (is.length+1) c2,.int .i64 0]) (dp+1,(depth (is.map Gr.Ni.nd) r).2):=by
 obtain⟨o,hr',c,hrng,i,f,h⟩:=Gr.zcc za5 hc;obtain rfl:r=o:=by omega
 have k:=Gr.zmt (kind:=kind) (text:=text) c h0 i hz f;have b:(Gr.over kind text (is.map Gr.Ni.nd) r).length=is.length+1:=by rw[Gr.zau,List.length_map]
 have d:checkG sclX (Gr.over kind text (is.map Gr.Ni.nd) r) 0=if dp=32 then 5 else 0:=by
  unfold checkG;rw[if_neg (by omega),k,hd];rw[hd]at h;by_cases h32:dp=32
  .rw[if_pos h32,if_pos (by omega)]
  .rw[if_neg h32,if_neg (by omega)]
 have a:=WellF.over (kind:=kind) (text:=text) c h0;have j:=zkj kind text is r ht hks;refine⟨d,fun A2 c2 vs2 W l g=>?_,fun A2 c2 vs2 W g m e=>?_⟩
 .have:=ck_g a.refs a.root (by omega) j A2 c2 vs2 W l g;rw[d,b]at this;exact this
 .have:=ze6 A2 c2 0 vs2 _ a.refs (by omega) (fun x n=>by have:=j x n;omega) a.root a.all m ((g.below e).more e.size);rw[b,Gr.zgd c h0,hd]at this;exact this
end
end Go.Proofs.YtpjmhafmeieloaaGreatDoor
