/- The components' walk: its memory at the start. A region that draws its order: by the sets of what has run. Walks: the reference's pad of moments. -/
import Derived.Test.YtoigpackhninoaaGreatDoorGrVisit
import Derived.Test.YtoigpackhninoaaGreatDoorZ07
import Derived.Test.YtoigpackhninoaaGreatDoorZ19
import Derived.Test.YtoigpackhninoaaGreatDoorZ18
import Derived.Test.YtoigpackhninoaaGreatDoorZ06
namespace Go.Proofs.YtoigpackhninoaaGreatDoor
open Go.RowKit
def compL (z gb b0 b1 b2 r0 r1 r2:Nat):TL:=⟨z+1+1+1+1,b0,b1,z+1,z+1+1+1,z+1+1+1+1+1,gb,z,b2,r0,r1,r2,z+1+1⟩
theorem comp_start (B z gb b0 b1 b2 r0 r1 r2:Nat) (A:Option Addr) (c:Nat) (root:Int) (vs:List NV) (ns:List Gr.Nd) (wr W:World) (hz:wr.heap.size=z)
 (hW:((((((wr.alloc (.cells #[.slice none 0 0] 33)).alloc (.cells #[.slice none 0 0] 33)).alloc (.cells (bcells (List.replicate ns.length false)) 4)).alloc (.cells #[.slice (some ⟨z+1+1,0,none⟩) ns.length ns.length] 62)).alloc (.cells #[.int .i64 0] 3)).alloc (.cells #[(compL z gb b0 b1 b2 r0 r1 r2).fn] 88))=W)
 (hI:Blk wr b0 33 #[.slice (some ⟨r0,0,none⟩) ns.length ns.length]) (hL:Blk wr b1 33 #[.slice (some ⟨r1,0,none⟩) ns.length ns.length]) (hC:Blk wr b2 33 #[.slice (some ⟨r2,0,none⟩) ns.length ns.length])
 (hrI:Blk wr r0 3 (icells (List.replicate ns.length 0))) (hrL:Blk wr r1 3 (icells (List.replicate ns.length 0))) (hrC:Blk wr r2 3 (jcells (List.replicate ns.length (-1))))
 (hG:Blk wr gb 24 #[.slice A ns.length c,.int .i64 root]) (h01:r0≠r1) (h02:r0≠r2) (h12:r1≠r2) (hB:B<=z) (hB0:B<=r0) (hB1:B<=r1) (hB2:B<=r2) (hat:GAt wr B A vs ns):
 TAt (compL z gb b0 b1 b2 r0 r1 r2) B (z+1+1+1+1+1+1) A c root vs ns W (Gr.tzero ns.length) (.slice none 0 0) (.slice none 0 0)/\Below wr.heap.size wr W/\W.heap.size=z+1+1+1+1+1+1:=by
 have l:Below wr.heap.size wr W:=by rw[<-hW];exact((((((Below.refl _ _).alloc (Nat.le_refl _) _).alloc (by simp) _).alloc (by simp;omega) _).alloc (by simp;omega) _).alloc (by simp;omega) _).alloc (by simp;omega) _
 have hs:W.heap.size=z+1+1+1+1+1+1:=by rw[<-hW];simp[hz]
 have k1:=hI.lt;have k2:=hL.lt;have k3:=hC.lt;have k4:=hrI.lt;have k5:=hrL.lt;have k6:=hrC.lt;have n0:Blk W z 33 #[.slice none 0 0]:=by rw[<-hW,<-hz];exact(((((Blk.new _ _ _).alloc _).alloc _).alloc _).alloc _).alloc _
 have n1:Blk W (z+1) 33 #[.slice none 0 0]:=by
  rw[<-hW];have:=Blk.new (wr.alloc (.cells #[.slice none 0 0] 33)) 33 #[.slice none 0 0];rw[World.size_alloc,hz]at this;exact(((this.alloc _).alloc _).alloc _).alloc _
 have n2:Blk W (z+1+1) 4 (bcells (List.replicate ns.length false)):=by
  rw[<-hW];have:=Blk.new ((wr.alloc (.cells #[.slice none 0 0] 33)).alloc (.cells #[.slice none 0 0] 33)) 4 (bcells (List.replicate ns.length false));simp only[World.size_alloc,hz]at this;exact(((this.alloc _).alloc _).alloc _)
 have n3:Blk W (z+1+1+1) 62 #[.slice (some ⟨z+1+1,0,none⟩) ns.length ns.length]:=by
  rw[<-hW];have:=Blk.new (((wr.alloc (.cells #[.slice none 0 0] 33)).alloc (.cells #[.slice none 0 0] 33)).alloc (.cells (bcells (List.replicate ns.length false)) 4)) 62 #[.slice (some ⟨z+1+1,0,none⟩) ns.length ns.length];simp only[World.size_alloc,hz]at this;exact((this.alloc _).alloc _)
 have n4:Blk W (z+1+1+1+1) 3 #[.int .i64 0]:=by
  rw[<-hW];have:=Blk.new ((((wr.alloc (.cells #[.slice none 0 0] 33)).alloc (.cells #[.slice none 0 0] 33)).alloc (.cells (bcells (List.replicate ns.length false)) 4)).alloc (.cells #[.slice (some ⟨z+1+1,0,none⟩) ns.length ns.length] 62)) 3 #[.int .i64 0];simp only[World.size_alloc,hz]at this;exact(this.alloc _)
 have n5:Blk W (z+1+1+1+1+1) 88 #[(compL z gb b0 b1 b2 r0 r1 r2).fn]:=by
  rw[<-hW];have:=Blk.new (((((wr.alloc (.cells #[.slice none 0 0] 33)).alloc (.cells #[.slice none 0 0] 33)).alloc (.cells (bcells (List.replicate ns.length false)) 4)).alloc (.cells #[.slice (some ⟨z+1+1,0,none⟩) ns.length ns.length] 62)).alloc (.cells #[.int .i64 0] 3)) 88 #[(compL z gb b0 b1 b2 r0 r1 r2).fn];simp only[World.size_alloc,hz]at this;exact this
 refine⟨⟨⟨?_,?_,?_,h01,h02,h12,?_,?_,?_,?_,?_,?_,?_,?_,?_,?_,?_,?_,?_,?_,?_⟩,by omega,hI.below l k1,hL.below l k2,hC.below l k3,n3,n5,hG.below l hG.lt,hat.below (l.mono (by omega)),n4,n1,n0,hrI.below l k4,hrL.below l k5,hrC.below l k6,n2,OwnRow.nil,OwnRow.nil,fun k e=>by cases e⟩,l,hs⟩
 all_goals (simp only[compL];omega)
end Go.Proofs.YtoigpackhninoaaGreatDoor
namespace Go.Proofs.YtoigpackhninoaaGreatDoor
open Go.RowKit
section
variable {P:Program} {md:Region.Mode} {ops:Array Oper} {Q:Exit->Act->World->Prop}
theorem wpAny_sets (Inv:Nat->Array Bool->Act->World->Prop)
 (hstep:∀m listed a w i,Inv m listed a w->i∈Region.ready md ops listed->∃m',m=m'+1/\wpOp P ops Q i (fun a' w'=>Inv m' (listed.setIfInBounds i true) a' w') a w)
 (hend:∀m listed a w,Inv m listed a w->Region.ready md ops listed=[]->Q .normal a w):
 ∀fuel listed a w,Inv fuel listed a w->wpAny P md ops Q fuel listed a w:=by
 intro fuel
 induction fuel with
 |zero=>
  intro listed a w h;have hr:Region.ready md ops listed=[]:=List.eq_nil_iff_forall_not_mem.2 (fun i hi=>by obtain⟨m',hm,_⟩:=hstep _ _ _ _ i h hi;omega);exact⟨hr,hend _ _ _ _ h hr⟩
 |succ fuel ih=>
  intro listed a w h;refine⟨fun hr=>hend _ _ _ _ h hr,fun i hi=>?_⟩;obtain⟨m',hm,hw⟩:=hstep _ _ _ _ i h hi;obtain rfl:m'=fuel:=by omega
  exact wpOp_mono (fun a w h=>ih _ _ _ h) hw
variable {i:Nat} {o:Oper} {K:Act->World->Prop} {a:Act} {w w':World}
theorem op_value (v:Value) (ho:ops[i]? =some o) (hg:o.guard=none) (hrun:(execOp a.eval o).run P w=.ok (.value v) w') (hK:K (a.put o.dst v) w'):wpOp P ops Q i K a w:=by
 unfold wpOp;rw[ho];simp only[Region.wanted,hg,if_true];left;unfold Oper.wp;rw[hrun];exact hK
theorem op_skip (ho:ops[i]? =some o) (hg:o.guard=none) (hrun:(execOp a.eval o).run P w=.ok .skip w') (hK:K (a.put o.dst undef) w'):wpOp P ops Q i K a w:=by
 unfold wpOp;rw[ho];simp only[Region.wanted,hg,if_true];left;unfold Oper.wp;rw[hrun];exact hK
end
end Go.Proofs.YtoigpackhninoaaGreatDoor
namespace Go.Proofs.YtoigpackhninoaaGreatDoor
set_option maxRecDepth 100000
set_option maxHeartbeats 16000000
open Go.RowKit
theorem rpad_any (x n:Nat) (i j:Int) (hi:i=(x:Int)) (hj:j=(n:Int)) (hx:x<=999999999) (hn:n<=9) (w:World):
 Calls Tryz.prog 139 #[.int .i64 i,.int .i64 j] w fun e w'=>e=.returned (.string ⟨(Gr.pd n x).toArray⟩)/\Below w.heap.size w w':=by
 subst hi;subst hj;go_enter Tryz.func139,Tryz.ntmps139;go_wp2_with fail;go_loopw [0,5,6] (fun s0 s5 s6 wr=>∃k y:Nat,k<=n/\y<=999999999/\s0=.int .i64 (y:Int)/\s5=.string ⟨(Gr.pd k x).toArray⟩/\s6=.int .i64 (k:Int)/\Hid (y=x /10 ^ k/\Below w.heap.size w wr)) (fun _ _ s6 _=>n-(intOf s6).toNat)
 case atStart=>exact⟨0,x,by omega,hx,rfl,rfl,rfl,Lib.hid ⟨by simp,Below.refl _ _⟩⟩
 case round=>
  obtain⟨k,y,hk,hy,rfl,rfl,rfl,HV⟩:=hrel;have hlen:=Gr.pd_len k x;by_cases hlt:k<n
  ·have hltI:(k:Int)<(n:Int):=by omega
   obtain⟨c,hc⟩:∃c:UInt8,c=Gr.ch (y%10):=⟨_,rfl⟩
   have hci:(48:Int)+(y:Int)%10=(c.toNat:Int):=by rw[hc];unfold Gr.ch;rw[UInt8.toNat_ofNat'];omega
   have HNX:Hid (Gr.pd (k+1) x=[c]++Gr.pd k x/\y /10=x /10 ^ (k+1)):=Lib.hid ⟨by rw[Gr.pd_front,<-HV.out.1,<-hc];rfl,by rw[HV.out.1,Nat.div_div_eq_div_mul,Nat.pow_succ]⟩;have hadd:=fun W=>add_run [c] (Gr.pd k x) (by rw[hlen];simp;omega) W
   have hcv2:(convert 119 9 (.slice (some ⟨wr.heap.size,0,none⟩) 1 1)).run Tryz.prog (wr.alloc (.cells #[.int .u8 (c.toNat:Int)] 5))=.ok (.string ⟨[c].toArray⟩) (wr.alloc (.cells #[.int .u8 (c.toNat:Int)] 5)):=conv_bytes (B:=wr.heap.size+1) (wr.alloc (.cells #[.int .u8 (c.toNat:Int)] 5)) [c] (some ⟨wr.heap.size,0,none⟩) 1 (RowAt.lit1 c _ rfl _ rfl);rw[<-hci]at hcv2;obtain⟨p,hp⟩:∃p,Gr.pd k x=p:=⟨_,rfl⟩
   rw[hp]at hadd HNX ⊢;have hy10:(0:Int)<=(y:Int)%10:=by omega
   have hy11:(y:Int)%10<=9:=by omega
   clear hci hlen hp hc;go_wp2_with fail;go_roundw
   case rel=>exact⟨k+1,y /10,by omega,by omega,by exact congrArg (Value.int .i64) (by omega),by rw[HNX.out.1];rfl,by go_num,Lib.hid ⟨HNX.out.2,HV.out.2.alloc HV.out.2.size _⟩⟩
   case measure=>simp[intOf];omega
  ·obtain rfl:k=n:=by omega
   have hltI:¬(k:Int)<(k:Int):=by omega
   clear hlen;go_wp2_with fail;go_ret;exact⟨rfl,HV.out.2⟩
end Go.Proofs.YtoigpackhninoaaGreatDoor
