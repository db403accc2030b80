import Derived.Test.YtoigpackhninoaaGreatDoorZ03
namespace Go.Proofs.YtoigpackhninoaaGreatDoor
open Gr
open _root_.Go.Proofs.Tryz
open _root_.Go.Lib (hid)
set_option maxRecDepth 100000
set_option maxHeartbeats 16000000
open Go.RowKit
def nameC (c:UInt8):Bool:=(97<=c && c<=122) || (65<=c && c<=90) || (48<=c && c<=57) || c==95 || c==45 || c==46 || c==58
theorem zhg (c:UInt8):nameC c=true↔(97<=c.toNat/\c.toNat<=122)\/(65<=c.toNat/\c.toNat<=90)\/(48<=c.toNat/\c.toNat<=57)\/c.toNat=95\/c.toNat=45\/c.toNat=46\/c.toNat=58:=by
 have e:∀n:Nat,n<256->(c=UInt8.ofNat n↔c.toNat=n):=fun n hn=>⟨fun h=>by rw[h];simp;omega,fun h=>by rw[<-h];simp⟩
 unfold nameC;simp only[Bool.or_eq_true,Bool.and_eq_true,decide_eq_true_eq,beq_iff_eq,UInt8.le_iff_toNat_le];rw[show(c=95)=(c=UInt8.ofNat 95)from rfl,show(c=45)=(c=UInt8.ofNat 45)from rfl,show(c=46)=(c=UInt8.ofNat 46)from rfl,show(c=58)=(c=UInt8.ofNat 58)from rfl,e 95 (by omega),e 45 (by omega),e 46 (by omega),e 58 (by omega)];simp[or_assoc]
theorem byte_at (s:Gr.Str) (k:Nat) (hk:k<s.length) (c:UInt8) (h:s[k]=c):(((⟨s.toArray⟩:ByteArray)[k]'(by simpa[ByteArray.size]using hk)).toNat:Int)=(c.toNat:Int):=by
 have:(⟨s.toArray⟩:ByteArray)[k]'(by simpa[ByteArray.size]using hk)=s[k]:=rfl;rw[this,h]
theorem zdc (s:Gr.Str) (hs:s.length<=1073741823) (w:World):Calls prog 55 #[.string ⟨s.toArray⟩] w fun e w'=>e=.returned (.bool (nameB s))/\w'=w:=by
 have f:Hid (∀r:Bool,r=nameB s↔r=(s.all nameC && decide (1<=s.length) && decide (s.length<=64))):=hid (fun r=>by
  have:nameB s=(s.all nameC && decide (1<=s.length) && decide (s.length<=64)):=rfl;rw[this])
 go_enter func55,ntmps55;go_upto_region 2 with fail;go_loop [7] (fun x=>∃i:Nat,i<=s.length/\x=.int .i64 i/\Hid ((s.take i).all nameC=true)) (fun i=>s.length-(intOf i).toNat)
 case atStart=>exact⟨0,by omega,rfl,hid (by simp)⟩
 case round=>
  obtain⟨i,hi,rfl,q⟩:=hrel;by_cases hil:i<s.length
  ·have d:(i:Int)<(s.length:Int):=by omega
   obtain⟨c,k⟩:=ex (s[i])
   have q0:=byte_at s i hil c k;have hbd:c.toNat<256:=c.toNat_lt;have hn:=zhg c;have j:Hid ((s.take (i+1)).all nameC=nameC c):=hid (by rw[List.take_succ_eq_append_getElem hil,List.all_append,q.out,k];simp);by_cases hy:nameC c=true
   ·have l:Hid ((s.take (i+1)).all nameC=true):=hid (by rw[j.out,hy]);have hn:=hn.1 hy;clear hy j k;rcases hn with hn|hn|hn|hn|hn|hn|hn
    all_goals
     go_wp2;go_round
     case rel=>exact⟨i+1,by omega,by go_num,l⟩
     case measure=>simp[intOf];omega
   ·have a:Hid (nameB s=false):=hid (by
     have b:(s.take (i+1)).all nameC=false:=by rw[j.out];simpa using hy
     have g:s.all nameC=false:=by
      cases e:s.all nameC with
      |false=>rfl
      |true=>
       rw[List.all_eq_true]at e;rw[List.all_eq_false]at b;obtain⟨x,u,o⟩:=b;exact absurd (e x (List.mem_of_mem_take u)) o
     exact((f.out false).2 (by rw[g];rfl)).symm)
    have hn:=fun h=>hy (hn.2 h)
    have v:¬(97<=c.toNat/\c.toNat<=122):=fun h=>hn (.inl h)
    have A:¬(65<=c.toNat/\c.toNat<=90):=fun h=>hn (.inr (.inl h))
    have C:¬(48<=c.toNat/\c.toNat<=57):=fun h=>hn (.inr (.inr (.inl h)))
    have y:¬(c.toNat=95):=fun h=>hn (.inr (.inr (.inr (.inl h))))
    have t:¬(c.toNat=45):=fun h=>hn (.inr (.inr (.inr (.inr (.inl h)))))
    have B:¬(c.toNat=46):=fun h=>hn (.inr (.inr (.inr (.inr (.inr (.inl h))))))
    have D:¬(c.toNat=58):=fun h=>hn (.inr (.inr (.inr (.inr (.inr (.inr h))))))
    clear hn hy k j;have m:c.toNat<45\/c.toNat=47\/(59<=c.toNat/\c.toNat<=64)\/(91<=c.toNat/\c.toNat<=94)\/c.toNat=96\/122<c.toNat:=by omega
    have e4:((c.toNat:Int)==95)=false:=by simp;omega
    have e5:((c.toNat:Int)==45)=false:=by simp;omega
    have e6:((c.toNat:Int)==46)=false:=by simp;omega
    have e7:((c.toNat:Int)==58)=false:=by simp;omega
    clear v A C y t B D;rcases m with hn|hn|hn|hn|hn|hn
    all_goals
     go_wp2_with fail
     all_goals first
      | (go_ret;exact⟨by rw[a.out]<;>rfl,rfl⟩)
      | (exfalso;rename_i h;simp only[Bool.not_eq_false',decide_eq_true_eq]at h;omega)
  ·have d:¬((i:Int)<(s.length:Int)):=by omega
   have z:Hid (s.all nameC=true):=hid (by have:=q.out;rwa[List.take_of_length_le (by omega)]at this);by_cases b:1<=s.length
   ·have n:(1:Int)<=(s.length:Int):=by omega
    by_cases g:s.length<=64
    ·have p:(s.length:Int)<=64:=by omega
     have a:Hid (nameB s=true):=hid ((f.out true).2 (by rw[z.out];simp[b,g])).symm;go_wp2;go_ret;exact⟨by rw[a.out]<;>rfl,rfl⟩
    ·have p:¬((s.length:Int)<=64):=by omega
     have a:Hid (nameB s=false):=hid ((f.out false).2 (by simp[g])).symm;go_wp2;go_ret;exact⟨by rw[a.out]<;>rfl,rfl⟩
   ·have n:¬((1:Int)<=(s.length:Int)):=by omega
    have a:Hid (nameB s=false):=hid ((f.out false).2 (by simp[b])).symm;go_wp2;go_ret;exact⟨by rw[a.out]<;>rfl,rfl⟩
end Go.Proofs.YtoigpackhninoaaGreatDoor
