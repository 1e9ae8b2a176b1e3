/-
  A part of the proof.
-/
import Derived.Test.YtpgmddjgcgpoeaaGreatD08
import Derived.Deep.RegionWith
import Derived.Deep.DeepCutAuto
set_option linter.unusedVariables false
set_option linter.unusedSimpArgs false
set_option maxRecDepth 100000
set_option maxHeartbeats 8000000
namespace Go.Proofs.YtpgmddjgcgpoeaaGreat
open Go.RowKit
def WR (D:Doc) (A:Option Addr) (C bp:Nat) (w:World) (P:Nat->Nat->Prop) (e:Ending) (w':World):Prop :=
 ∃ (s:ByteArray) (at':Nat),e=.returned (.string s)/\P s.size at'/\ST D A C bp w' at'/\Kp (Only bp) w w'
theorem lt5 {r:Nat} (h:r<5):r=0\/r=1\/r=2\/r=3\/r=4:=by omega
theorem wblanks_c (D:Doc) (A:Option Addr) (C bp:Nat) (w:World) (at_:Nat) (hp:ST D A C bp w at_) (hat:at_<=100000000) :
  Calls Tryz.prog 14 #[.pointer (some ⟨bp,0,none⟩)] w (WR D A C bp w (fun l a => l<=2/\a=at_+1)):=by
 have HP:=qqh hp;have hlt:=hp.blk.lt;clear hp;go_enter Tryz.func14,Tryz.ntmps14;go_wp2_with fail
 refine (wpick_c D A C bp _ at_ 5 (HP.out.nil ((Kp.refl _ _).alloc _)) hat (by omega) (by omega)).mono ?_;rintro e w1 ⟨rfl,hp1,hk1⟩;have HP1:=qqh hp1;have HK1:=qqh hk1;have hr:=Nat.mod_lt (pickV D at_) (show 0<5 by omega);obtain ⟨r,hre⟩:∃ r,pickV D at_ % 5=r:=⟨_,rfl⟩;rw [hre] at hr ⊢;have hb:Blk w1 w.heap.size [.string ⟨#[]⟩,.string ⟨#[]⟩,.string ⟨#[32]⟩,.string ⟨#[9]⟩,.string ⟨#[32,32]⟩] 9:=(Blk.new w [.string ⟨#[]⟩,.string ⟨#[]⟩,.string ⟨#[32]⟩,.string ⟨#[9]⟩,.string ⟨#[32,32]⟩] 9).kpOnly hk1 (by omega);have hk:Kp (Only bp) w w1:=Kp.trans ((Kp.refl _ _).alloc _) hk1;have hkH:=qqh hk;have hB:=qqh hb;clear hp1 hk1 hk hre hb;rcases lt5 hr with rfl | rfl | rfl | rfl | rfl
 ·have c:=hB.out.cell 0 rfl;go_wp2_with fail
  go_ret;exact ⟨_,_,rfl,⟨by decide,rfl⟩,HP1.out,hkH.out⟩
 ·have c:=hB.out.cell 1 rfl;go_wp2_with fail
  go_ret;exact ⟨_,_,rfl,⟨by decide,rfl⟩,HP1.out,hkH.out⟩
 ·have c:=hB.out.cell 2 rfl;go_wp2_with fail
  go_ret;exact ⟨_,_,rfl,⟨by decide,rfl⟩,HP1.out,hkH.out⟩
 ·have c:=hB.out.cell 3 rfl;go_wp2_with fail
  go_ret;exact ⟨_,_,rfl,⟨by decide,rfl⟩,HP1.out,hkH.out⟩
 ·have c:=hB.out.cell 4 rfl;go_wp2_with fail
  go_ret;exact ⟨_,_,rfl,⟨by decide,rfl⟩,HP1.out,hkH.out⟩
theorem wpick2_c (D:Doc) (A:Option Addr) (C bp:Nat) (w:World) (at_:Nat) (hp:ST D A C bp w at_) (hat:at_<=100000000) :
  Calls Tryz.prog 12 #[.pointer (some ⟨bp,0,none⟩),.int .i64 2] w fun e w' => e=.returned (.int .i64 (pickV D at_ % 2:Nat))/\ST D A C bp w' (at_+1)/\Kp (Only bp) w w' :=
 wpick_c D A C bp w at_ 2 hp hat (by omega) (by omega)
theorem wpick3_c (D:Doc) (A:Option Addr) (C bp:Nat) (w:World) (at_:Nat) (hp:ST D A C bp w at_) (hat:at_<=100000000) :
  Calls Tryz.prog 12 #[.pointer (some ⟨bp,0,none⟩),.int .i64 3] w fun e w' => e=.returned (.int .i64 (pickV D at_ % 3:Nat))/\ST D A C bp w' (at_+1)/\Kp (Only bp) w w' :=
 wpick_c D A C bp w at_ 3 hp hat (by omega) (by omega)
theorem wpick4_c (D:Doc) (A:Option Addr) (C bp:Nat) (w:World) (at_:Nat) (hp:ST D A C bp w at_) (hat:at_<=100000000) :
  Calls Tryz.prog 12 #[.pointer (some ⟨bp,0,none⟩),.int .i64 4] w fun e w' => e=.returned (.int .i64 (pickV D at_ % 4:Nat))/\ST D A C bp w' (at_+1)/\Kp (Only bp) w w' :=
 wpick_c D A C bp w at_ 4 hp hat (by omega) (by omega)
theorem wpick5_c (D:Doc) (A:Option Addr) (C bp:Nat) (w:World) (at_:Nat) (hp:ST D A C bp w at_) (hat:at_<=100000000) :
  Calls Tryz.prog 12 #[.pointer (some ⟨bp,0,none⟩),.int .i64 5] w fun e w' => e=.returned (.int .i64 (pickV D at_ % 5:Nat))/\ST D A C bp w' (at_+1)/\Kp (Only bp) w w' :=
 wpick_c D A C bp w at_ 5 hp hat (by omega) (by omega)
theorem wpick6_c (D:Doc) (A:Option Addr) (C bp:Nat) (w:World) (at_:Nat) (hp:ST D A C bp w at_) (hat:at_<=100000000) :
  Calls Tryz.prog 12 #[.pointer (some ⟨bp,0,none⟩),.int .i64 6] w fun e w' => e=.returned (.int .i64 (pickV D at_ % 6:Nat))/\ST D A C bp w' (at_+1)/\Kp (Only bp) w w' :=
 wpick_c D A C bp w at_ 6 hp hat (by omega) (by omega)
theorem wpick7_c (D:Doc) (A:Option Addr) (C bp:Nat) (w:World) (at_:Nat) (hp:ST D A C bp w at_) (hat:at_<=100000000) :
  Calls Tryz.prog 12 #[.pointer (some ⟨bp,0,none⟩),.int .i64 7] w fun e w' => e=.returned (.int .i64 (pickV D at_ % 7:Nat))/\ST D A C bp w' (at_+1)/\Kp (Only bp) w w' :=
 wpick_c D A C bp w at_ 7 hp hat (by omega) (by omega)
theorem wpick9_c (D:Doc) (A:Option Addr) (C bp:Nat) (w:World) (at_:Nat) (hp:ST D A C bp w at_) (hat:at_<=100000000) :
  Calls Tryz.prog 12 #[.pointer (some ⟨bp,0,none⟩),.int .i64 9] w fun e w' => e=.returned (.int .i64 (pickV D at_ % 9:Nat))/\ST D A C bp w' (at_+1)/\Kp (Only bp) w w' :=
 wpick_c D A C bp w at_ 9 hp hat (by omega) (by omega)
end Go.Proofs.YtpgmddjgcgpoeaaGreat
