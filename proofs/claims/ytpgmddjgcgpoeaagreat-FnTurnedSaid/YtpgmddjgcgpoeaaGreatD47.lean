/-
  A part of the proof.
-/
import Derived.Test.YtpgmddjgcgpoeaaGreatD45
import Derived.Test.YtpgmddjgcgpoeaaGreatD42
import Derived.Test.YtpgmddjgcgpoeaaGreatD43
import Derived.Deep.RegionLaw
set_option linter.unusedVariables false
set_option linter.unusedSimpArgs false
set_option maxRecDepth 100000
set_option maxHeartbeats 8000000
namespace Go.Proofs.YtpgmddjgcgpoeaaGreat
open Go.RowKit
theorem same_br {w:World} {base:Nat} {v:Value} {l:List UInt8} (h:BR w base v l) (hl:l.length<=1000000):Calls Tryz.prog 6 #[v] w fun e w' => e=.returned (.bool true)/\Kp Nil w w':=by
 obtain ⟨D,A,C,rfl,hn,hd,hA⟩:=h.doc hl;exact same_c D A C w hd hA (by omega)
theorem same_own {w:World} {base:Nat} {v:Value} {l:List UInt8} (h:OwnB w base v l) (hl:l.length<=1000000):Calls Tryz.prog 6 #[v] w fun e w' => e=.returned (.bool true)/\Kp Nil w w':=by
 rcases Nat.eq_zero_or_pos l.length with h0 | h0
 ·have hlt:=h.lt;rcases h.2 with ⟨rfl,hn⟩ | ⟨g,cap,cur,rfl,hb,hg,h1,h2,h3,h4⟩
  ·exact same_c (docL [] (by simp)) none 0 w ⟨qqr _,by omega,.inl rfl⟩ (fun a ha => by cases ha) (by show 0<=_;omega)
  ·rw [h0];exact same_c (docL [] (by simp)) (some ⟨g,0,none⟩) cap w ⟨Nat.zero_le _,by unfold maxLen at h2;omega,.inl rfl⟩ (fun a ha => by cases ha;exact (hlt g rfl).2) (by show 0<=_;omega)
 ·exact same_br (h.br h0) hl
theorem bcells_drop (l:List UInt8) (n j:Nat):(bcells (l.drop n))[j]?=(bcells l)[n+j]?:=by simp [bcells]
theorem bcells1 {y j:Nat} {u:Value} (hy:y<256) (hu:(bcells [UInt8.ofNat y])[j]?=some u):j=0/\u=.int .u8 (y:Nat):=by
 have hy2:(UInt8.ofNat y).toNat=y:=by rw [UInt8.toNat_ofNat'];omega
 cases j with
 | zero =>
  simp only [bcells,List.map_cons,List.map_nil,List.getElem?_cons_zero,Option.some.injEq] at hu;rw [hy2] at hu;exact ⟨rfl,hu.symm⟩
 | succ j => simp [bcells] at hu
theorem BR.take {w:World} {base g n cap:Nat} {l:List UInt8} (h:BR w base (.slice (some ⟨g,0,none⟩) n cap) l) (k:Nat) (hk:k<=n):BR w base (.slice (some ⟨g,0,none⟩) k cap) (l.take k):=by
 obtain ⟨g',cap',e,hb,h1,h2,hlt,hc,hf⟩:=h;injection e with e1 e2 e3;injection e1 with e1;injection e1 with e1 _ _;subst e1 e2 e3;have hl:(l.take k).length=k:=by rw [List.length_take];omega
 refine ⟨g,cap,by rw [hl],hb,by rw [hl];omega,h2,hlt,fun j u hu => hc j u ?_,hf⟩;have hj:j<(bcells (l.take k)).length:=(List.getElem?_eq_some_iff.1 hu).1;rw [bcells_length,hl] at hj;rw [<- hu];simp [bcells,hj]
theorem BR.free {w:World} {base g n cap:Nat} {l:List UInt8} (h:BR w base (.slice (some ⟨g,0,none⟩) n cap) l) (j:Nat) (hj:j<n):(∃ u,w.cell? ⟨g,j,none⟩=some u)/\w.frozen? ⟨g,j,none⟩=false:=by
 obtain ⟨g',cap',e,hb,h1,h2,hlt,hc,hf⟩:=h;injection e with e1 e2 e3;injection e1 with e1;injection e1 with e1 _ _;subst e1 e2 e3;exact ⟨Option.isSome_iff_exists.1 (hf j (by omega)).1,(hf j (by omega)).2⟩
theorem BR.put {w:World} {base g n cap:Nat} {l:List UInt8} (h:BR w base (.slice (some ⟨g,0,none⟩) n cap) l) (k y:Nat) (hk:k<n) (hy:y<256):BR (w.setCell ⟨g,k,none⟩ (.int .u8 y)) base (.slice (some ⟨g,0,none⟩) n cap) (l.set k (UInt8.ofNat y)):=by
 obtain ⟨g',cap',e,hb,h1,h2,hlt,hc,hf⟩:=h;injection e with e1 e2 e3;injection e1 with e1;injection e1 with e1 _ _;subst e1 e2 e3;have kp:=Kp.putOnly (b:=g) (i:=k) (Kp.refl _ w) (.int .u8 y);refine ⟨g,cap,by rw [List.length_set],hb,by rw [List.length_set];exact h1,h2,Nat.lt_of_lt_of_le hlt kp.size,fun j u hu => ?_,fun j hj => ⟨?_,by rw [World.frozen?_setCell];exact (hf j hj).2⟩⟩
 ·by_cases hjk:j=k
  ·subst hjk;have hu2:u=.int .u8 y:=by
    simp only [bcells,List.getElem?_map,List.getElem?_set_self hk,Option.map_some,Option.some.injEq] at hu;rw [<- hu,UInt8.toNat_ofNat']
    congr 1
    omega
   have:=World.cell?_setCells_in g [.int .u8 y] j w (fun i hi => by simp at hi;subst hi;exact (hf j (by omega)).1) 0 (by simp);rw [hu2];simpa [World.setCells] using this
  ·have:=World.cell?_setCells_out g [.int .u8 y] k w ⟨g,j,none⟩ (fun _ _ => by show j<k\/k+1<=j;omega);simp only [World.setCells] at this;rw [this];refine hc j u ?_;rw [<- hu];simp [bcells,List.getElem?_set_ne (Ne.symm hjk)]
 ·by_cases hjk:j=k
  ·subst hjk;have:=World.cell?_setCells_in g [.int .u8 y] j w (fun i hi => by simp at hi;subst hi;exact (hf j (by omega)).1) 0 (by simp);simp only [World.setCells,Nat.add_zero] at this;rw [this];rfl
  ·have:=World.cell?_setCells_out g [.int .u8 y] k w ⟨g,j,none⟩ (fun _ _ => by show j<k\/k+1<=j;omega);simp only [World.setCells] at this;rw [this];exact (hf j hj).1
theorem step_appM {w:World} {ops:Array Oper} {o:Oper} {a:Act} {K:Act->World->Prop} {Q:Exit->Act->World->Prop} {E:Prop} (hgd:o.guard=none) (sl x:Operand)
  (ho:o.op=.call { callee:=.builtin .append,args:=#[sl,x],argTypes:=#[22,22] })
  (base:Nat) (v:Value) (l s:List UInt8) (hs:a.eval sl=v) (hown:OwnB w base v l) (b off m c:Nat) (hx:a.eval x=.slice (some ⟨b,off,none⟩) m c) (hm:m=s.length)
  (hc:∀ j u,(bcells s)[j]?=some u->w.cell? ⟨b,off+j,none⟩=some u) (hle:l.length+s.length<=4294967296) (hbase:base<=w.heap.size)
  (h:∀ v' w',OwnB w' base v' (l++s)->w.grownBy w' v.ownBlock->K (a.put o.dst v') w') :
  if Region.wanted o (yielded ops a.tmps)=true then Oper.wp Tryz.prog o a w K Q else E:=by
 subst hm;rw [if_pos (by simp [Region.wanted,hgd])];obtain ⟨i,hi,hz0,hz1,hz2⟩:=info_parts info5a;obtain ⟨v',w',hr,h1,h2,_⟩:=run_append_own (P:=Tryz.prog) w base 22 o.type 5 i (.int .u8 0) 1 1 Tryz.underlying22 hi hz0 hz1 hz2 rfl (by decide) v l.length (bcells l) hown ⟨b,off,none⟩ s.length c (bcells s) (by rw [bcells_length];omega) (fun j u hu => by rw [Addr.add_lit];exact hc j u hu) (bcells_one s) (by unfold maxLen;omega) (by omega) hbase;unfold Oper.wp;simp [execOp,ho,resolve,invoke,builtin,hs,hx,hr,Result.andThen];refine h v' w' ?_ h2;unfold OwnB;rw [qqa,bcells_append];exact h1
theorem fturn_big (NA A:Option Addr) (nn NC cn C:Nat) (x:Int) (y z:Int) (w:World) (h:100<nn\/1000<cn) :
  Calls Tryz.prog 5 #[.slice NA nn NC,.slice A cn C,.int .u32 x,.int .u8 y,.int .u8 z] w fun e w' => e=.returned (.bool true)/\Kp Nil w w':=by
 go_enter Tryz.func5,Tryz.ntmps5;go_upto_region 5 with fail
 all_goals first
  | (exfalso;omega)
  | (go_ret;exact ⟨rfl,Kp.refl _ _⟩)
theorem fturn_c (D:Doc) (NA A:Option Addr) (nn NC C a y z:Nat) (w:World) (hN:NumIn w NA nn) (hn:nn<=100) (hd:DocAt D A C w) (hA:∀ a,A=some a->a.block<w.heap.size) (hD:D.n<=1000) (ha:a<4294967296) (hy:y<256) (hz:z<256) :
  Calls Tryz.prog 5 #[.slice NA nn NC,.slice A D.n C,.int .u32 a,.int .u8 y,.int .u8 z] w fun e w' => e=.returned (.bool true)/\Kp Nil w w':=by
 have h1:(nn:Int)<=100:=by omega
 have h2:(D.n:Int)<=1000:=by omega
 have HD:=qqh hd;have HN:=qqh hN;clear hd hN;go_enter Tryz.func5,Tryz.ntmps5;go_upto_region 6 with (first
  | (go_at_call 8;refine (document_c NA nn NC w HN.out).mono ?_;rintro e1 wA ⟨dv,rfl,hdv,hkA⟩;obtain ⟨da,dn,dc,rfl,_⟩:=id hdv;have HDV:=qqh hdv;have HKA:Hid (Kp Nil w wA):=hkA;clear hdv hkA)
  | (go_at_call 7;refine (write_c D A C _ _ _ (HD.out.kp HKA.out (fun _ _ h => h)) (fun a ha => Nat.lt_of_lt_of_le (hA a ha) HKA.out.size) hD HDV.out (fun b hb => hb.2)).mono ?_;rintro e2 wB ⟨bv,lb,rfl,hlb,hB,hkB⟩;obtain ⟨g,cap,rfl,hg0,hcap⟩:=id hB.br;have HB:=qqh (hB.br.mono HKA.out.size);have HKB:=qqh (Kp.trans HKA.out hkB);have hgB:g<wB.heap.size:=hcap.2.2.1;have hc1:lb.length<=cap:=hcap.1;have hc2:cap<=9223372036854775807:=hcap.2.1;clear hB hkB hcap))
 obtain ⟨nb,hnb⟩:∃ nb,lb.length=nb:=⟨_,rfl⟩;rw [hnb] at HB hlb hc1 ⊢;have HNB:=qqh hnb;have hwg:w.heap.size<=g:=Nat.le_trans HKA.out.size hg0;clear hnb;have e1:IntKind.u32.wrap ((nb:Int)+1)=(nb:Int)+1:=by show ((nb:Int)+1) % 4294967296=_;omega
 have e2:((nb:Int)+1 == 0)=false:=qqn (by omega);go_upto_region 7 with fail;clear e1 e2;obtain ⟨k,hkn,e3⟩:∃ k:Nat,k<=nb/\wrap64 ((a:Int) % ((nb:Int)+1))=(k:Int):=by
  have p1:=Int.emod_nonneg (a:Int) (show ((nb:Int)+1) ≠ 0 by omega);have p2:=Int.emod_lt_of_pos (a:Int) (show (0:Int)<(nb:Int)+1 by omega);obtain ⟨k,hk⟩:=Int.eq_ofNat_of_zero_le p1;rw [hk] at p2 ⊢;exact ⟨k,by omega,by unfold wrap64;omega⟩
 rw [e3];clear e3;rcases (show (z:Int) % 4=0\/(z:Int) % 4=1\/(z:Int) % 4=2\/(z:Int) % 4=3 by omega) with h | h | h | h
 ·by_cases hkl:k<nb
  ·have i1:(k:Int)<nb:=(by omega);obtain ⟨⟨u,hu⟩,hfr⟩:=HB.out.free k hkl;have HBt:=qqh (HB.out.put k y hkl hy);have hl1:(lb.set k (UInt8.ofNat y)).length<=1000000:=(by rw [List.length_set];have:=HNB.out;omega);have HKt:Hid (Kp Nil w (wB.setCell ⟨g,k,none⟩ (.int .u8 y))):=Kp.setCell HKB.out (.inr hwg) _;go_wp2_with (go_at_call 6;(with_reducible refine (same_br HBt.out hl1).mono ?_);rintro e7 w7 ⟨rfl,hk7⟩;have HK7:=qqh (Kp.trans HKt.out hk7);clear hk7)
   go_ret;exact ⟨rfl,HK7.out⟩
  ·have i1:¬ ((k:Int)<nb):=(by omega);have HBt:=HB;have HKt:=HKB;have hl1:lb.length<=1000000:=(by have:=HNB.out;omega);go_wp2_with (go_at_call 6;(with_reducible refine (same_br HBt.out hl1).mono ?_);rintro e7 w7 ⟨rfl,hk7⟩;have HK7:=qqh (Kp.trans HKt.out hk7);clear hk7)
   go_ret;exact ⟨rfl,HK7.out⟩
 ·have i1:(k:Int)<=nb:=by omega
  have i2:(nb:Int)<=cap:=by omega
  have i3:k<=cap:=by omega
  have i6:(0:Int)<=(k:Int)/\(k:Int)<=nb:=by omega
  have htk:(lb.take k).length=k:=by rw [List.length_take,HNB.out];omega
  have htd:(lb.drop k).length=nb - k:=by rw [List.length_drop,HNB.out]
  have HTK:=qqh htk;have HTD:=qqh htd;have hy2:(UInt8.ofNat y).toNat=y:=by rw [UInt8.toNat_ofNat'];omega
  have HY:=qqh hy2;have HBk:=qqh (HB.out.take k hkn);have hl5:(lb.take k++[UInt8.ofNat y]++lb.drop k).length<=1000000:=by rw [qqa,qqa,htk,htd];simp;omega
  clear htk htd hy2;by_cases hck:cap=k
  ·have hck:=hck.symm;subst hck;have hnb:k=nb:=(by omega);subst hnb;go_upto_region 13 with fail
   go_region_law (first
    | (refine step_appM rfl _ _ rfl wB.heap.size (.slice (some ⟨wB.heap.size,0,none⟩) 0 0) [] (lb.take k) rfl (by first | exact own_made rfl (qqr _) | exact own_drew (own_made rfl (qqr _))) g 0 k k rfl HTK.out.symm (fun j u hu => by rw [Nat.zero_add];exact Lib.cell?_alloc_some _ (HBk.out.at j u hu)) (by rw [HTK.out];simp;omega) (by first | (simp;done) | (simp;omega)) ?_;intro v4 w4 hown4 hg4;have HO4:Hid (OwnB w4 wB.heap.size v4 (lb.take k)):=hown4;have HK4:Hid (Kp Nil wB w4):=Kp.grown (by first | exact (Kp.refl _ _).alloc _ | exact ((Kp.refl _ _).alloc _).drew) hg4 (fun k e => .inr (by simp [Value.ownBlock] at e;omega)); clear hown4 hg4)
    | (refine step_appM rfl _ _ rfl wB.heap.size (.slice (some ⟨wB.heap.size,0,none⟩) 0 0) [] (lb.take k) rfl (by first | exact own_alloc (own_made rfl (qqr _)) _ | exact own_drew (own_alloc (own_made rfl (qqr _)) _)) g 0 k k rfl HTK.out.symm (fun j u hu => by rw [Nat.zero_add];exact Lib.cell?_alloc_some _ (Lib.cell?_alloc_some _ (HBk.out.at j u hu))) (by rw [HTK.out];simp;omega) (by first | (simp;done) | (simp;omega)) ?_;intro v4 w4 hown4 hg4;have HO4:Hid (OwnB w4 wB.heap.size v4 (lb.take k)):=hown4;have HK4:Hid (Kp Nil wB w4):=Kp.grown (by first | exact ((Kp.refl _ _).alloc _).alloc _ | exact (((Kp.refl _ _).alloc _).alloc _).drew) hg4 (fun k e => .inr (by simp [Value.ownBlock] at e;omega));have hcy:((wB.alloc (.cells #[] 5)).alloc (.cells #[.int .u8 y] 5)).cell? ⟨wB.heap.size+1,0,none⟩=some (.int .u8 y):=(by rw [wcellN (by simp)];rfl);have hby:w4.cell? ⟨wB.heap.size+1,0,none⟩=some (.int .u8 y):=(by first | exact cell_kp (w:=(wB.alloc (.cells #[] 5)).alloc (.cells #[.int .u8 y] 5)) hcy (Kp.ofGrown hg4) (fun e => by simp [Value.ownBlock] at e) | exact cell_kp (w:=((wB.alloc (.cells #[] 5)).alloc (.cells #[.int .u8 y] 5)).drew) hcy (Kp.ofGrown hg4) (fun e => by simp [Value.ownBlock] at e));clear hcy;clear hown4 hg4)
    | (refine step_appM rfl _ _ rfl wB.heap.size (.slice (some ⟨wB.heap.size+1,0,none⟩) 0 0) [] (lb.take k) rfl (by first | exact own_made (by simp) (by simp) | exact own_drew (own_made (by simp) (by simp))) g 0 k k rfl HTK.out.symm (fun j u hu => by rw [Nat.zero_add];exact Lib.cell?_alloc_some _ (Lib.cell?_alloc_some _ (HBk.out.at j u hu))) (by rw [HTK.out];simp;omega) (by first | (simp;done) | (simp;omega)) ?_;intro v4 w4 hown4 hg4;have HO4:Hid (OwnB w4 wB.heap.size v4 (lb.take k)):=hown4;have HK4:Hid (Kp Nil wB w4):=Kp.grown (by first | exact ((Kp.refl _ _).alloc _).alloc _ | exact (((Kp.refl _ _).alloc _).alloc _).drew) hg4 (fun k e => .inr (by simp [Value.ownBlock] at e;omega));have hcy:((wB.alloc (.cells #[.int .u8 y] 5)).alloc (.cells #[] 5)).cell? ⟨wB.heap.size,0,none⟩=some (.int .u8 y):=(Lib.cell?_alloc_some _ (by rw [wcellN rfl];rfl));have hby:w4.cell? ⟨wB.heap.size,0,none⟩=some (.int .u8 y):=(by first | exact cell_kp (w:=(wB.alloc (.cells #[.int .u8 y] 5)).alloc (.cells #[] 5)) hcy (Kp.ofGrown hg4) (fun e => by simp [Value.ownBlock] at e) | exact cell_kp (w:=((wB.alloc (.cells #[.int .u8 y] 5)).alloc (.cells #[] 5)).drew) hcy (Kp.ofGrown hg4) (fun e => by simp [Value.ownBlock] at e));clear hcy;clear hown4 hg4)
    | (refine step_appM rfl _ _ rfl wB.heap.size v4 (lb.take k) [UInt8.ofNat y] rfl (by first | exact own_alloc HO4.out _ | exact own_drew (own_alloc HO4.out _)) (w4.heap.size) 0 1 1 rfl rfl (fun j u hu => by obtain ⟨rfl,rfl⟩:=bcells1 hy hu;rw [Nat.add_zero,wcellN (by simp)];rfl) (by rw [HTK.out];simp;omega) (by have:=HK4.out.size;simp;omega) ?_;intro v5 w5 hown5 hg5;have HO5:=qqh hown5;have HK5:Hid (Kp Nil wB w5):=Kp.grown (by first | exact HK4.out.alloc _ | exact (HK4.out.alloc _).drew) hg5 (fun q e => .inr (World.ownsRow.lt HO4.out q e).1);clear hown5 hg5)
    | (refine step_appM rfl _ _ rfl wB.heap.size v4 (lb.take k) [UInt8.ofNat y] rfl (by exact HO4.out) (wB.heap.size+1) 0 1 1 rfl rfl (fun j u hu => by obtain ⟨rfl,rfl⟩:=bcells1 hy hu;rw [Nat.add_zero];exact hby) (by rw [HTK.out];simp;omega) (by exact HK4.out.size) ?_;intro v5 w5 hown5 hg5;have HO5:=qqh hown5;have HK5:Hid (Kp Nil wB w5):=Kp.grown (by exact HK4.out) hg5 (fun q e => .inr (World.ownsRow.lt HO4.out q e).1);clear hown5 hg5)
    | (refine step_appM rfl _ _ rfl wB.heap.size v4 (lb.take k) [UInt8.ofNat y] rfl (by exact HO4.out) (wB.heap.size) 0 1 1 rfl rfl (fun j u hu => by obtain ⟨rfl,rfl⟩:=bcells1 hy hu;rw [Nat.add_zero];exact hby) (by rw [HTK.out];simp;omega) (by exact HK4.out.size) ?_;intro v5 w5 hown5 hg5;have HO5:=qqh hown5;have HK5:Hid (Kp Nil wB w5):=Kp.grown (by exact HK4.out) hg5 (fun q e => .inr (World.ownsRow.lt HO4.out q e).1);clear hown5 hg5)
    | (refine step_appM rfl _ _ rfl wB.heap.size v5 (lb.take k++[UInt8.ofNat y]) (lb.drop k) rfl (by exact HO5.out) g 0 0 _ rfl (by first | exact HTD.out.symm | (rw [HTD.out];omega)) (fun j u hu => by have hj:=(List.getElem?_eq_some_iff.1 hu).1;rw [bcells_length,HTD.out] at hj;omega) (by rw [qqa,HTK.out,HTD.out];simp;omega) (by exact HK5.out.size) ?_;intro v6 w6 hown6 hg6;have HO6:=qqh hown6;have HK6:Hid (Kp Nil w w6):=Kp.trans HKB.out (Kp.grown HK5.out hg6 (fun q e => .inr (World.ownsRow.lt HO5.out q e).1));clear hown6 hg6))
   all_goals
    go_wp2_with (go_at_call 6;(with_reducible refine (same_own HO6.out hl5).mono ?_);rintro e7 w7 ⟨rfl,hk7⟩;have HK7:=qqh (Kp.trans HK6.out hk7);clear hk7)
    go_ret;exact ⟨rfl,HK7.out⟩
  ·have hck2:¬ cap=k:=hck;go_upto_region 13 with fail
   go_region_law (first
    | (refine step_appM rfl _ _ rfl wB.heap.size (.slice (some ⟨wB.heap.size,0,none⟩) 0 0) [] (lb.take k) rfl (by first | exact own_made rfl (qqr _) | exact own_drew (own_made rfl (qqr _))) g 0 k cap rfl HTK.out.symm (fun j u hu => by rw [Nat.zero_add];exact Lib.cell?_alloc_some _ (HBk.out.at j u hu)) (by rw [HTK.out];simp;omega) (by first | (simp;done) | (simp;omega)) ?_;intro v4 w4 hown4 hg4;have HO4:Hid (OwnB w4 wB.heap.size v4 (lb.take k)):=hown4;have HK4:Hid (Kp Nil wB w4):=Kp.grown (by first | exact (Kp.refl _ _).alloc _ | exact ((Kp.refl _ _).alloc _).drew) hg4 (fun k e => .inr (by simp [Value.ownBlock] at e;omega)); clear hown4 hg4)
    | (refine step_appM rfl _ _ rfl wB.heap.size (.slice (some ⟨wB.heap.size,0,none⟩) 0 0) [] (lb.take k) rfl (by first | exact own_alloc (own_made rfl (qqr _)) _ | exact own_drew (own_alloc (own_made rfl (qqr _)) _)) g 0 k cap rfl HTK.out.symm (fun j u hu => by rw [Nat.zero_add];exact Lib.cell?_alloc_some _ (Lib.cell?_alloc_some _ (HBk.out.at j u hu))) (by rw [HTK.out];simp;omega) (by first | (simp;done) | (simp;omega)) ?_;intro v4 w4 hown4 hg4;have HO4:Hid (OwnB w4 wB.heap.size v4 (lb.take k)):=hown4;have HK4:Hid (Kp Nil wB w4):=Kp.grown (by first | exact ((Kp.refl _ _).alloc _).alloc _ | exact (((Kp.refl _ _).alloc _).alloc _).drew) hg4 (fun k e => .inr (by simp [Value.ownBlock] at e;omega));have hcy:((wB.alloc (.cells #[] 5)).alloc (.cells #[.int .u8 y] 5)).cell? ⟨wB.heap.size+1,0,none⟩=some (.int .u8 y):=(by rw [wcellN (by simp)];rfl);have hby:w4.cell? ⟨wB.heap.size+1,0,none⟩=some (.int .u8 y):=(by first | exact cell_kp (w:=(wB.alloc (.cells #[] 5)).alloc (.cells #[.int .u8 y] 5)) hcy (Kp.ofGrown hg4) (fun e => by simp [Value.ownBlock] at e) | exact cell_kp (w:=((wB.alloc (.cells #[] 5)).alloc (.cells #[.int .u8 y] 5)).drew) hcy (Kp.ofGrown hg4) (fun e => by simp [Value.ownBlock] at e));clear hcy;clear hown4 hg4)
    | (refine step_appM rfl _ _ rfl wB.heap.size (.slice (some ⟨wB.heap.size+1,0,none⟩) 0 0) [] (lb.take k) rfl (by first | exact own_made (by simp) (by simp) | exact own_drew (own_made (by simp) (by simp))) g 0 k cap rfl HTK.out.symm (fun j u hu => by rw [Nat.zero_add];exact Lib.cell?_alloc_some _ (Lib.cell?_alloc_some _ (HBk.out.at j u hu))) (by rw [HTK.out];simp;omega) (by first | (simp;done) | (simp;omega)) ?_;intro v4 w4 hown4 hg4;have HO4:Hid (OwnB w4 wB.heap.size v4 (lb.take k)):=hown4;have HK4:Hid (Kp Nil wB w4):=Kp.grown (by first | exact ((Kp.refl _ _).alloc _).alloc _ | exact (((Kp.refl _ _).alloc _).alloc _).drew) hg4 (fun k e => .inr (by simp [Value.ownBlock] at e;omega));have hcy:((wB.alloc (.cells #[.int .u8 y] 5)).alloc (.cells #[] 5)).cell? ⟨wB.heap.size,0,none⟩=some (.int .u8 y):=(Lib.cell?_alloc_some _ (by rw [wcellN rfl];rfl));have hby:w4.cell? ⟨wB.heap.size,0,none⟩=some (.int .u8 y):=(by first | exact cell_kp (w:=(wB.alloc (.cells #[.int .u8 y] 5)).alloc (.cells #[] 5)) hcy (Kp.ofGrown hg4) (fun e => by simp [Value.ownBlock] at e) | exact cell_kp (w:=((wB.alloc (.cells #[.int .u8 y] 5)).alloc (.cells #[] 5)).drew) hcy (Kp.ofGrown hg4) (fun e => by simp [Value.ownBlock] at e));clear hcy;clear hown4 hg4)
    | (refine step_appM rfl _ _ rfl wB.heap.size v4 (lb.take k) [UInt8.ofNat y] rfl (by first | exact own_alloc HO4.out _ | exact own_drew (own_alloc HO4.out _)) (w4.heap.size) 0 1 1 rfl rfl (fun j u hu => by obtain ⟨rfl,rfl⟩:=bcells1 hy hu;rw [Nat.add_zero,wcellN (by simp)];rfl) (by rw [HTK.out];simp;omega) (by have:=HK4.out.size;simp;omega) ?_;intro v5 w5 hown5 hg5;have HO5:=qqh hown5;have HK5:Hid (Kp Nil wB w5):=Kp.grown (by first | exact HK4.out.alloc _ | exact (HK4.out.alloc _).drew) hg5 (fun q e => .inr (World.ownsRow.lt HO4.out q e).1);clear hown5 hg5)
    | (refine step_appM rfl _ _ rfl wB.heap.size v4 (lb.take k) [UInt8.ofNat y] rfl (by exact HO4.out) (wB.heap.size+1) 0 1 1 rfl rfl (fun j u hu => by obtain ⟨rfl,rfl⟩:=bcells1 hy hu;rw [Nat.add_zero];exact hby) (by rw [HTK.out];simp;omega) (by exact HK4.out.size) ?_;intro v5 w5 hown5 hg5;have HO5:=qqh hown5;have HK5:Hid (Kp Nil wB w5):=Kp.grown (by exact HK4.out) hg5 (fun q e => .inr (World.ownsRow.lt HO4.out q e).1);clear hown5 hg5)
    | (refine step_appM rfl _ _ rfl wB.heap.size v4 (lb.take k) [UInt8.ofNat y] rfl (by exact HO4.out) (wB.heap.size) 0 1 1 rfl rfl (fun j u hu => by obtain ⟨rfl,rfl⟩:=bcells1 hy hu;rw [Nat.add_zero];exact hby) (by rw [HTK.out];simp;omega) (by exact HK4.out.size) ?_;intro v5 w5 hown5 hg5;have HO5:=qqh hown5;have HK5:Hid (Kp Nil wB w5):=Kp.grown (by exact HK4.out) hg5 (fun q e => .inr (World.ownsRow.lt HO4.out q e).1);clear hown5 hg5)
    | (refine step_appM rfl _ _ rfl wB.heap.size v5 (lb.take k++[UInt8.ofNat y]) (lb.drop k) rfl (by exact HO5.out) g k (nb - k) _ rfl (by first | exact HTD.out.symm | (rw [HTD.out];omega)) (fun j u hu => by rw [bcells_drop] at hu;exact cell_kp (HB.out.at _ u hu) HK5.out (fun h => h)) (by rw [qqa,HTK.out,HTD.out];simp;omega) (by exact HK5.out.size) ?_;intro v6 w6 hown6 hg6;have HO6:=qqh hown6;have HK6:Hid (Kp Nil w w6):=Kp.trans HKB.out (Kp.grown HK5.out hg6 (fun q e => .inr (World.ownsRow.lt HO5.out q e).1));clear hown6 hg6))
   all_goals
    go_wp2_with (go_at_call 6;(with_reducible refine (same_own HO6.out hl5).mono ?_);rintro e7 w7 ⟨rfl,hk7⟩;have HK7:=qqh (Kp.trans HK6.out hk7);clear hk7)
    go_ret;exact ⟨rfl,HK7.out⟩
 ·by_cases hkl:k<nb
  ·have i1:(k:Int)<nb:=(by omega);have i2:(nb:Int)<=cap:=(by omega);have i3:k<=cap:=(by omega);have i4:IntKind.i64.wrap ((k:Int)+1)=(k:Int)+1:=IntWalk.i64_in _ (by omega);have i5:k+1<=nb:=(by omega);have i6:(0:Int)<=(k:Int)+1/\(k:Int)+1<=nb:=(by omega);have htd:(lb.drop (k+1)).length=nb - (k+1):=(by rw [List.length_drop,HNB.out]);have HTD:=qqh htd;clear htd;have htk:(lb.take k).length=k:=(by rw [List.length_take,HNB.out];omega);have HTK:=qqh htk;clear htk;have HBk:=qqh (HB.out.take k (by omega));by_cases hck:cap=k+1
   ·subst hck;have i7:(k:Int)<=(k:Int)+1:=(by omega);have hl5:(lb.take k++lb.drop (k+1)).length<=1000000:=(by rw [qqa,HTK.out,HTD.out];omega);go_upto_region 16 with fail
    go_region_law (first
     | (refine step_appM rfl _ _ rfl wB.heap.size (.slice (some ⟨wB.heap.size,0,none⟩) 0 0) [] (lb.take k) rfl (by first | exact own_made rfl (qqr _) | exact own_drew (own_made rfl (qqr _))) g 0 k (k+1) rfl HTK.out.symm (fun j u hu => by rw [Nat.zero_add];exact Lib.cell?_alloc_some _ (HBk.out.at j u hu)) (by rw [HTK.out];simp;omega) (by first | (simp;done) | (simp;omega)) ?_;intro v4 w4 hown4 hg4;have HO4:Hid (OwnB w4 wB.heap.size v4 (lb.take k)):=hown4;have HK4:Hid (Kp Nil wB w4):=Kp.grown (by first | exact (Kp.refl _ _).alloc _ | exact ((Kp.refl _ _).alloc _).drew) hg4 (fun k e => .inr (by simp [Value.ownBlock] at e;omega));clear hown4 hg4)
     | (refine step_appM rfl _ _ rfl wB.heap.size v4 (lb.take k) (lb.drop (k+1)) rfl (by exact HO4.out) g 0 0 _ rfl (by first | exact HTD.out.symm | (rw [HTD.out];omega)) (fun j u hu => by have hj:=(List.getElem?_eq_some_iff.1 hu).1;rw [bcells_length,HTD.out] at hj;omega) (by rw [HTK.out,HTD.out];omega) (by exact HK4.out.size) ?_;intro v5 w5 hown5 hg5;have HO5:=qqh hown5;have HK5:Hid (Kp Nil w w5):=Kp.trans HKB.out (Kp.grown HK4.out hg5 (fun q e => .inr (World.ownsRow.lt HO4.out q e).1));clear hown5 hg5))
    all_goals
     go_wp2_with (go_at_call 6;(with_reducible refine (same_own HO5.out hl5).mono ?_);rintro e7 w7 ⟨rfl,hk7⟩;have HK7:=qqh (Kp.trans HK5.out hk7);clear hk7)
     go_ret;exact ⟨rfl,HK7.out⟩
   ·have hl5:(lb.take k++lb.drop (k+1)).length<=1000000:=(by rw [qqa,HTK.out,HTD.out];omega);go_upto_region 16 with fail
    go_region_law (first
     | (refine step_appM rfl _ _ rfl wB.heap.size (.slice (some ⟨wB.heap.size,0,none⟩) 0 0) [] (lb.take k) rfl (by first | exact own_made rfl (qqr _) | exact own_drew (own_made rfl (qqr _))) g 0 k cap rfl HTK.out.symm (fun j u hu => by rw [Nat.zero_add];exact Lib.cell?_alloc_some _ (HBk.out.at j u hu)) (by rw [HTK.out];simp;omega) (by first | (simp;done) | (simp;omega)) ?_;intro v4 w4 hown4 hg4;have HO4:Hid (OwnB w4 wB.heap.size v4 (lb.take k)):=hown4;have HK4:Hid (Kp Nil wB w4):=Kp.grown (by first | exact (Kp.refl _ _).alloc _ | exact ((Kp.refl _ _).alloc _).drew) hg4 (fun k e => .inr (by simp [Value.ownBlock] at e;omega));clear hown4 hg4)
     | (refine step_appM rfl _ _ rfl wB.heap.size v4 (lb.take k) (lb.drop (k+1)) rfl (by exact HO4.out) g (k+1) (nb - (k+1)) (cap - (k+1)) rfl HTD.out.symm (fun j u hu => by rw [bcells_drop] at hu;exact cell_kp (HB.out.at _ u hu) HK4.out (fun h => h)) (by rw [HTK.out,HTD.out];omega) (by exact HK4.out.size) ?_;intro v5 w5 hown5 hg5;have HO5:=qqh hown5;have HK5:Hid (Kp Nil w w5):=Kp.trans HKB.out (Kp.grown HK4.out hg5 (fun q e => .inr (World.ownsRow.lt HO4.out q e).1));clear hown5 hg5))
    all_goals
     go_wp2_with (go_at_call 6;(with_reducible refine (same_own HO5.out hl5).mono ?_);rintro e7 w7 ⟨rfl,hk7⟩;have HK7:=qqh (Kp.trans HK5.out hk7);clear hk7)
     go_ret;exact ⟨rfl,HK7.out⟩
  ·have i1:¬ ((k:Int)<nb):=(by omega);have HBt:=HB;have HKt:=HKB;have hl1:lb.length<=1000000:=(by have:=HNB.out;omega);go_wp2_with (go_at_call 6;(with_reducible refine (same_br HBt.out hl1).mono ?_);rintro e7 w7 ⟨rfl,hk7⟩;have HK7:=qqh (Kp.trans HKt.out hk7);clear hk7)
   go_ret;exact ⟨rfl,HK7.out⟩
 ·have i1:(k:Int)<=nb:=by omega
  have hl1:(lb.take k).length<=1000000:=by rw [List.length_take];omega
  have HBt:=qqh (HB.out.take k hkn);go_wp2_with (go_at_call 6;(with_reducible refine (same_br HBt.out hl1).mono ?_);rintro e7 w7 ⟨rfl,hk7⟩;have HK7:=qqh (Kp.trans HKB.out hk7);clear hk7)
  go_ret;exact ⟨rfl,HK7.out⟩
end Go.Proofs.YtpgmddjgcgpoeaaGreat
