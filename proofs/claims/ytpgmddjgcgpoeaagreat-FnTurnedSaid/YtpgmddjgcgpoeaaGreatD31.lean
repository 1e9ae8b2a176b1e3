/-
  A part of the proof.
-/
import Derived.Test.YtpgmddjgcgpoeaaGreatD06
import Derived.Test.YtpgmddjgcgpoeaaGreatD04
import Derived.Test.YtpgmddjgcgpoeaaGreatD18
import Derived.Test.YtpgmddjgcgpoeaaGreatD07
import Derived.Test.YtpgmddjgcgpoeaaGreatD29
set_option linter.unusedVariables false
set_option linter.unusedSimpArgs false
set_option maxRecDepth 100000
set_option maxHeartbeats 8000000
namespace Go.Proofs.YtpgmddjgcgpoeaaGreat
open Go.RowKit
def ScPost (D:Doc) (A:Option Addr) (C k:Nat) (a:Option Addr) (c:Nat) (w:World) (r:R Nat) (e:Ending) (w':World):Prop :=
 match r with | .good K p => Sc5 D A C k a c w K p e w' | _ => Err5 w e w'
theorem sd_cases (r:R Unit):(∃ p,r=.good () p)\/(r=.bad\/r=.opn):=by
 cases r with
 | good u p => exact .inl ⟨p,rfl⟩
 | bad => exact .inr (.inl rfl)
 | opn => exact .inr (.inr rfl)
theorem sd_in (D:Doc) (b:Nat) (hb:b<=16):∀ (m k p:Nat),D.n - k=m->sdRun D b k=.good () p->k<=p/\(k<=D.n->p<=D.n):=by
 intro m
 induction m using Nat.strongRecOn with
 | _ m ih =>
  intro k p hm h;rcases qqg k D.n with hn | hn
  ·by_cases h1:dval (D.c k)<b
   ·rw [sd_dig hn h1] at h;have:=ih (D.n - (k+1)) (by omega) (k+1) p rfl h;omega
   by_cases h2:D.c k=95
   ·by_cases h3:dval (D.c (k+1))<b
    ·rw [sd_und hn h1 h2 h3] at h;have h4:k+1<D.n:=Doc.in_of (fun e => by rw [e,dval_0] at h3;omega);have:=ih (D.n - (k+2)) (by omega) (k+2) p rfl h;omega
    ·rw [sd_bad hn h1 h2 h3] at h;cases h
   ·rw [sd_stop hn h1 h2] at h;injection h with _ h;omega
  ·rw [sd_end hn] at h;injection h with _ h;omega
theorem sdx10_c (D:Doc) (A a:Option Addr) (C k n c i:Nat) (x:Int) (hx:x=(i:Int)) (w:World) (hd:DocAt D A C w) (hv:VW D A C k a n c) (hi:i<=n) :
  Calls Tryz.prog 120 #[.slice a n c,.int .i64 x,.func (.func 111) #[] #[]] w (SdPost k w (sdRun D 10 (k+i))):=by subst hx;exact sd10_c D A a C k n c i w hd hv hi
theorem sdx16_c (D:Doc) (A a:Option Addr) (C k n c i:Nat) (x:Int) (hx:x=(i:Int)) (w:World) (hd:DocAt D A C w) (hv:VW D A C k a n c) (hi:i<=n) :
  Calls Tryz.prog 120 #[.slice a n c,.int .i64 x,.func (.func 117) #[] #[]] w (SdPost k w (sdRun D 16 (k+i))):=by subst hx;exact sd16_c D A a C k n c i w hd hv hi
theorem sdx8_c (D:Doc) (A a:Option Addr) (C k n c i:Nat) (x:Int) (hx:x=(i:Int)) (w:World) (hd:DocAt D A C w) (hv:VW D A C k a n c) (hi:i<=n) :
  Calls Tryz.prog 120 #[.slice a n c,.int .i64 x,.func (.func 118) #[] #[]] w (SdPost k w (sdRun D 8 (k+i))):=by subst hx;exact sd8_c D A a C k n c i w hd hv hi
theorem sdx2_c (D:Doc) (A a:Option Addr) (C k n c i:Nat) (x:Int) (hx:x=(i:Int)) (w:World) (hd:DocAt D A C w) (hv:VW D A C k a n c) (hi:i<=n) :
  Calls Tryz.prog 120 #[.slice a n c,.int .i64 x,.func (.func 119) #[] #[]] w (SdPost k w (sdRun D 2 (k+i))):=by subst hx;exact sd2_c D A a C k n c i w hd hv hi
def mk110 (s0 s7 s8 s11 s12 s14 s27 s132 s207 s224 s272 s292 s344:Value) (F:Nat->Value):Act:=⟨#[s0,F 1,F 2,F 3,F 4,F 5,F 6,s7,s8,F 9,F 10,s11,s12,F 13,s14,F 15,F 16,F 17,F 18,F 19,F 20,F 21,F 22,F 23,F 24,F 25,F 26,s27,F 28,F 29,F 30,F 31,F 32,F 33,F 34,F 35,F 36,F 37,F 38,F 39,F 40,F 41,F 42,F 43,F 44,F 45,F 46,F 47,F 48,F 49,F 50,F 51,F 52,F 53,F 54,F 55,F 56,F 57,F 58,F 59,F 60,F 61,F 62,F 63,F 64,F 65,F 66,F 67,F 68,F 69,F 70,F 71,F 72,F 73,F 74,F 75,F 76,F 77,F 78,F 79,F 80,F 81,F 82,F 83,F 84,F 85,F 86,F 87,F 88,F 89,F 90,F 91,F 92,F 93,F 94,F 95,F 96,F 97,F 98,F 99,F 100,F 101,F 102,F 103,F 104,F 105,F 106,F 107,F 108,F 109,F 110,F 111,F 112,F 113,F 114,F 115,F 116,F 117,F 118,F 119,F 120,F 121,F 122,F 123,F 124,F 125,F 126,F 127,F 128,F 129,F 130,F 131,s132,F 133,F 134,F 135,F 136,F 137,F 138,F 139,F 140,F 141,F 142,F 143,F 144,F 145,F 146,F 147,F 148,F 149,F 150,F 151,F 152,F 153,F 154,F 155,F 156,F 157,F 158,F 159,F 160,F 161,F 162,F 163,F 164,F 165,F 166,F 167,F 168,F 169,F 170,F 171,F 172,F 173,F 174,F 175,F 176,F 177,F 178,F 179,F 180,F 181,F 182,F 183,F 184,F 185,F 186,F 187,F 188,F 189,F 190,F 191,F 192,F 193,F 194,F 195,F 196,F 197,F 198,F 199,F 200,F 201,F 202,F 203,F 204,F 205,F 206,s207,F 208,F 209,F 210,F 211,F 212,F 213,F 214,F 215,F 216,F 217,F 218,F 219,F 220,F 221,F 222,F 223,s224,F 225,F 226,F 227,F 228,F 229,F 230,F 231,F 232,F 233,F 234,F 235,F 236,F 237,F 238,F 239,F 240,F 241,F 242,F 243,F 244,F 245,F 246,F 247,F 248,F 249,F 250,F 251,F 252,F 253,F 254,F 255,F 256,F 257,F 258,F 259,F 260,F 261,F 262,F 263,F 264,F 265,F 266,F 267,F 268,F 269,F 270,F 271,s272,F 273,F 274,F 275,F 276,F 277,F 278,F 279,F 280,F 281,F 282,F 283,F 284,F 285,F 286,F 287,F 288,F 289,F 290,F 291,s292,F 293,F 294,F 295,F 296,F 297,F 298,F 299,F 300,F 301,F 302,F 303,F 304,F 305,F 306,F 307,F 308,F 309,F 310,F 311,F 312,F 313,F 314,F 315,F 316,F 317,F 318,F 319,F 320,F 321,F 322,F 323,F 324,F 325,F 326,F 327,F 328,F 329,F 330,F 331,F 332,F 333,F 334,F 335,F 336,F 337,F 338,F 339,F 340,F 341,F 342,F 343,s344,F 345,F 346,F 347,F 348,F 349,F 350,F 351,F 352,F 353,F 354,F 355,F 356,F 357,F 358,F 359,F 360],[]⟩
theorem mk110_of (L:List Value) (h:L.length=361):(⟨L.toArray,[]⟩:Act)=mk110 (L.getD 0 undef) (L.getD 7 undef) (L.getD 8 undef) (L.getD 11 undef) (L.getD 12 undef) (L.getD 14 undef) (L.getD 27 undef) (L.getD 132 undef) (L.getD 207 undef) (L.getD 224 undef) (L.getD 272 undef) (L.getD 292 undef) (L.getD 344 undef) (fun i => L.getD i undef):=(frame_range L 361 h).trans (by rfl)
theorem scN_dec (D:Doc) (A a:Option Addr) (C k n c s:Nat) (w:World) (hd:DocAt D A C w) (hv:VW D A C k a n c) (hk:k<D.n) (hs:sgnN D k=s) (hin:k+s<D.n) (hdg:dval (D.c (k+s))<10) (hnr:¬ (D.c (k+s)=48/\radB (D.c (k+(s+1))) ≠ 0)) :
  Calls Tryz.prog 110 #[.slice a n c] w (ScPost D A C k a c w (scTen D (k+s))):=by
 have hsm:=D.small;have hC1:=hd.1;have hC2:=hd.2.1;have hln:=qql hv.len;have hln':=qql hv.len.symm;have hcp:=qql hv.cap;have hcp':=qql hv.cap.symm;have hs2:s<=1:=by rw [<- hs];unfold sgnN;split <;> omega
 obtain ⟨bd,q,rfl,hb⟩:=hv.bytes hd hk;obtain ⟨r,hr⟩:∃ r,scTen D (k+s)=r:=⟨_,rfl⟩;rw [hr];have HB:=qqh hb;have HD:=qqh hd;have HV:=qqh hv;have HR:=qqh hr;have HS:=qqh hs;have b0:=hb 0 (by omega);simp only [Nat.add_zero] at b0;clear hb hd hv hr hs;go_enter Tryz.func110,Tryz.ntmps110;have HDG:=qqh (qqt hdg);have HNR:=qqh hnr;have hne:D.c (k+s) ≠ 105/\D.c (k+s) ≠ 110:=by refine ⟨fun e => ?_,fun e => ?_⟩ <;> (rw [e] at hdg;revert hdg;decide)
 have e105:((D.c (k+s):Int) == 105)=false:=qqn (by omega);have e110:((D.c (k+s):Int) == 110)=false:=qqn (by omega);have hsn:s<n:=by omega
 have bs:=HB.out s (by omega);clear hdg hnr hne;go_upto_region 2 with fail;refine wp_cut (fun a' wx => ∃ (z8 z11 z12 z14 x27 z132 z207 z224 z272 z292 z344:Value) (F:Nat->Value),a'=mk110 (.slice (some ⟨bd,q,none⟩) n c) (.int .i64 0) z8 z11 z12 z14 x27 z132 z207 z224 z272 z292 z344 F/\x27=.bool (decide (s=1))/\w=wx) ?rest1 ?first1
 case first1 =>
  intro _ _ _ _;by_cases h43:D.c k=43
  ·have e43:((D.c (k):Int) == 43)=true:=(by rw [beq_iff_eq];omega);have h1:s=1:=(by rw [<- HS.out];unfold sgnN;rw [if_pos (.inl h43)]);go_wp2_with fail
   refine Met.intro ?_
   go_step
   exact ⟨_,_,_,_,_,_,_,_,_,_,_,_,mk110_of _ rfl,(congrArg Value.bool (by first | rfl | (symm;rw [decide_eq_true_iff];omega) | (symm;rw [decide_eq_false_iff_not];omega) | (rw [Bool.eq_iff_iff];simp;omega))),rfl⟩
  ·have e43:((D.c (k):Int) == 43)=false:=qqn (by omega);by_cases h45:D.c k=45
   ·have e45:((D.c (k):Int) == 45)=true:=(by rw [beq_iff_eq];omega);have h1:s=1:=(by rw [<- HS.out];unfold sgnN;rw [if_pos (.inr h45)]);go_wp2_with fail
    refine Met.intro ?_
    go_step
    exact ⟨_,_,_,_,_,_,_,_,_,_,_,_,mk110_of _ rfl,(congrArg Value.bool (by first | rfl | (symm;rw [decide_eq_true_iff];omega) | (symm;rw [decide_eq_false_iff_not];omega) | (rw [Bool.eq_iff_iff];simp;omega))),rfl⟩
   ·have e45:((D.c (k):Int) == 45)=false:=qqn (by omega);have h1:s=0:=(by rw [<- HS.out];unfold sgnN;rw [if_neg (by omega)]);go_wp2_with fail
    refine Met.intro ?_
    go_step
    exact ⟨_,_,_,_,_,_,_,_,_,_,_,_,mk110_of _ rfl,(congrArg Value.bool (by first | rfl | (symm;rw [decide_eq_true_iff];omega) | (symm;rw [decide_eq_false_iff_not];omega) | (rw [Bool.eq_iff_iff];simp;omega))),rfl⟩
 case rest1 =>
  rintro _ wc ⟨z8,z11,z12,z14,x27,z132,z207,z224,z272,z292,z344,F,rfl,h27,rfl⟩;dsimp only [mk110];go_upto_if 27 with fail;refine wp_cut (fun a' wx => ∃ (x7 z8 z11 z12 z14 z27 z132 z207 z224 z272 z292 z344:Value) (F:Nat->Value),a'=mk110 (.slice (some ⟨bd,q,none⟩) n c) x7 z8 z11 z12 z14 z27 z132 z207 z224 z272 z292 z344 F/\x7=.int .i64 (s:Nat)/\w=wx) ?rest2 ?first2
  case first2 =>
   intro _ _ _ _;by_cases hP:s=1
   ·rw [qqt hP] at h27;subst h27;go_wp2_with fail
    refine Met.intro ?_
    go_step
    exact ⟨_,_,_,_,_,_,_,_,_,_,_,_,_,mk110_of _ rfl,by subst hP;go_num,rfl⟩
   ·rw [qqf hP] at h27;subst h27;go_wp2_with fail
    refine Met.intro ?_
    go_step
    exact ⟨_,_,_,_,_,_,_,_,_,_,_,_,_,mk110_of _ rfl,by rw [show s=0 by omega];rfl,rfl⟩
  case rest2 =>
   rintro _ wc ⟨x7,z8,z11,z12,z14,z27,z132,z207,z224,z272,z292,z344,F,rfl,rfl,rfl⟩;dsimp only [mk110];go_wp2_with fail
   refine (dig111_c (D.c (k+s)) _).mono ?_;rintro e w1 ⟨rfl,hw⟩;obtain rfl:=hw.symm;rw [HDG.out];go_upto_region 16 with fail;refine wp_cut (fun a' wx => ∃ (z8 z11 z12 z14 z27 x132 z207 z224 z272 z292 z344:Value) (F:Nat->Value),a'=mk110 (.slice (some ⟨bd,q,none⟩) n c) (.int .i64 (s:Nat)) z8 z11 z12 z14 z27 x132 z207 z224 z272 z292 z344 F/\x132=.bool false/\w=wx) ?rest3 ?first3
   case first3 =>
    intro _ _ _ _;by_cases h48:D.c (k+s)=48
    ·have e48:((D.c (k+s):Int) == 48)=true:=(by rw [beq_iff_eq];omega);rcases qqg (s+1) n with hl | hl
     ·have b1:=HB.out (s+1) (by omega);have hrad:radB (D.c (k+(s+1)))=0:=Decidable.byContradiction (fun h => HNR.out ⟨h48,h⟩);have hx:D.c (k+(s+1)) ≠ 120/\D.c (k+(s+1)) ≠ 111/\D.c (k+(s+1)) ≠ 98:=(by refine ⟨fun e => ?_,fun e => ?_,fun e => ?_⟩ <;> (rw [e] at hrad;cases hrad));have e120:((D.c (k+(s+1)):Int) == 120)=false:=qqn (by omega);have e111:((D.c (k+(s+1)):Int) == 111)=false:=qqn (by omega);have e98:((D.c (k+(s+1)):Int) == 98)=false:=qqn (by omega);clear hrad hx h48;go_wp2_with fail
      refine Met.intro ?_
      go_step
      exact ⟨_,_,_,_,_,_,_,_,_,_,_,_,mk110_of _ rfl,rfl,rfl⟩
     ·clear h48;go_wp2_with fail
      refine Met.intro ?_
      go_step
      exact ⟨_,_,_,_,_,_,_,_,_,_,_,_,mk110_of _ rfl,rfl,rfl⟩
    ·have e48:((D.c (k+s):Int) == 48)=false:=qqn (by omega);go_wp2_with fail
     refine Met.intro ?_
     go_step
     exact ⟨_,_,_,_,_,_,_,_,_,_,_,_,mk110_of _ rfl,rfl,rfl⟩
   case rest3 =>
    rintro _ wc ⟨z8,z11,z12,z14,z27,x132,z207,z224,z272,z292,z344,F,rfl,rfl,rfl⟩;dsimp only [mk110];go_wp2_with fail
    refine (sdx10_c D _ _ C k n c (s+1) _ (by omega) _ (by exact HD.out) HV.out (by omega)).mono ?_;intro e w1 hpost;obtain ⟨r1,hr1⟩:∃ r1,sdRun D 10 (k+(s+1))=r1:=⟨_,rfl⟩;rw [hr1] at hpost;have HR1:=qqh hr1;clear hr1;have HPost:=qqh hpost;clear hpost;have herr:Hid ((r1=.bad\/r1=.opn)->(∃ v,e=.returned (.tuple #[.int .i64 0,v])/\Err w1 w.heap.size v)/\Kp Nil w w1):=by
     rintro (rfl | rfl)
     ·exact HPost.out
     ·exact HPost.out
    rcases sd_cases r1 with ⟨p1,rfl⟩ | hbad
    ·obtain ⟨rfl,hw⟩:=HPost.out;obtain rfl:=hw.symm;have hin1:=sd_in D 10 (by omega) _ _ _ rfl HR1.out;obtain ⟨j1,rfl⟩:∃ j,p1=k+j:=⟨p1 - k,by omega⟩;rw [Nat.add_sub_cancel_left];have hj11:s+1<=j1:=(by omega);have hj12:j1<=n:=(by have:=hin1.2 (by omega);omega);clear hin1 herr HPost;have HR3':Hid ((if D.c (k+s)=48/\k+s+1<k+j1 then .bad else scFrac D (k+j1))=r):=(by show _=_;rw [<- HR.out];unfold scTen;rw [show k+s+1=k+(s+1) by omega,HR1.out,sdThen_good]);go_upto_region 43 with fail;refine wp_cut (fun a' wx => ∃ (z8 z11 z14 z27 z132 x207 z224 z272 z292 z344:Value) (F:Nat->Value),a'=mk110 (.slice (some ⟨bd,q,none⟩) n c) (.int .i64 (j1:Nat)) z8 z11 (.int .i64 (s:Nat)) z14 z27 z132 x207 z224 z272 z292 z344 F/\x207=.bool (decide (D.c (k+s)=48/\s+1<j1))/\w=wx) ?rest4 ?first4
     case first4 =>
      intro _ _ _ _;by_cases h48:D.c (k+s)=48
      ·have e48:((D.c (k+s):Int) == 48)=true:=(by rw [beq_iff_eq];omega);rcases qqg (s+1) j1 with hl | hl
       ·go_wp2_with fail
        refine Met.intro ?_
        go_step
        exact ⟨_,_,_,_,_,_,_,_,_,_,_,mk110_of _ rfl,(congrArg Value.bool (by first | rfl | (symm;rw [decide_eq_true_iff];omega) | (symm;rw [decide_eq_false_iff_not];omega) | (rw [Bool.eq_iff_iff];simp;omega))),rfl⟩
       ·go_wp2_with fail
        refine Met.intro ?_
        go_step
        exact ⟨_,_,_,_,_,_,_,_,_,_,_,mk110_of _ rfl,(congrArg Value.bool (by first | rfl | (symm;rw [decide_eq_true_iff];omega) | (symm;rw [decide_eq_false_iff_not];omega) | (rw [Bool.eq_iff_iff];simp;omega))),rfl⟩
      ·have e48:((D.c (k+s):Int) == 48)=false:=qqn (by omega);go_wp2_with fail
       refine Met.intro ?_
       go_step
       exact ⟨_,_,_,_,_,_,_,_,_,_,_,mk110_of _ rfl,(congrArg Value.bool (by first | rfl | (symm;rw [decide_eq_true_iff];omega) | (symm;rw [decide_eq_false_iff_not];omega) | (rw [Bool.eq_iff_iff];simp;omega))),rfl⟩
     case rest4 =>
      rintro _ wc ⟨z8,z11,z14,z27,z132,x207,z224,z272,z292,z344,F,rfl,h207,rfl⟩;dsimp only [mk110];by_cases hP:D.c (k+s)=48/\s+1<j1
      ·rw [qqt hP] at h207;subst h207;obtain rfl:R.bad=r:=(by rw [<- HR3'.out,if_pos (by omega)]);obtain ⟨asl,hvs,hrun⟩:=VW.sub HV.out hC1 s (s+2) s ((s:Int)+2) rfl (by omega) (by omega) (by omega);clear hP hvs;go_wp2_with fail
       refine (newErr_c _ _ _ _ _ (by omega)).mono ?_;rintro e w1 ⟨⟨v,rfl,hE⟩,hk1⟩;go_wp2_with fail
       refine bodyPost_ret (results_tmp5 rfl _ _ _) rfl ?_
       skip
       exact ⟨⟨_,rfl,hE⟩,hk1⟩
      ·rw [qqf hP] at h207;subst h207;have HR4:Hid (scFrac D (k+j1)=r):=(by show _=_;rw [<- HR3'.out,if_neg (by omega)]);clear hP HR3';go_upto_region 46 with fail;refine wp_cut (fun a' wx => ∃ (z8 z11 z12 z27 z132 z207 x224 z272 z292 z344:Value) (F:Nat->Value),a'=mk110 (.slice (some ⟨bd,q,none⟩) n c) (.int .i64 (j1:Nat)) z8 z11 z12 (.int .i64 11) z27 z132 z207 x224 z272 z292 z344 F/\x224=.bool (decide (D.c (k+j1)=46))/\w=wx) ?rest5 ?first5
       case first5 =>
        intro _ _ _ _;rcases qqg j1 n with hl | hl
        ·have b2:=HB.out j1 (by omega);by_cases h46:D.c (k+j1)=46
         ·have e46:((D.c (k+j1):Int) == 46)=true:=(by rw [beq_iff_eq];omega);go_wp2_with fail
          refine Met.intro ?_
          go_step
          exact ⟨_,_,_,_,_,_,_,_,_,_,_,mk110_of _ rfl,(congrArg Value.bool (by first | rfl | (symm;rw [decide_eq_true_iff];omega) | (symm;rw [decide_eq_false_iff_not];omega) | (rw [Bool.eq_iff_iff];simp;omega))),rfl⟩
         ·have e46:((D.c (k+j1):Int) == 46)=false:=qqn (by omega);go_wp2_with fail
          refine Met.intro ?_
          go_step
          exact ⟨_,_,_,_,_,_,_,_,_,_,_,mk110_of _ rfl,(congrArg Value.bool (by first | rfl | (symm;rw [decide_eq_true_iff];omega) | (symm;rw [decide_eq_false_iff_not];omega) | (rw [Bool.eq_iff_iff];simp;omega))),rfl⟩
        ·have h0:=D.out (k+j1) (by omega);go_wp2_with fail
         refine Met.intro ?_
         go_step
         exact ⟨_,_,_,_,_,_,_,_,_,_,_,mk110_of _ rfl,(congrArg Value.bool (by first | rfl | (symm;rw [decide_eq_true_iff];omega) | (symm;rw [decide_eq_false_iff_not];omega) | (rw [Bool.eq_iff_iff];simp;omega))),rfl⟩
       case rest5 =>
        rintro _ wc ⟨z8,z11,z12,z27,z132,z207,x224,z272,z292,z344,F,rfl,h224,rfl⟩;dsimp only [mk110];go_upto_if 224 with fail;refine wp_cut (fun a' wx => ∃ (x7 z8 z11 z12 x14 z27 z132 z207 z224 z272 z292 z344:Value) (F:Nat->Value),a'=mk110 (.slice (some ⟨bd,q,none⟩) n c) x7 z8 z11 z12 x14 z27 z132 z207 z224 z272 z292 z344 F/\∃ j2 K2:Nat,x7=.int .i64 (j2:Nat)/\x14=.int .i64 (K2:Nat)/\j1<=j2/\j2<=n/\Hid (scExp D (k+j2) K2=r)/\w=wx) ?rest6 ?first6
        case first6 =>
         intro _ _ _ _;by_cases hP6:D.c (k+j1)=46
         ·rw [qqt hP6] at h224;subst h224;have hin:=Doc.in_of (D:=D) (k:=k+j1) (by omega);have HR6':Hid ((if dval (D.c (k+j1+1))<10 then sdThen (sdRun D 10 (k+j1+1+1)) (fun q => scExp D q 10) else .bad)=r):=(by show _=_;rw [<- HR4.out];unfold scFrac;rw [if_pos hP6]);clear hP6;rcases qqg (j1+1) n with hl1 | hl1
          ·have b3:=HB.out (j1+1) (by omega);by_cases hd2:dval (D.c (k+(j1+1)))<10
           ·have HD2:=qqh (qqt hd2);have HR7:Hid (sdThen (sdRun D 10 (k+(j1+2))) (fun q => scExp D q 10)=r):=(by show _=_;rw [<- HR6'.out,if_pos (by rw [Nat.add_assoc];exact hd2)];rfl);clear hd2;go_wp2_with fail
            refine (dig111_c (D.c (k+(j1+1))) _).mono ?_;rintro e w1 ⟨rfl,hw⟩;obtain rfl:=hw.symm;rw [HD2.out];go_wp2_with fail
            refine (sdx10_c D _ _ C k n c (j1+2) _ (by omega) _ (by exact HD.out) HV.out (by omega)).mono ?_;intro e w1 hpost;obtain ⟨r2,hr2⟩:∃ r1,sdRun D 10 (k+(j1+2))=r1:=⟨_,rfl⟩;rw [hr2] at hpost;have HR2:=qqh hr2;clear hr2;have HPost:=qqh hpost;clear hpost;have herr:Hid ((r2=.bad\/r2=.opn)->(∃ v,e=.returned (.tuple #[.int .i64 0,v])/\Err w1 w.heap.size v)/\Kp Nil w w1):=by
             rintro (rfl | rfl)
             ·exact HPost.out
             ·exact HPost.out
            rcases sd_cases r2 with ⟨p2,rfl⟩ | hbad
            ·obtain ⟨rfl,hw⟩:=HPost.out;obtain rfl:=hw.symm;have hin2:=sd_in D 10 (by omega) _ _ _ rfl HR2.out;obtain ⟨j2,rfl⟩:∃ j,p2=k+j:=⟨p2 - k,by omega⟩;rw [Nat.add_sub_cancel_left];have hj21:j1+2<=j2:=(by omega);have hj22:j2<=n:=(by have:=hin2.2 (by omega);omega);clear hin2 herr HPost;have HR6:Hid (scExp D (k+j2) 10=r):=(by show _=_;rw [<- HR7.out,HR2.out,sdThen_good]);go_wp2_with fail
             refine Met.intro ?_
             go_step
             exact ⟨_,_,_,_,_,_,_,_,_,_,_,_,_,mk110_of _ rfl,j2,10,rfl,rfl,by omega,by omega,HR6,rfl⟩
            ·have HBad:=qqh hbad;obtain ⟨⟨v,rfl,hE⟩,hk1⟩:=herr.out hbad;obtain ⟨bb,rfl⟩:=Err.ptr hE;have HE:=qqh hE;clear hE hbad herr;go_wp2_with fail
             refine bodyPost_ret (results_tmp5 rfl _ _ _) rfl ?_;obtain rfl:R.bad=r:=(by rw [<- HR7.out];rcases HBad.out with h | h <;> (rw [HR2.out,h];rfl));exact ⟨⟨_,rfl,HE.out⟩,hk1⟩
           ·have HD2:=qqh (qqf hd2);obtain rfl:R.bad=r:=(by rw [<- HR6'.out,if_neg (by rw [Nat.add_assoc];exact hd2)]);obtain ⟨asl,hvs,hrun⟩:=VW.from_ HV.out hC1 (j1+1) ((j1:Int)+1) (by omega) (by omega);have HVS:=qqh hvs;clear hd2 hvs;go_wp2_with fail
            refine (dig111_c (D.c (k+(j1+1))) _).mono ?_;rintro e w1 ⟨rfl,hw⟩;obtain rfl:=hw.symm;rw [HD2.out];go_wp2_with fail
            refine (hl1_c D _ asl C (k+(j1+1)) (n - (j1+1)) (c - (j1+1)) _ hC1 HVS.out).mono ?_;rintro e w1 ⟨⟨m1,rfl,hm1⟩,hw⟩;obtain rfl:=hw.symm;go_wp2_with fail
            refine (newErr_c _ _ _ _ _ (by omega)).mono ?_;rintro e w1 ⟨⟨v,rfl,hE⟩,hk1⟩;go_wp2_with fail
            refine bodyPost_ret (results_tmp5 rfl _ _ _) rfl ?_
            skip
            exact ⟨⟨_,rfl,hE⟩,hk1⟩
          ·have h0:=D.out (k+(j1+1)) (by omega);obtain rfl:R.bad=r:=(by rw [<- HR6'.out,if_neg (by rw [Nat.add_assoc,h0,dval_0];omega)]);obtain ⟨asl,hvs,hrun⟩:=VW.from_ HV.out hC1 (j1+1) ((j1:Int)+1) (by omega) (by omega);rw [show n - (j1+1)=0 by omega] at hvs hrun;have HVS:=qqh hvs;clear hvs;go_wp2_with fail
           refine (hl1_c D _ asl C (k+(j1+1)) 0 (c - (j1+1)) _ hC1 HVS.out).mono ?_;rintro e w1 ⟨⟨m1,rfl,hm1⟩,hw⟩;obtain rfl:=hw.symm;go_wp2_with fail
           refine (newErr_c _ _ _ _ _ (by omega)).mono ?_;rintro e w1 ⟨⟨v,rfl,hE⟩,hk1⟩;go_wp2_with fail
           refine bodyPost_ret (results_tmp5 rfl _ _ _) rfl ?_
           skip
           exact ⟨⟨_,rfl,hE⟩,hk1⟩
         ·rw [qqf hP6] at h224;subst h224;have HR6:Hid (scExp D (k+j1) 11=r):=(by show _=_;rw [<- HR4.out];unfold scFrac;rw [if_neg hP6]);go_wp2_with fail
          refine Met.intro ?_
          go_step
          exact ⟨_,_,_,_,_,_,_,_,_,_,_,_,_,mk110_of _ rfl,j1,11,rfl,rfl,by omega,by omega,HR6,rfl⟩
        case rest6 =>
         rintro _ wc ⟨x7,z8,z11,z12,x14,z27,z132,z207,z224,z272,z292,z344,F,rfl,j2,K2,rfl,rfl,hj21,hj22,HR6,rfl⟩;dsimp only [mk110];clear HR4 hj11;go_upto_region 55 with fail;refine wp_cut (fun a' wx => ∃ (z8 z11 z12 z27 z132 z207 z224 x272 z292 z344:Value) (F:Nat->Value),a'=mk110 (.slice (some ⟨bd,q,none⟩) n c) (.int .i64 (j2:Nat)) z8 z11 z12 (.int .i64 (K2:Nat)) z27 z132 z207 z224 x272 z292 z344 F/\x272=.bool (decide (D.c (k+j2)=101\/D.c (k+j2)=69))/\w=wx) ?rest7 ?first7
         case first7 =>
          intro _ _ _ _;rcases qqg j2 n with hl | hl
          ·have b2:=HB.out j2 (by omega);by_cases h101:D.c (k+j2)=101
           ·have e101:((D.c (k+j2):Int) == 101)=true:=(by rw [beq_iff_eq];omega);go_wp2_with fail
            refine Met.intro ?_
            go_step
            exact ⟨_,_,_,_,_,_,_,_,_,_,_,mk110_of _ rfl,(congrArg Value.bool (by first | rfl | (symm;rw [decide_eq_true_iff];omega) | (symm;rw [decide_eq_false_iff_not];omega) | (rw [Bool.eq_iff_iff];simp;omega))),rfl⟩
           ·have e101:((D.c (k+j2):Int) == 101)=false:=qqn (by omega);by_cases h69:D.c (k+j2)=69
            ·have e69:((D.c (k+j2):Int) == 69)=true:=(by rw [beq_iff_eq];omega);go_wp2_with fail
             refine Met.intro ?_
             go_step
             exact ⟨_,_,_,_,_,_,_,_,_,_,_,mk110_of _ rfl,(congrArg Value.bool (by first | rfl | (symm;rw [decide_eq_true_iff];omega) | (symm;rw [decide_eq_false_iff_not];omega) | (rw [Bool.eq_iff_iff];simp;omega))),rfl⟩
            ·have e69:((D.c (k+j2):Int) == 69)=false:=qqn (by omega);go_wp2_with fail
             refine Met.intro ?_
             go_step
             exact ⟨_,_,_,_,_,_,_,_,_,_,_,mk110_of _ rfl,(congrArg Value.bool (by first | rfl | (symm;rw [decide_eq_true_iff];omega) | (symm;rw [decide_eq_false_iff_not];omega) | (rw [Bool.eq_iff_iff];simp;omega))),rfl⟩
          ·have h0:=D.out (k+j2) (by omega);go_wp2_with fail
           refine Met.intro ?_
           go_step
           exact ⟨_,_,_,_,_,_,_,_,_,_,_,mk110_of _ rfl,(congrArg Value.bool (by first | rfl | (symm;rw [decide_eq_true_iff];omega) | (symm;rw [decide_eq_false_iff_not];omega) | (rw [Bool.eq_iff_iff];simp;omega))),rfl⟩
         case rest7 =>
          rintro _ wc ⟨z8,z11,z12,z27,z132,z207,z224,x272,z292,z344,F,rfl,h272,rfl⟩;dsimp only [mk110];go_upto_if 272 with fail;refine wp_cut (fun a' wx => ∃ (x7 z8 z11 z12 x14 z27 z132 z207 z224 z272 z292 z344:Value) (F:Nat->Value),a'=mk110 (.slice (some ⟨bd,q,none⟩) n c) x7 z8 z11 z12 x14 z27 z132 z207 z224 z272 z292 z344 F/\∃ j4 K4:Nat,x7=.int .i64 (j4:Nat)/\x14=.int .i64 (K4:Nat)/\j2<=j4/\j4<=n/\Hid (scEnd D (k+j4) K4=r)/\w=wx) ?rest8 ?first8
          case first8 =>
           intro _ _ _ _;by_cases hP8:D.c (k+j2)=101\/D.c (k+j2)=69
           ·rw [qqt hP8] at h272;subst h272;have hin:=Doc.in_of (D:=D) (k:=k+j2) (by omega);have HR8':Hid ((if dval (D.c (k+j2+expS D (k+j2)))<10 then sdThen (sdRun D 10 (k+j2+expS D (k+j2)+1)) (fun q => scEnd D q 10) else .bad)=r):=(by show _=_;rw [<- HR6.out];unfold scExp;rw [if_pos hP8]);clear hP8;go_upto_region 57 with fail;refine wp_cut (fun a' wx => ∃ (x7 z8 z11 z12 z14 z27 z132 z207 z224 z272 x292 z344:Value) (F:Nat->Value),a'=mk110 (.slice (some ⟨bd,q,none⟩) n c) x7 z8 z11 z12 z14 z27 z132 z207 z224 z272 x292 z344 F/\x292=.bool (decide (D.c (k+(j2+1))=43\/D.c (k+(j2+1))=45))/\x7=.int .i64 ((j2+1:Nat):Int)/\w=wx) ?rest9 ?first9
            case first9 =>
             intro _ _ _ _;rcases qqg (j2+1) n with hl1 | hl1
             ·have b3:=HB.out (j2+1) (by omega);by_cases h43:D.c (k+(j2+1))=43
              ·have e43:((D.c (k+(j2+1)):Int) == 43)=true:=(by rw [beq_iff_eq];omega);go_wp2_with fail
               refine Met.intro ?_
               go_step
               exact ⟨_,_,_,_,_,_,_,_,_,_,_,_,_,mk110_of _ rfl,(congrArg Value.bool (by first | rfl | (symm;rw [decide_eq_true_iff];omega) | (symm;rw [decide_eq_false_iff_not];omega) | (rw [Bool.eq_iff_iff];simp;omega))),by go_num,rfl⟩
              ·have e43:((D.c (k+(j2+1)):Int) == 43)=false:=qqn (by omega);by_cases h45:D.c (k+(j2+1))=45
               ·have e45:((D.c (k+(j2+1)):Int) == 45)=true:=(by rw [beq_iff_eq];omega);go_wp2_with fail
                refine Met.intro ?_
                go_step
                exact ⟨_,_,_,_,_,_,_,_,_,_,_,_,_,mk110_of _ rfl,(congrArg Value.bool (by first | rfl | (symm;rw [decide_eq_true_iff];omega) | (symm;rw [decide_eq_false_iff_not];omega) | (rw [Bool.eq_iff_iff];simp;omega))),by go_num,rfl⟩
               ·have e45:((D.c (k+(j2+1)):Int) == 45)=false:=qqn (by omega);go_wp2_with fail
                refine Met.intro ?_
                go_step
                exact ⟨_,_,_,_,_,_,_,_,_,_,_,_,_,mk110_of _ rfl,(congrArg Value.bool (by first | rfl | (symm;rw [decide_eq_true_iff];omega) | (symm;rw [decide_eq_false_iff_not];omega) | (rw [Bool.eq_iff_iff];simp;omega))),by go_num,rfl⟩
             ·have h0:=D.out (k+(j2+1)) (by omega);go_wp2_with fail
              refine Met.intro ?_
              go_step
              exact ⟨_,_,_,_,_,_,_,_,_,_,_,_,_,mk110_of _ rfl,(congrArg Value.bool (by first | rfl | (symm;rw [decide_eq_true_iff];omega) | (symm;rw [decide_eq_false_iff_not];omega) | (rw [Bool.eq_iff_iff];simp;omega))),by go_num,rfl⟩
            case rest9 =>
             rintro _ wc ⟨x7,z8,z11,z12,z14,z27,z132,z207,z224,z272,x292,z344,F,rfl,h292,rfl,rfl⟩;dsimp only [mk110];go_upto_if 292 with fail;refine wp_cut (fun a' wx => ∃ (x7 z8 z11 z12 z14 z27 z132 z207 z224 z272 z292 z344:Value) (F:Nat->Value),a'=mk110 (.slice (some ⟨bd,q,none⟩) n c) x7 z8 z11 z12 z14 z27 z132 z207 z224 z272 z292 z344 F/\∃ m:Nat,x7=.int .i64 (m:Nat)/\j2<m/\m<=n/\Hid (k+m=k+j2+expS D (k+j2))/\w=wx) ?rest10 ?first10
             case first10 =>
              intro _ _ _ _;by_cases hP:D.c (k+(j2+1))=43\/D.c (k+(j2+1))=45
              ·rw [qqt hP] at h292;subst h292;have hin:=Doc.in_of (D:=D) (k:=k+(j2+1)) (by omega);go_wp2_with fail
               refine Met.intro ?_
               go_step
               exact ⟨_,_,_,_,_,_,_,_,_,_,_,_,_,mk110_of _ rfl,j2+2,by go_num,by omega,by omega,by show _=_;unfold expS;rw [Nat.add_assoc k j2 1,if_pos hP];omega,rfl⟩
              ·rw [qqf hP] at h292;subst h292;go_wp2_with fail
               refine Met.intro ?_
               go_step
               exact ⟨_,_,_,_,_,_,_,_,_,_,_,_,_,mk110_of _ rfl,j2+1,by go_num,by omega,by omega,by show _=_;unfold expS;rw [Nat.add_assoc k j2 1,if_neg hP];omega,rfl⟩
             case rest10 =>
              rintro _ wc ⟨x7,z8,z11,z12,z14,z27,z132,z207,z224,z272,z292,z344,F,rfl,m,rfl,hm1,hm2,hm3,rfl⟩;dsimp only [mk110];rcases qqg m n with hl2 | hl2
              ·have b5:=HB.out m (by omega);by_cases hd3:dval (D.c (k+m))<10
               ·have HD3:=qqh (qqt hd3);have HR9:Hid (sdThen (sdRun D 10 (k+(m+1))) (fun q => scEnd D q 10)=r):=(by show _=_;rw [<- HR8'.out,if_pos (by rw [<- hm3.out];exact hd3),<- hm3.out];rfl);clear hd3;go_wp2_with fail
                refine (dig111_c (D.c (k+m)) _).mono ?_;rintro e w1 ⟨rfl,hw⟩;obtain rfl:=hw.symm;rw [HD3.out];go_wp2_with fail
                refine (sdx10_c D _ _ C k n c (m+1) _ (by omega) _ (by exact HD.out) HV.out (by omega)).mono ?_;intro e w1 hpost;obtain ⟨r3,hr3⟩:∃ r1,sdRun D 10 (k+(m+1))=r1:=⟨_,rfl⟩;rw [hr3] at hpost;have HR3:=qqh hr3;clear hr3;have HPost:=qqh hpost;clear hpost;have herr:Hid ((r3=.bad\/r3=.opn)->(∃ v,e=.returned (.tuple #[.int .i64 0,v])/\Err w1 w.heap.size v)/\Kp Nil w w1):=by
                 rintro (rfl | rfl)
                 ·exact HPost.out
                 ·exact HPost.out
                rcases sd_cases r3 with ⟨p3,rfl⟩ | hbad
                ·obtain ⟨rfl,hw⟩:=HPost.out;obtain rfl:=hw.symm;have hin3:=sd_in D 10 (by omega) _ _ _ rfl HR3.out;obtain ⟨j3,rfl⟩:∃ j,p3=k+j:=⟨p3 - k,by omega⟩;rw [Nat.add_sub_cancel_left];have hj31:m+1<=j3:=(by omega);have hj32:j3<=n:=(by have:=hin3.2 (by omega);omega);clear hin3 herr HPost;have HR8:Hid (scEnd D (k+j3) 10=r):=(by show _=_;rw [<- HR9.out,HR3.out,sdThen_good]);go_wp2_with fail
                 refine Met.intro ?_
                 go_step
                 exact ⟨_,_,_,_,_,_,_,_,_,_,_,_,_,mk110_of _ rfl,j3,10,rfl,rfl,by omega,by omega,HR8,rfl⟩
                ·have HBad:=qqh hbad;obtain ⟨⟨v,rfl,hE⟩,hk1⟩:=herr.out hbad;obtain ⟨bb,rfl⟩:=Err.ptr hE;have HE:=qqh hE;clear hE hbad herr;go_wp2_with fail
                 refine bodyPost_ret (results_tmp5 rfl _ _ _) rfl ?_;obtain rfl:R.bad=r:=(by rw [<- HR9.out];rcases HBad.out with h | h <;> (rw [HR3.out,h];rfl));exact ⟨⟨_,rfl,HE.out⟩,hk1⟩
               ·have HD3:=qqh (qqf hd3);obtain rfl:R.bad=r:=(by rw [<- HR8'.out,if_neg (by rw [<- hm3.out];exact hd3)]);obtain ⟨asl,hvs,hrun⟩:=VW.from_ HV.out hC1 m (m:Nat) rfl (by omega);have HVS:=qqh hvs;clear hd3 hvs;go_wp2_with fail
                refine (dig111_c (D.c (k+m)) _).mono ?_;rintro e w1 ⟨rfl,hw⟩;obtain rfl:=hw.symm;rw [HD3.out];go_wp2_with fail
                refine (hl1_c D _ asl C (k+m) (n - m) (c - m) _ hC1 HVS.out).mono ?_;rintro e w1 ⟨⟨m1,rfl,hm1⟩,hw⟩;obtain rfl:=hw.symm;go_wp2_with fail
                refine (newErr_c _ _ _ _ _ (by omega)).mono ?_;rintro e w1 ⟨⟨v,rfl,hE⟩,hk1⟩;go_wp2_with fail
                refine bodyPost_ret (results_tmp5 rfl _ _ _) rfl ?_
                skip
                exact ⟨⟨_,rfl,hE⟩,hk1⟩
              ·have h0:=D.out (k+m) (by omega);obtain rfl:R.bad=r:=(by rw [<- HR8'.out,if_neg (by rw [<- hm3.out,h0,dval_0];omega)]);obtain ⟨asl,hvs,hrun⟩:=VW.from_ HV.out hC1 m (m:Nat) rfl (by omega);rw [show n - m=0 by omega] at hvs hrun;have HVS:=qqh hvs;clear hvs;go_wp2_with fail
               refine (hl1_c D _ asl C (k+m) 0 (c - m) _ hC1 HVS.out).mono ?_;rintro e w1 ⟨⟨m1,rfl,hm1⟩,hw⟩;obtain rfl:=hw.symm;go_wp2_with fail
               refine (newErr_c _ _ _ _ _ (by omega)).mono ?_;rintro e w1 ⟨⟨v,rfl,hE⟩,hk1⟩;go_wp2_with fail
               refine bodyPost_ret (results_tmp5 rfl _ _ _) rfl ?_
               skip
               exact ⟨⟨_,rfl,hE⟩,hk1⟩
           ·rw [qqf hP8] at h272;subst h272;have HR8:Hid (scEnd D (k+j2) K2=r):=(by show _=_;rw [<- HR6.out];unfold scExp;rw [if_neg hP8]);go_wp2_with fail
            refine Met.intro ?_
            go_step
            exact ⟨_,_,_,_,_,_,_,_,_,_,_,_,_,mk110_of _ rfl,j2,K2,rfl,rfl,by omega,by omega,HR8,rfl⟩
          case rest8 =>
           rintro _ wc ⟨x7,z8,z11,z12,x14,z27,z132,z207,z224,z272,z292,z344,F,rfl,j4,K4,rfl,rfl,hj41,hj42,HR8,rfl⟩;dsimp only [mk110];rcases qqg j4 n with hl | hl
           ·have b4:=HB.out j4 (by omega);go_upto_region 68 with fail;refine wp_cut (fun a' wx => ∃ (z8 z11 z12 z27 z132 z207 z224 z272 z292 x344:Value) (F:Nat->Value),a'=mk110 (.slice (some ⟨bd,q,none⟩) n c) (.int .i64 (j4:Nat)) z8 z11 z12 (.int .i64 (K4:Nat)) z27 z132 z207 z224 z272 z292 x344 F/\x344=.bool (decide (letB (D.c (k+j4))))/\w=wx) ?rest11 ?first11
            case first11 =>
             intro _ _ _ _;by_cases hl1:97<=D.c (k+j4)
             ·have f1:decide (97<=(D.c (k+j4):Int))=true:=qqt (by omega);by_cases hl2:D.c (k+j4)<=122
              ·have f2:decide ((D.c (k+j4):Int)<=122)=true:=qqt (by omega);go_wp2_with fail
               refine Met.intro ?_
               go_step
               exact ⟨_,_,_,_,_,_,_,_,_,_,_,mk110_of _ rfl,(congrArg Value.bool (qqt (.inl ⟨hl1,hl2⟩)).symm),rfl⟩
              ·have f2:decide ((D.c (k+j4):Int)<=122)=false:=qqf (by omega);have f3:decide (65<=(D.c (k+j4):Int))=true:=qqt (by omega);have f4:decide ((D.c (k+j4):Int)<=90)=false:=qqf (by omega);go_wp2_with fail
               refine Met.intro ?_
               go_step
               exact ⟨_,_,_,_,_,_,_,_,_,_,_,mk110_of _ rfl,(congrArg Value.bool (qqf (by unfold letB;omega)).symm),rfl⟩
             ·have f1:decide (97<=(D.c (k+j4):Int))=false:=qqf (by omega);by_cases hl3:65<=D.c (k+j4)
              ·have f3:decide (65<=(D.c (k+j4):Int))=true:=qqt (by omega);by_cases hl4:D.c (k+j4)<=90
               ·have f4:decide ((D.c (k+j4):Int)<=90)=true:=qqt (by omega);go_wp2_with fail
                refine Met.intro ?_
                go_step
                exact ⟨_,_,_,_,_,_,_,_,_,_,_,mk110_of _ rfl,(congrArg Value.bool (qqt (.inr ⟨hl3,hl4⟩)).symm),rfl⟩
               ·have f4:decide ((D.c (k+j4):Int)<=90)=false:=qqf (by omega);go_wp2_with fail
                refine Met.intro ?_
                go_step
                exact ⟨_,_,_,_,_,_,_,_,_,_,_,mk110_of _ rfl,(congrArg Value.bool (qqf (by unfold letB;omega)).symm),rfl⟩
              ·have f3:decide (65<=(D.c (k+j4):Int))=false:=qqf (by omega);go_wp2_with fail
               refine Met.intro ?_
               go_step
               exact ⟨_,_,_,_,_,_,_,_,_,_,_,mk110_of _ rfl,(congrArg Value.bool (qqf (by unfold letB;omega)).symm),rfl⟩
            case rest11 =>
             rintro _ wc ⟨z8,z11,z12,z27,z132,z207,z224,z272,z292,x344,F,rfl,h344,rfl⟩;dsimp only [mk110];by_cases hP:letB (D.c (k+j4))
             ·rw [qqt hP] at h344;subst h344;have hbad:R.bad=r:=(by rw [<- HR8.out];unfold scEnd;rw [if_pos hP]);have HBAD:=qqh hbad;obtain ⟨asl,hvs,hrun⟩:=VW.sub HV.out hC1 j4 (j4+1) j4 ((j4:Int)+1) rfl (by omega) (by omega) (by omega);clear hP hvs hbad;go_wp2_with fail
              refine (newErr_c _ _ _ _ _ (by omega)).mono ?_;rintro e w1 ⟨⟨v,rfl,hE⟩,hk1⟩;go_wp2_with fail
              refine bodyPost_ret (results_tmp5 rfl _ _ _) rfl ?_;obtain rfl:R.bad=r:=HBAD.out;exact ⟨⟨_,rfl,hE⟩,hk1⟩
             ·rw [qqf hP] at h344;subst h344;obtain rfl:R.good K4 (k+j4)=r:=(by rw [<- HR8.out];unfold scEnd;rw [if_neg hP]);clear hP;have hrunt:=upto_ (some ⟨bd,q,none⟩) n c (j4) (j4:Nat) rfl (by omega);obtain ⟨af,hvf,hrunf⟩:=VW.from_ HV.out hC1 (j4) ((j4:Nat):Int) rfl (by omega)
              skip
              have HVF:=qqh hvf;clear hvf;go_wp2_with fail
              go_quiet (fail)
              go_wp2_with fail
              refine bodyPost_ret (results_tmp5 rfl _ _ _) rfl ?_;refine ⟨(Kp.refl _ _).drewN _,_,_,_,?_,HVF.out⟩;rw [Nat.add_sub_cancel_left];rfl
           ·obtain rfl:R.good K4 (k+j4)=r:=(by rw [<- HR8.out];unfold scEnd;rw [D.out (k+j4) (by omega),if_neg (by decide)]);have hrunt:=upto_ (some ⟨bd,q,none⟩) n c (j4) (j4:Nat) rfl (by omega);obtain ⟨af,hvf,hrunf⟩:=VW.from_ HV.out hC1 (j4) ((j4:Nat):Int) rfl (by omega);rw [show n - j4=0 by omega] at hvf hrunf;have HVF:=qqh hvf;clear hvf;go_wp2_with fail
            go_quiet (fail)
            go_wp2_with fail
            refine bodyPost_ret (results_tmp5 rfl _ _ _) rfl ?_;refine ⟨(Kp.refl _ _).drewN _,_,_,_,?_,HVF.out⟩;rw [Nat.add_sub_cancel_left];rfl
    ·have HBad:=qqh hbad;obtain ⟨⟨v,rfl,hE⟩,hk1⟩:=herr.out hbad;obtain ⟨bb,rfl⟩:=Err.ptr hE;have HE:=qqh hE;clear hE hbad herr;go_wp2_with fail
     refine bodyPost_ret (results_tmp5 rfl _ _ _) rfl ?_;obtain rfl:R.bad=r:=(by rw [<- HR.out];unfold scTen;rw [show k+s+1=k+(s+1) by omega];rcases HBad.out with h | h <;> (rw [HR1.out,h];rfl));exact ⟨⟨_,rfl,HE.out⟩,hk1⟩
end Go.Proofs.YtpgmddjgcgpoeaaGreat
