/-
  A part of the proof.
-/
import Derived.Test.YtpgmddjgcgpoeaaGreatD29
import Derived.Test.YtpgmddjgcgpoeaaGreatD18
import Derived.Test.YtpgmddjgcgpoeaaGreatD07
set_option linter.unusedVariables false
set_option linter.unusedSimpArgs false
set_option maxRecDepth 100000
set_option maxHeartbeats 8000000
namespace Go.Proofs.YtpgmddjgcgpoeaaGreat
open Go.RowKit
theorem wsl_stop {D:Doc} {k:Nat} (h1:¬ (D.c k=32\/D.c k=9)) (h2:nlen D k=0):wsl D k=k:=by
 rw [wsl,wsEnd_stop h1,dif_pos h2]
theorem wsl_ws {D:Doc} {k:Nat} (h:D.c k=32\/D.c k=9):wsl D k=wsl D (k+1):=by
 rw [wsl,wsEnd_go h,<- wsl]
theorem wsl_nl {D:Doc} {k:Nat} (h:D.c k=10):wsl D k=wsl D (k+1):=by
 have hn:nlen D k=1:=by unfold nlen;rw [if_pos h]
 rw [wsl,wsEnd_stop (by omega),dif_neg (by omega),hn]
theorem wsl_crnl {D:Doc} {k:Nat} (h:D.c k=13/\D.c (k+1)=10):wsl D k=wsl D (k+2):=by
 have hn:nlen D k=2:=by unfold nlen;rw [if_neg (by omega),if_pos h]
 rw [wsl,wsEnd_stop (by omega),dif_neg (by omega),hn]
theorem esc_ws {D:Doc} {k:Nat} (h:D.c k=32\/D.c k=9\/D.c k=10\/D.c k=13):esc D k=.bad:=by
 unfold esc escB escM;rcases h with h | h | h | h <;> rw [h] <;> rfl
theorem nlen_cases {D:Doc} {k:Nat} (h:nlen D k ≠ 0):(D.c k=10/\nlen D k=1)\/(D.c k=13/\D.c (k+1)=10/\nlen D k=2):=by
 unfold nlen at h ⊢;by_cases h1:D.c k=10
 ·rw [if_pos h1];exact .inl ⟨h1,rfl⟩
 ·rw [if_neg h1] at h ⊢;by_cases h2:D.c k=13/\D.c (k+1)=10
  ·rw [if_pos h2];exact .inr ⟨h2.1,h2.2,rfl⟩
  ·rw [if_neg h2] at h;exact absurd rfl h
def mk105 (s0 s1 s2 s3 s14 s16 s18 s166:Value) (F:Nat->Value):Act:=⟨#[s0,s1,s2,s3,F 4,F 5,F 6,F 7,F 8,F 9,F 10,F 11,F 12,F 13,s14,F 15,s16,F 17,s18,F 19,F 20,F 21,F 22,F 23,F 24,F 25,F 26,F 27,F 28,F 29,F 30,F 31,F 32,F 33,F 34,F 35,F 36,F 37,F 38,F 39,F 40,F 41,F 42,F 43,F 44,F 45,F 46,F 47,F 48,F 49,F 50,F 51,F 52,F 53,F 54,F 55,F 56,F 57,F 58,F 59,F 60,F 61,F 62,F 63,F 64,F 65,F 66,F 67,F 68,F 69,F 70,F 71,F 72,F 73,F 74,F 75,F 76,F 77,F 78,F 79,F 80,F 81,F 82,F 83,F 84,F 85,F 86,F 87,F 88,F 89,F 90,F 91,F 92,F 93,F 94,F 95,F 96,F 97,F 98,F 99,F 100,F 101,F 102,F 103,F 104,F 105,F 106,F 107,F 108,F 109,F 110,F 111,F 112,F 113,F 114,F 115,F 116,F 117,F 118,F 119,F 120,F 121,F 122,F 123,F 124,F 125,F 126,F 127,F 128,F 129,F 130,F 131,F 132,F 133,F 134,F 135,F 136,F 137,F 138,F 139,F 140,F 141,F 142,F 143,F 144,F 145,F 146,F 147,F 148,F 149,F 150,F 151,F 152,F 153,F 154,F 155,F 156,F 157,F 158,F 159,F 160,F 161,F 162,F 163,F 164,F 165,s166,F 167,F 168,F 169,F 170,F 171,F 172,F 173,F 174,F 175,F 176,F 177,F 178,F 179,F 180,F 181,F 182,F 183,F 184,F 185,F 186,F 187,F 188,F 189,F 190,F 191,F 192,F 193,F 194,F 195,F 196,F 197,F 198,F 199,F 200,F 201,F 202,F 203,F 204,F 205,F 206,F 207,F 208,F 209,F 210,F 211,F 212,F 213,F 214,F 215,F 216,F 217,F 218,F 219,F 220,F 221,F 222,F 223,F 224,F 225,F 226,F 227,F 228,F 229,F 230,F 231,F 232,F 233,F 234,F 235,F 236,F 237,F 238,F 239,F 240,F 241,F 242,F 243,F 244,F 245,F 246,F 247,F 248,F 249,F 250,F 251,F 252,F 253,F 254,F 255,F 256,F 257,F 258,F 259,F 260,F 261,F 262,F 263,F 264,F 265,F 266,F 267,F 268,F 269,F 270,F 271,F 272,F 273,F 274,F 275,F 276,F 277,F 278,F 279,F 280,F 281,F 282,F 283,F 284,F 285,F 286,F 287,F 288,F 289,F 290,F 291,F 292,F 293,F 294,F 295,F 296,F 297,F 298,F 299,F 300,F 301,F 302,F 303,F 304,F 305,F 306,F 307,F 308,F 309,F 310,F 311,F 312,F 313,F 314,F 315,F 316,F 317,F 318,F 319,F 320,F 321,F 322,F 323,F 324,F 325,F 326,F 327,F 328,F 329,F 330,F 331,F 332,F 333,F 334,F 335,F 336,F 337,F 338,F 339,F 340,F 341,F 342,F 343,F 344,F 345,F 346,F 347,F 348,F 349,F 350,F 351,F 352,F 353],[]⟩
theorem mk105_eq (s0 s1 s2 s3 s14 s16 s18 s166:Value) (F:Nat->Value):mk105 s0 s1 s2 s3 s14 s16 s18 s166 F=⟨#[s0,s1,s2,s3,F 4,F 5,F 6,F 7,F 8,F 9,F 10,F 11,F 12,F 13,s14,F 15,s16,F 17,s18,F 19,F 20,F 21,F 22,F 23,F 24,F 25,F 26,F 27,F 28,F 29,F 30,F 31,F 32,F 33,F 34,F 35,F 36,F 37,F 38,F 39,F 40,F 41,F 42,F 43,F 44,F 45,F 46,F 47,F 48,F 49,F 50,F 51,F 52,F 53,F 54,F 55,F 56,F 57,F 58,F 59,F 60,F 61,F 62,F 63,F 64,F 65,F 66,F 67,F 68,F 69,F 70,F 71,F 72,F 73,F 74,F 75,F 76,F 77,F 78,F 79,F 80,F 81,F 82,F 83,F 84,F 85,F 86,F 87,F 88,F 89,F 90,F 91,F 92,F 93,F 94,F 95,F 96,F 97,F 98,F 99,F 100,F 101,F 102,F 103,F 104,F 105,F 106,F 107,F 108,F 109,F 110,F 111,F 112,F 113,F 114,F 115,F 116,F 117,F 118,F 119,F 120,F 121,F 122,F 123,F 124,F 125,F 126,F 127,F 128,F 129,F 130,F 131,F 132,F 133,F 134,F 135,F 136,F 137,F 138,F 139,F 140,F 141,F 142,F 143,F 144,F 145,F 146,F 147,F 148,F 149,F 150,F 151,F 152,F 153,F 154,F 155,F 156,F 157,F 158,F 159,F 160,F 161,F 162,F 163,F 164,F 165,s166,F 167,F 168,F 169,F 170,F 171,F 172,F 173,F 174,F 175,F 176,F 177,F 178,F 179,F 180,F 181,F 182,F 183,F 184,F 185,F 186,F 187,F 188,F 189,F 190,F 191,F 192,F 193,F 194,F 195,F 196,F 197,F 198,F 199,F 200,F 201,F 202,F 203,F 204,F 205,F 206,F 207,F 208,F 209,F 210,F 211,F 212,F 213,F 214,F 215,F 216,F 217,F 218,F 219,F 220,F 221,F 222,F 223,F 224,F 225,F 226,F 227,F 228,F 229,F 230,F 231,F 232,F 233,F 234,F 235,F 236,F 237,F 238,F 239,F 240,F 241,F 242,F 243,F 244,F 245,F 246,F 247,F 248,F 249,F 250,F 251,F 252,F 253,F 254,F 255,F 256,F 257,F 258,F 259,F 260,F 261,F 262,F 263,F 264,F 265,F 266,F 267,F 268,F 269,F 270,F 271,F 272,F 273,F 274,F 275,F 276,F 277,F 278,F 279,F 280,F 281,F 282,F 283,F 284,F 285,F 286,F 287,F 288,F 289,F 290,F 291,F 292,F 293,F 294,F 295,F 296,F 297,F 298,F 299,F 300,F 301,F 302,F 303,F 304,F 305,F 306,F 307,F 308,F 309,F 310,F 311,F 312,F 313,F 314,F 315,F 316,F 317,F 318,F 319,F 320,F 321,F 322,F 323,F 324,F 325,F 326,F 327,F 328,F 329,F 330,F 331,F 332,F 333,F 334,F 335,F 336,F 337,F 338,F 339,F 340,F 341,F 342,F 343,F 344,F 345,F 346,F 347,F 348,F 349,F 350,F 351,F 352,F 353],[]⟩:=rfl
theorem mk105_of (L:List Value) (h:L.length=354):(⟨L.toArray,[]⟩:Act)=mk105 (L.getD 0 undef) (L.getD 1 undef) (L.getD 2 undef) (L.getD 3 undef) (L.getD 14 undef) (L.getD 16 undef) (L.getD 18 undef) (L.getD 166 undef) (fun i => L.getD i undef):=(frame_range L 354 h).trans (by rfl)
theorem mbesc_c (D:Doc) (A a:Option Addr) (C k n c cs i:Nat) (pv:Value) (r:R (List UInt8)) (w:World) (hd:DocAt D A C w) (hv:VW D A C k a n c) (hcs:3<=cs) (hi:cs<=i) (hin:i<n) (hr:linRun D 34 (k+i) (D.sub (k+cs) (i - cs))=r) (hno:r ≠ .opn) :
  Calls Tryz.prog 105 #[pv,.slice a n c,.int .i64 cs,.int .i64 i] w (LinPost D A C k c w r):=by
 have hs:=D.small;have hC1:=hd.1;have hC2:=hd.2.1;have hln:=qql hv.len;have hln':=qql hv.len.symm;have hcp:=qql hv.cap;have hcp':=qql hv.cap.symm;obtain ⟨bd,q,rfl,hb⟩:=hv.bytes hd (by omega);clear hb;have HD:=qqh hd;have HV:=qqh hv;have HR0:=qqh hr;have HNO:=qqh hno;obtain ⟨av,hvv,hrunv⟩:=VW.sub HV.out hC1 cs i cs i rfl rfl (by omega) (by omega);have HVV:=qqh hvv;clear hd hv hr hno hvv;go_enter Tryz.func105,Tryz.ntmps105;go_wp2_with fail
 refine (mbend_c D A _ C k n c i _ (by exact HD.out) HV.out (by omega)).mono ?_;rintro e w ⟨rfl,x,rfl,hx⟩;go_upto_if 30 with fail;go_cut [12] from 22 to 34 (fun v wx => ∃ m:Nat,v=.int .i64 m/\i - cs<=m/\m<=n+2/\w=wx)
 case first =>
  rcases hx with rfl | ⟨h1,h2⟩
  ·go_wp2_with fail
   go_meet;exact ⟨n - cs,by go_num,by omega,by omega,rfl⟩
  ·have hx0:decide (0<=x)=true:=qqt (by omega);go_wp2_with fail
   go_meet;exact ⟨(x+2 - cs).toNat,by go_num,by omega,by omega,rfl⟩
 case rest =>
  obtain ⟨m,rfl,hm1,hm2,rfl⟩:=hcut;clear hx;go_wp2_with (at_make;refine wpList_makeB w rfl _ _ rfl w.heap.size _ _ (i - cs) m rfl rfl (by omega) rfl hm1 (by omega) (qqr _) ?_)
  intro w1 xs hown1 hg1;have HO1:=qqh hown1;have HG1:=qqh hg1;clear hown1 hg1;go_wp2_with (refine wpList_copyB w1 rfl _ _ rfl w.heap.size w.heap.size (i - cs) m xs (D.sub (k+cs) (i - cs)) rfl (by exact HO1.out) A _ 0 _ rfl (Doc.sub_length ..) (Rd.doc HVV.out (HD.out.kp (S:=Nil) ((Kp.refl _ _).grown HG1.out (fun _ h => by cases h)) (fun _ _ h => h)) (i - cs) _ _ (by omega)) ?_)
  intro w2 hown2 hg2;have hO0:=qqh hown2;have hK0:Hid (Kp Nil w w2):=Kp.grown (Kp.grown (Kp.refl _ _) HG1.out (fun _ h => by cases h)) hg2 (fun g hg => .inr (by injection hg with hg;omega));clear hown2 hg2 HO1 HG1 HVV hrunv;go_wp2_with fail
  refine wp_loop (fun a wr => ∃ (x v y z t:Value) (F:Nat->Value),a=mk105 pv (.slice (some ⟨bd,q,none⟩) n c) (.int .i64 (cs:Nat)) x v y z t F/\∃ (j:Nat) (acc:List UInt8) (sa:Option Addr) (sl sc:Nat),cs<=j/\j<=n/\acc.length<=j/\x=.int .i64 j/\v=.slice sa sl sc/\Hid (OwnB wr w.heap.size (.slice sa sl sc) acc)/\Hid (linRun D 34 (k+j) acc=r)/\Hid (Kp Nil w wr)) (fun a _ => n - (frI a 3).toNat) ?start ?round
  case start => exact ⟨_,_,_,_,_,_,mk105_of _ rfl,i,D.sub (k+cs) (i - cs),_,_,_,hi,by omega,by rw [Doc.sub_length];omega,rfl,rfl,hO0,HR0,hK0⟩
  clear hO0 hK0 HR0
  case round =>
   rintro _ wr ⟨_,_,y,z,t,F,rfl,j,acc,sa,sl,sc,hj1,hj2,hal,rfl,rfl,hO,HR,hK⟩;refine wp_frame (mk105_eq ..) ?_;have HDr:=qqh (HD.out.kp (S:=Nil) hK.out (fun _ _ h => h));have hsz:=hK.out.size;rcases qqg j n with hlt | hge
   ·have HB:=qqh (VW.cells HV.out HDr.out (by omega));have b0:=HB.out j (by omega);have hcl:=D.lt (k+j);have hnext:∀ (m:Nat) (l:List UInt8),linRun D 34 (k+j) acc=linRun D 34 (k+j+m) (acc++l)->Hid (linRun D 34 (k+(j+m)) (acc++l)=r):=by
     intro m l h;show _=_;rw [<- HR.out,h,Nat.add_assoc]
    by_cases h34:D.c (k+j)=34
    ·have e1:((D.c (k+j):Int) == 34)=true:=(by rw [beq_iff_eq];omega);have hq:=qrun_all D 34 _ (k+j) rfl;have hqn:=qrun_not D 34 (k+j) (by omega);have hfew:=lin_few (D:=D) (q:=34) (p:=k+j) (acc:=acc) (.inl rfl);have hclose:=lin_close (D:=D) (q:=34) (p:=k+j) (acc:=acc) (.inl rfl);have hq1:1<=qrun D 34 (k+j):=(by rw [qrun_go h34 (by omega)];omega);obtain ⟨m,hm⟩:∃ m,qrun D 34 (k+j)=m:=⟨_,rfl⟩;rw [hm] at hq hqn hfew hclose hq1;have hle:=hq.2.1 (by omega);have HQ:=qqh hq.1;have HQN:=qqh hqn;have HF:=qqh hfew;have HCL:=qqh hclose;clear hq hqn hfew hclose hm h34
     go_upto_block 3 with fail
     refine wp_cut (fun a wx => ∃ (z t:Value) (F:Nat->Value),a=mk105 pv (.slice (some ⟨bd,q,none⟩) n c) (.int .i64 (cs:Nat)) (.int .i64 (j:Nat)) (.slice sa sl sc) (.int .i64 ((j+m:Nat):Int)) z t F/\wr=wx) ?rest ?first
     case first =>
      intro _ _ _ _;go_wp2_with fail
      go_loop [16] (fun x => ∃ t:Nat,t<=m/\x=.int .i64 ((j+t:Nat):Int)) (fun x => n - (intOf x).toNat)
      case atStart => exact ⟨0,by omega,rfl⟩
      case round =>
       obtain ⟨t,ht,rfl⟩:=hrel;rcases qqg t m with htm | htm
       ·have bt:=HB.out (j+t) (by omega);have hh:=HQ.out t htm;have e2:((D.c (k+(j+t)):Int) == 34)=true:=(by rw [beq_iff_eq,<- Nat.add_assoc,hh];rfl);clear hh;go_wp2_with fail
        go_round
        case rel => exact ⟨t+1,by omega,by go_num⟩
        case measure => simp [intOf];omega
       ·obtain rfl:t=m:=(by omega);rcases qqg (j+t) n with hl | hl
        ·have bt:=HB.out (j+t) (by omega);have e2:((D.c (k+(j+t)):Int) == 34)=false:=by
          rw [beq_eq_false_iff_ne,<- Nat.add_assoc];have:=HQN.out;omega
         go_wp2_with fail
         refine Met.intro ?_
         go_step
         exact ⟨_,_,_,mk105_of _ rfl,rfl⟩
        ·go_wp2_with fail
         refine Met.intro ?_
         go_step
         exact ⟨_,_,_,mk105_of _ rfl,rfl⟩
     case rest =>
      rintro _ _ ⟨y5,z5,F5,rfl,rfl⟩;dsimp only [mk105];rcases qqg m 3 with hm3 | hm3
      ·have HN:=hnext m (D.sub (k+j) m) (HF.out (by omega));obtain ⟨asl,hvs,hrun⟩:=VW.sub HV.out hC1 j (j+m) j ((j:Int)+(m:Int)) rfl (by omega) (by omega) (by omega);have hrd:Hid (Rd wr A w.heap.size (.slice asl m (c - j)) (D.sub (k+j) m)):=Rd.doc hvs HDr.out m _ _ (by omega);rw [show j+m - j=m by omega] at hrun;clear hvs hnext;go_wp2_with (at_builtin;refine wpList_app_rd rfl _ _ rfl w.heap.size _ acc (D.sub (k+j) m) rfl (by exact hO.out) _ (by exact hrd.out) rfl (by rw [Doc.sub_length];omega) (by omega) ?_)
       intro v' w3 hown3 hg3;obtain ⟨sa',sl',sc',rfl⟩:=IsSl.own hown3;have hO3:=qqh hown3;have hK3:Hid (Kp Nil w w3):=Kp.grown hK.out hg3 (fun g hg => .inr (by have:=hO.out.lt g hg;omega));clear hown3 hg3;go_wp2_with fail
       refine ⟨⟨_,_,_,_,_,_,mk105_of _ rfl,j+m,acc++D.sub (k+j) m,_,_,_,by omega,by omega,by rw [qqa,Doc.sub_length];omega,?_,rfl,hO3,HN,hK3⟩,mu_lt rfl rfl (by omega)⟩;show Value.int .i64 _=_
       go_num
      ·have hr2:=(HR.out).symm.trans (HCL.out hm3);rcases qqg 5 m with hm5 | hm5
       ·obtain ⟨asl,hvs,hrun⟩:=VW.sub HV.out hC1 j (j+m) j ((j:Int)+(m:Int)) rfl (by omega) (by omega) (by omega);have hnext5:=HQ.out 5 hm5;rw [show min m 5=5 by omega] at hr2;have HR2:=qqh hr2;have HN5:=qqh hnext5;clear hvs hnext hr2 hnext5;go_wp2_with fail
        refine (newErr_c _ _ _ _ _ (by omega)).mono ?_;rintro e w1 ⟨⟨v,rfl,hE⟩,hk1⟩;go_wp2_with fail
        refine bodyPost_ret (results_tmp4 rfl _ _ _) rfl ?_;exact .inr ⟨⟨⟨_,rfl,Err.mono hE (by have:=hK.out.size;omega)⟩,Kp.trans hK.out hk1⟩,_,_,HR2.out,.inl HN5.out⟩
       ·rw [show min m 5=m by omega] at hr2;obtain rfl:=hr2;obtain ⟨asl,hvs,hrun⟩:=VW.sub HV.out hC1 j (j+m - 3) j ((j:Int)+((j:Int)+(m:Int) - (j:Int)) - 3) rfl (by omega) (by omega) (by omega);have hrd:Hid (Rd wr A w.heap.size (.slice asl (m - 3) (c - j)) (D.sub (k+j) (m - 3))):=Rd.doc hvs HDr.out (m - 3) _ _ (by omega);rw [show j+m - 3 - j=m - 3 by omega] at hrun;obtain ⟨af,hvf,hrunf⟩:=VW.from_ HV.out hC1 (j+m) ((j:Int)+(m:Int)) (by omega) (by omega);have hrunt:=upto_ (some ⟨bd,q,none⟩) n c (j+m) ((j:Int)+(m:Int)) (by omega) (by omega);have HVF:=qqh hvf;clear hvf hvs hnext;go_wp2_with (at_builtin;refine wpList_app_rd rfl _ _ rfl w.heap.size _ acc (D.sub (k+j) (m - 3)) rfl (by exact hO.out) _ (by exact hrd.out) rfl (by rw [Doc.sub_length];omega) (by omega) ?_)
        intro v' w3 hown3 hg3;obtain ⟨sa',sl',sc',rfl⟩:=IsSl.own hown3;have hO3:=qqh hown3;have hK3:Hid (Kp Nil w w3):=Kp.grown hK.out hg3 (fun g hg => .inr (by have:=hO.out.lt g hg;omega));clear hown3 hg3;go_wp2_with fail
        go_quiet (fail)
        go_wp2_with fail
        refine bodyPost_ret (results_tmp4 rfl _ _ _) rfl ?_;exact .inl ⟨hK3.out.drewN _,_,_,_,_,_,rfl_str (by omega),Rd.own (hO3.out.drewN _),by have:=HVF.out;rw [<- Nat.add_assoc] at this;exact this⟩
    ·have e1:((D.c (k+j):Int) == 34)=false:=qqn (by omega);have h3':¬ three D 34 (k+j):=not_three h34;by_cases h92:D.c (k+j)=92
     ·have e92:((D.c (k+j):Int) == 92)=true:=(by rw [beq_iff_eq];omega);rcases qqg (j+1) n with hl1 | hl1
      ·have b1:=HB.out (j+1) (by omega);obtain ⟨T,hT⟩:∃ T,decide (D.c (k+(j+1))=32\/D.c (k+(j+1))=9\/D.c (k+(j+1))=10\/D.c (k+(j+1))=13)=T:=⟨_,rfl⟩;have HT:=qqh hT;clear hT;go_upto_region 30 with fail;refine wp_cut (fun a wx => ∃ (y z:Value) (F:Nat->Value),a=mk105 pv (.slice (some ⟨bd,q,none⟩) n c) (.int .i64 (cs:Nat)) (.int .i64 ((j:Int)+1)) (.slice sa sl sc) y z (.bool T) F/\wr=wx) ?rest ?first
       case first =>
        intro _ _ _ _;by_cases x32:D.c (k+(j+1))=32
        ·have s32:((D.c (k+(j+1)):Int) == 32)=true:=(by rw [beq_iff_eq];omega);obtain rfl:true=T:=(by rw [<- HT.out];exact (qqt (.inl x32)).symm);clear x32;go_wp2_with fail
         refine Met.intro ?_
         go_step
         exact ⟨_,_,_,mk105_of _ rfl,rfl⟩
        have s32:((D.c (k+(j+1)):Int) == 32)=false:=qqn (by omega);by_cases x9:D.c (k+(j+1))=9
        ·have s9:((D.c (k+(j+1)):Int) == 9)=true:=(by rw [beq_iff_eq];omega);obtain rfl:true=T:=(by rw [<- HT.out];exact (qqt (.inr (.inl x9))).symm);clear x32 x9;go_wp2_with fail
         refine Met.intro ?_
         go_step
         exact ⟨_,_,_,mk105_of _ rfl,rfl⟩
        have s9:((D.c (k+(j+1)):Int) == 9)=false:=qqn (by omega);by_cases x10:D.c (k+(j+1))=10
        ·have s10:((D.c (k+(j+1)):Int) == 10)=true:=(by rw [beq_iff_eq];omega);obtain rfl:true=T:=(by rw [<- HT.out];exact (qqt (.inr (.inr (.inl x10)))).symm);clear x32 x9 x10;go_wp2_with fail
         refine Met.intro ?_
         go_step
         exact ⟨_,_,_,mk105_of _ rfl,rfl⟩
        have s10:((D.c (k+(j+1)):Int) == 10)=false:=qqn (by omega);by_cases x13:D.c (k+(j+1))=13
        ·have s13:((D.c (k+(j+1)):Int) == 13)=true:=(by rw [beq_iff_eq];omega);obtain rfl:true=T:=(by rw [<- HT.out];exact (qqt (.inr (.inr (.inr x13)))).symm);clear x32 x9 x10 x13;go_wp2_with fail
         refine Met.intro ?_
         go_step
         exact ⟨_,_,_,mk105_of _ rfl,rfl⟩
        ·have s13:((D.c (k+(j+1)):Int) == 13)=false:=qqn (by omega);obtain rfl:false=T:=(by rw [<- HT.out];exact (qqf (by omega)).symm);clear x32 x9 x10 x13;go_wp2_with fail
         refine Met.intro ?_
         go_step
         exact ⟨_,_,_,mk105_of _ rfl,rfl⟩
       case rest =>
        rintro _ _ ⟨y5,z5,F5,rfl,rfl⟩;dsimp only [mk105];by_cases hws:D.c (k+(j+1))=32\/D.c (k+(j+1))=9\/D.c (k+(j+1))=10\/D.c (k+(j+1))=13
        ·obtain rfl:true=T:=(by rw [<- HT.out];exact (qqt hws).symm);have hbad:nlen D (wsEnd D (k+(j+1)))=0->R.bad=r:=by
          intro h;rw [<- HR.out,lin_esc (k:=k+j) (by omega) h3' ⟨h92,rfl⟩ (by rw [Nat.add_assoc];exact h),Nat.add_assoc,esc_ws hws]
         have hok:∀ z,nlen D (wsEnd D (k+(j+1))) ≠ 0->wsl D (wsEnd D (k+(j+1))+nlen D (wsEnd D (k+(j+1))))=z->linRun D 34 z acc=r:=by
          intro z h hz;rw [<- HR.out,lin_ws (k:=k+j) (by omega) h3' ⟨h92,rfl⟩ (by rw [Nat.add_assoc];exact h),Nat.add_assoc,hz]
         have hg1:=wsEnd_ge D (k+(j+1));have hg2:=wsEnd_le D (k+(j+1));have hwn:=wsEnd_not D (k+(j+1));obtain ⟨e0,he0⟩:∃ e0,wsEnd D (k+(j+1))=e0:=⟨_,rfl⟩;rw [he0] at hbad hok hg1 hg2 hwn;obtain ⟨e',rfl⟩:∃ e',e0=k+e':=⟨e0 - k,by omega⟩;have HE0:=qqh he0;have HBAD:=qqh hbad;have HOK:=qqh hok;have HWN:=qqh hwn;have hen:e'<=n:=(by omega);have hej:j+1<=e':=(by omega);clear he0 hbad hok hwn hnext h3' h34 h92 hws hg1 hg2 e1 e92
         go_upto_block 5 with fail
         refine wp_cut (fun a wx => ∃ (y t:Value) (F:Nat->Value),a=mk105 pv (.slice (some ⟨bd,q,none⟩) n c) (.int .i64 (cs:Nat)) (.int .i64 ((j:Int)+1)) (.slice sa sl sc) y (.int .i64 (e':Nat)) t F/\wr=wx) ?rest ?first
         case first =>
          intro _ _ _ _;go_wp2_with fail
          go_loop [18] (fun x => ∃ t:Nat,j+1<=t/\t<=n/\x=.int .i64 (t:Nat)/\Hid (wsEnd D (k+t)=k+e')) (fun x => n - (intOf x).toNat)
          case atStart => exact ⟨j+1,by omega,by omega,by go_num,HE0⟩
          case round =>
           obtain ⟨t,ht1,ht2,rfl,HT⟩:=hrel;rcases qqg t n with htm | htm
           ·have bt:=HB.out t (by omega);by_cases x32:D.c (k+t)=32
            ·have t32:((D.c (k+t):Int) == 32)=true:=(by rw [beq_iff_eq];omega);have HT2:Hid (wsEnd D (k+(t+1))=k+e'):=(by show _=_;rw [<- HT.out,wsEnd_go (.inl x32)];rfl);clear x32;go_wp2_with fail
             go_round
             case rel => exact ⟨t+1,by omega,by omega,by go_num,HT2⟩
             case measure => simp [intOf];omega
            have t32:((D.c (k+t):Int) == 32)=false:=qqn (by omega);by_cases x9:D.c (k+t)=9
            ·have t9:((D.c (k+t):Int) == 9)=true:=(by rw [beq_iff_eq];omega);have HT2:Hid (wsEnd D (k+(t+1))=k+e'):=(by show _=_;rw [<- HT.out,wsEnd_go (.inr x9)];rfl);clear x9 x32;go_wp2_with fail
             go_round
             case rel => exact ⟨t+1,by omega,by omega,by go_num,HT2⟩
             case measure => simp [intOf];omega
            ·have t9:((D.c (k+t):Int) == 9)=false:=qqn (by omega);obtain rfl:t=e':=(by have:=HT.out;rw [wsEnd_stop (by omega)] at this;omega);clear x9 x32;go_wp2_with fail
             refine Met.intro ?_
             go_step
             exact ⟨_,_,_,mk105_of _ rfl,rfl⟩
           ·obtain rfl:t=n:=(by omega);obtain rfl:t=e':=by
             have hc0:=D.out (k+t) (by omega);have:=HT.out;rw [wsEnd_stop (by omega)] at this;omega
            go_wp2_with fail
            refine Met.intro ?_
            go_step
            exact ⟨_,_,_,mk105_of _ rfl,rfl⟩
         case rest =>
          rintro _ _ ⟨y5,z5,F5,rfl,rfl⟩;dsimp only [mk105];by_cases hnl:nlen D (k+e')=0
          ·obtain rfl:=HBAD.out hnl;obtain ⟨af,hvf,hrunf⟩:=VW.sub HV.out hC1 j (j+2) ((j:Int)+1 - 1) ((j:Int)+1+1) (by omega) (by omega) (by omega) (by omega);clear hvf;rcases qqg e' n with hl5 | hl5
           ·have be:=HB.out e' (by omega);by_cases x13:D.c (k+e')=13
            ·have y10:D.c (k+(e'+1)) ≠ 10:=fun h => by unfold nlen at hnl;rw [if_neg (by omega),if_pos ⟨x13,h⟩] at hnl;omega
             have t13:((D.c (k+e'):Int) == 13)=true:=(by rw [beq_iff_eq];omega);rcases qqg (e'+1) n with hl6 | hl6
             ·have be1:=HB.out (e'+1) (by omega);have t10:((D.c (k+(e'+1)):Int) != 10)=true:=(by rw [bne_iff_ne];omega);clear x13 y10 hnl;go_wp2_with fail
              refine (newErr_c _ _ _ _ _ (by omega)).mono ?_;rintro e w1 ⟨⟨v,rfl,hE⟩,hk1⟩;go_wp2_with fail
              refine bodyPost_ret (results_tmp4 rfl _ _ _) rfl ?_;exact .inl ⟨⟨_,rfl,Err.mono hE (by have:=hK.out.size;simp;omega)⟩,Kp.trans hK.out hk1⟩
             ·clear x13 y10 hnl;go_wp2_with fail
              refine (newErr_c _ _ _ _ _ (by omega)).mono ?_;rintro e w1 ⟨⟨v,rfl,hE⟩,hk1⟩;go_wp2_with fail
              refine bodyPost_ret (results_tmp4 rfl _ _ _) rfl ?_;exact .inl ⟨⟨_,rfl,Err.mono hE (by have:=hK.out.size;simp;omega)⟩,Kp.trans hK.out hk1⟩
            ·have y10:D.c (k+e') ≠ 10:=fun h => by unfold nlen at hnl;rw [if_pos h] at hnl;omega
             have t13:((D.c (k+e'):Int) == 13)=false:=qqn (by omega);have t10:((D.c (k+e'):Int) != 10)=true:=(by rw [bne_iff_ne];omega);clear x13 y10 hnl;go_wp2_with fail
             refine (newErr_c _ _ _ _ _ (by omega)).mono ?_;rintro e w1 ⟨⟨v,rfl,hE⟩,hk1⟩;go_wp2_with fail
             refine bodyPost_ret (results_tmp4 rfl _ _ _) rfl ?_;exact .inl ⟨⟨_,rfl,Err.mono hE (by have:=hK.out.size;simp;omega)⟩,Kp.trans hK.out hk1⟩
           ·clear hnl;go_wp2_with fail
            refine (newErr_c _ _ _ _ _ (by omega)).mono ?_;rintro e w1 ⟨⟨v,rfl,hE⟩,hk1⟩;go_wp2_with fail
            refine bodyPost_ret (results_tmp4 rfl _ _ _) rfl ?_;exact .inl ⟨⟨_,rfl,Err.mono hE (by have:=hK.out.size;simp;omega)⟩,Kp.trans hK.out hk1⟩
          ·have hok2:=fun z => HOK.out z hnl
           have hin9:=nlen_inq hnl;have hwl:=wsl_le D (k+e'+nlen D (k+e')) (by omega);have hwg:=wsl_ge D (k+e'+nlen D (k+e'));obtain ⟨z,hz⟩:∃ z,wsl D (k+e'+nlen D (k+e'))=z:=⟨_,rfl⟩;have HN:=qqh (hok2 z hz);rw [hz] at hwl hwg;have be:=HB.out e' (by omega);rcases nlen_cases hnl with ⟨x10,hn1⟩ | ⟨x13,x10,hn2⟩
           ·rw [hn1] at hz hwg hin9;have HZ:Hid (wsl D (k+(e'+1))=z):=hz;have t13:((D.c (k+e'):Int) == 13)=false:=qqn (by omega);have t10:((D.c (k+e'):Int) != 10)=false:=(by rw [bne_eq_false_iff_eq];omega);clear x10 hn1 hz hok2 hnl;obtain ⟨z',rfl⟩:∃ z',z=k+z':=⟨z - k,by omega⟩;have hz4:z'<=n:=by omega
            go_upto_block 7 with fail
            refine wp_cut (fun a wx => ∃ (y t:Value) (F:Nat->Value),a=mk105 pv (.slice (some ⟨bd,q,none⟩) n c) (.int .i64 (cs:Nat)) (.int .i64 ((j:Int)+1)) (.slice sa sl sc) y (.int .i64 (z':Nat)) t F/\wr=wx) ?rest ?first
            case first =>
             intro _ _ _ _;go_wp2_with fail
             go_loop [18] (fun x => ∃ t:Nat,e'+1<=t/\t<=n/\x=.int .i64 (t:Nat)/\Hid (wsl D (k+t)=k+z')) (fun x => n - (intOf x).toNat)
             case atStart => exact ⟨e'+1,by omega,by omega,by go_num,HZ⟩
             case round =>
              obtain ⟨t,ht1,ht2,rfl,HT⟩:=hrel;rcases qqg t n with htm | htm
              ·have bt:=HB.out t (by omega);by_cases x32:D.c (k+t)=32
               ·have t32:((D.c (k+t):Int) == 32)=true:=(by rw [beq_iff_eq];omega);have HT2:Hid (wsl D (k+(t+1))=k+z'):=(by show _=_;rw [<- HT.out,wsl_ws (.inl x32)];rfl);have t13:((D.c (k+t):Int) == 13)=false:=qqn (by omega);clear x32;go_wp2_with fail
                go_round
                case rel => exact ⟨t+1,by omega,by omega,by go_num,HT2⟩
                case measure => simp [intOf];omega
               have t32:((D.c (k+t):Int) == 32)=false:=qqn (by omega);by_cases x9:D.c (k+t)=9
               ·have t9:((D.c (k+t):Int) == 9)=true:=(by rw [beq_iff_eq];omega);have HT2:Hid (wsl D (k+(t+1))=k+z'):=(by show _=_;rw [<- HT.out,wsl_ws (.inr x9)];rfl);have t13:((D.c (k+t):Int) == 13)=false:=qqn (by omega);clear x9 x32;go_wp2_with fail
                go_round
                case rel => exact ⟨t+1,by omega,by omega,by go_num,HT2⟩
                case measure => simp [intOf];omega
               have t9:((D.c (k+t):Int) == 9)=false:=qqn (by omega);by_cases x10:D.c (k+t)=10
               ·have t10:((D.c (k+t):Int) == 10)=true:=(by rw [beq_iff_eq];omega);have HT2:Hid (wsl D (k+(t+1))=k+z'):=(by show _=_;rw [<- HT.out,wsl_nl x10];rfl);have t13:((D.c (k+t):Int) == 13)=false:=qqn (by omega);clear x9 x32 x10;go_wp2_with fail
                go_round
                case rel => exact ⟨t+1,by omega,by omega,by go_num,HT2⟩
                case measure => simp [intOf];omega
               have t10:((D.c (k+t):Int) == 10)=false:=qqn (by omega);by_cases x13:D.c (k+t)=13
               ·have t13:((D.c (k+t):Int) == 13)=true:=(by rw [beq_iff_eq];omega);by_cases y10:D.c (k+(t+1))=10
                ·have hin:=Doc.in_of (D:=D) (k:=k+(t+1)) (by omega);have bt1:=HB.out (t+1) (by omega);have t1n:((D.c (k+(t+1)):Int) != 10)=false:=(by rw [bne_eq_false_iff_eq];omega);have HT2:Hid (wsl D (k+(t+2))=k+z'):=(by show _=_;rw [<- HT.out,wsl_crnl ⟨x13,y10⟩];rfl);clear x9 x32 x10 x13 y10;go_wp2_with fail
                 go_round
                 case rel => exact ⟨t+2,by omega,by omega,by go_num,HT2⟩
                 case measure => simp [intOf];omega
                ·obtain rfl:t=z':=(by have:=HT.out;rw [wsl_stop (by omega) (nlen_0 x10 (fun h => y10 h.2))] at this;omega);rcases qqg (t+1) n with hl3 | hl3
                 ·have bt1:=HB.out (t+1) (by omega);have t1n:((D.c (k+(t+1)):Int) != 10)=true:=(by rw [bne_iff_ne];omega);clear x9 x32 x10 x13 y10;go_wp2_with fail
                  refine Met.intro ?_
                  go_step
                  exact ⟨_,_,_,mk105_of _ rfl,rfl⟩
                 ·clear x9 x32 x10 x13 y10;go_wp2_with fail
                  refine Met.intro ?_
                  go_step
                  exact ⟨_,_,_,mk105_of _ rfl,rfl⟩
               ·have t13:((D.c (k+t):Int) == 13)=false:=qqn (by omega);obtain rfl:t=z':=(by have:=HT.out;rw [wsl_stop (by omega) (nlen_0 x10 (fun h => x13 h.1))] at this;omega);clear x9 x32 x10 x13;go_wp2_with fail
                refine Met.intro ?_
                go_step
                exact ⟨_,_,_,mk105_of _ rfl,rfl⟩
              ·obtain rfl:t=n:=(by omega);obtain rfl:t=z':=by
                have hc0:=D.out (k+t) (by omega);have:=HT.out;rw [wsl_stop (by omega) (nlen_0 (by omega) (fun h => by omega))] at this;omega
               go_wp2_with fail
               refine Met.intro ?_
               go_step
               exact ⟨_,_,_,mk105_of _ rfl,rfl⟩
            case rest =>
             rintro _ _ ⟨y5,z5,F5,rfl,rfl⟩;dsimp only [mk105];go_wp2_with fail
             exact ⟨⟨_,_,_,_,_,_,mk105_of _ rfl,z',acc,_,_,_,by omega,by omega,by omega,rfl,rfl,hO,HN,hK⟩,mu_lt rfl rfl (by omega)⟩
           ·rw [hn2] at hz hwg hin9;rw [Nat.add_assoc] at x10;have HZ:Hid (wsl D (k+(e'+2))=z):=hz;have be1:=HB.out (e'+1) (by omega);have t13:((D.c (k+e'):Int) == 13)=true:=(by rw [beq_iff_eq];omega);have t10:((D.c (k+(e'+1)):Int) != 10)=false:=(by rw [bne_eq_false_iff_eq];omega);clear x10 x13 hn2 hz hok2 hnl;obtain ⟨z',rfl⟩:∃ z',z=k+z':=⟨z - k,by omega⟩;have hz4:z'<=n:=by omega
            go_upto_block 7 with fail
            refine wp_cut (fun a wx => ∃ (y t:Value) (F:Nat->Value),a=mk105 pv (.slice (some ⟨bd,q,none⟩) n c) (.int .i64 (cs:Nat)) (.int .i64 ((j:Int)+1)) (.slice sa sl sc) y (.int .i64 (z':Nat)) t F/\wr=wx) ?rest ?first
            case first =>
             intro _ _ _ _;go_wp2_with fail
             go_loop [18] (fun x => ∃ t:Nat,e'+2<=t/\t<=n/\x=.int .i64 (t:Nat)/\Hid (wsl D (k+t)=k+z')) (fun x => n - (intOf x).toNat)
             case atStart => exact ⟨e'+2,by omega,by omega,by go_num,HZ⟩
             case round =>
              obtain ⟨t,ht1,ht2,rfl,HT⟩:=hrel;rcases qqg t n with htm | htm
              ·have bt:=HB.out t (by omega);by_cases x32:D.c (k+t)=32
               ·have t32:((D.c (k+t):Int) == 32)=true:=(by rw [beq_iff_eq];omega);have HT2:Hid (wsl D (k+(t+1))=k+z'):=(by show _=_;rw [<- HT.out,wsl_ws (.inl x32)];rfl);have t13:((D.c (k+t):Int) == 13)=false:=qqn (by omega);clear x32;go_wp2_with fail
                go_round
                case rel => exact ⟨t+1,by omega,by omega,by go_num,HT2⟩
                case measure => simp [intOf];omega
               have t32:((D.c (k+t):Int) == 32)=false:=qqn (by omega);by_cases x9:D.c (k+t)=9
               ·have t9:((D.c (k+t):Int) == 9)=true:=(by rw [beq_iff_eq];omega);have HT2:Hid (wsl D (k+(t+1))=k+z'):=(by show _=_;rw [<- HT.out,wsl_ws (.inr x9)];rfl);have t13:((D.c (k+t):Int) == 13)=false:=qqn (by omega);clear x9 x32;go_wp2_with fail
                go_round
                case rel => exact ⟨t+1,by omega,by omega,by go_num,HT2⟩
                case measure => simp [intOf];omega
               have t9:((D.c (k+t):Int) == 9)=false:=qqn (by omega);by_cases x10:D.c (k+t)=10
               ·have t10:((D.c (k+t):Int) == 10)=true:=(by rw [beq_iff_eq];omega);have HT2:Hid (wsl D (k+(t+1))=k+z'):=(by show _=_;rw [<- HT.out,wsl_nl x10];rfl);have t13:((D.c (k+t):Int) == 13)=false:=qqn (by omega);clear x9 x32 x10;go_wp2_with fail
                go_round
                case rel => exact ⟨t+1,by omega,by omega,by go_num,HT2⟩
                case measure => simp [intOf];omega
               have t10:((D.c (k+t):Int) == 10)=false:=qqn (by omega);by_cases x13:D.c (k+t)=13
               ·have t13:((D.c (k+t):Int) == 13)=true:=(by rw [beq_iff_eq];omega);by_cases y10:D.c (k+(t+1))=10
                ·have hin:=Doc.in_of (D:=D) (k:=k+(t+1)) (by omega);have bt1:=HB.out (t+1) (by omega);have t1n:((D.c (k+(t+1)):Int) != 10)=false:=(by rw [bne_eq_false_iff_eq];omega);have HT2:Hid (wsl D (k+(t+2))=k+z'):=(by show _=_;rw [<- HT.out,wsl_crnl ⟨x13,y10⟩];rfl);clear x9 x32 x10 x13 y10;go_wp2_with fail
                 go_round
                 case rel => exact ⟨t+2,by omega,by omega,by go_num,HT2⟩
                 case measure => simp [intOf];omega
                ·obtain rfl:t=z':=(by have:=HT.out;rw [wsl_stop (by omega) (nlen_0 x10 (fun h => y10 h.2))] at this;omega);rcases qqg (t+1) n with hl3 | hl3
                 ·have bt1:=HB.out (t+1) (by omega);have t1n:((D.c (k+(t+1)):Int) != 10)=true:=(by rw [bne_iff_ne];omega);clear x9 x32 x10 x13 y10;go_wp2_with fail
                  refine Met.intro ?_
                  go_step
                  exact ⟨_,_,_,mk105_of _ rfl,rfl⟩
                 ·clear x9 x32 x10 x13 y10;go_wp2_with fail
                  refine Met.intro ?_
                  go_step
                  exact ⟨_,_,_,mk105_of _ rfl,rfl⟩
               ·have t13:((D.c (k+t):Int) == 13)=false:=qqn (by omega);obtain rfl:t=z':=(by have:=HT.out;rw [wsl_stop (by omega) (nlen_0 x10 (fun h => x13 h.1))] at this;omega);clear x9 x32 x10 x13;go_wp2_with fail
                refine Met.intro ?_
                go_step
                exact ⟨_,_,_,mk105_of _ rfl,rfl⟩
              ·obtain rfl:t=n:=(by omega);obtain rfl:t=z':=by
                have hc0:=D.out (k+t) (by omega);have:=HT.out;rw [wsl_stop (by omega) (nlen_0 (by omega) (fun h => by omega))] at this;omega
               go_wp2_with fail
               refine Met.intro ?_
               go_step
               exact ⟨_,_,_,mk105_of _ rfl,rfl⟩
            case rest =>
             rintro _ _ ⟨y5,z5,F5,rfl,rfl⟩;dsimp only [mk105];go_wp2_with fail
             exact ⟨⟨_,_,_,_,_,_,mk105_of _ rfl,z',acc,_,_,_,by omega,by omega,by omega,rfl,rfl,hO,HN,hK⟩,mu_lt rfl rfl (by omega)⟩
        ·obtain rfl:false=T:=(by rw [<- HT.out];exact (qqf hws).symm);have hst:Hid (r=match esc D (k+(j+1)) with | .good l k' => linRun D 34 k' (acc++l) | .bad => .bad | .opn => .opn):=by
          show _=_;rw [<- HR.out];exact lin_esc (by omega) h3' ⟨h92,rfl⟩ (by rw [Nat.add_assoc,wsEnd_stop (by omega)];exact nlen_0 (by omega) (by omega))
         clear h34 h92 h3' hnext hws;obtain ⟨er,her⟩:∃ er,esc D (k+(j+1))=er:=⟨_,rfl⟩;have hesn:esc D (k+(j+1)) ≠ .opn:=by
          intro h;have h1:=hst.out;rw [h] at h1;exact HNO.out h1
         have HEN:=qqh hesn;have HER:=qqh her;clear hesn her;go_wp2_with fail
         refine (unesc_c D A _ C k n c (j+1) w.heap.size _ acc _ (by exact HDr.out) HV.out (by omega) hl1 (by exact hO.out) (by omega) (by omega) HEN.out).mono ?_;intro e w3 hup;rw [HER.out] at hup;have HUP:=qqh hup;clear hup;cases er with
         | good s p =>
          have hin:=esc_in D _ _ _ HER.out;have hel:=esc_len D _ _ _ HER.out;obtain ⟨⟨v',rfl,hown3⟩,hk3⟩:=HUP.out;obtain ⟨sa',sl',sc',rfl⟩:=IsSl.own hown3;have hO3:=qqh hown3;have hK3:Hid (Kp Nil w w3):=Kp.then hK.out hk3 (fun g hg => .inr (by have:=hO.out.lt g hg.symm;omega));have HN:Hid (linRun D 34 p (acc++s)=r):=(by show _=_;rw [hst.out,HER.out]);obtain ⟨p',rfl⟩:∃ p',p=k+p':=⟨p - k,by omega⟩;rw [show k+p' - k=p' by omega];clear hown3 hk3;go_wp2_with fail
          refine ⟨⟨_,_,_,_,_,_,mk105_of _ rfl,p',acc++s,_,_,_,by omega,by omega,by rw [qqa];omega,?_,rfl,hO3,HN,hK3⟩,mu_lt rfl rfl (by omega)⟩;show Value.int .i64 _=_
          go_num
         | bad =>
          obtain ⟨⟨v,rfl,hE⟩,hk1⟩:=HUP.out;obtain rfl:R.bad=r:=(by rw [hst.out,HER.out]);obtain ⟨b,rfl⟩:=Err.ptr hE;have HE:=qqh hE;clear hE;go_wp2_with fail
          refine bodyPost_ret (results_tmp4 rfl _ _ _) rfl ?_;exact .inl ⟨⟨_,rfl,Err.mono HE.out (by omega)⟩,Kp.trans hK.out hk1⟩
         | opn => exact absurd HER.out HEN.out
      ·obtain rfl:R.bad=r:=by
        rw [<- HR.out,lin_esc (k:=k+j) (by omega) h3' ⟨h92,rfl⟩ (by rw [Nat.add_assoc];have hc0:=D.out (k+(j+1)) (by omega);rw [wsEnd_stop (by omega)];exact nlen_0 (by omega) (by omega)),Nat.add_assoc,esc_past (by omega)]
       obtain ⟨af,hvf,hrunf⟩:=VW.from_ HV.out hC1 j ((j:Int)+1 - 1) (by omega) (by omega);clear hvf hnext;go_wp2_with fail
       refine (newErr_c _ _ _ _ _ (by omega)).mono ?_;rintro e w1 ⟨⟨v,rfl,hE⟩,hk1⟩;go_wp2_with fail
       refine bodyPost_ret (results_tmp4 rfl _ _ _) rfl ?_;exact .inl ⟨⟨_,rfl,Err.mono hE (by have:=hK.out.size;simp;omega)⟩,Kp.trans hK.out hk1⟩
     ·have e92:((D.c (k+j):Int) == 92)=false:=qqn (by omega);rcases qqg (D.c (k+j)) 128 with hc | hc
      ·obtain ⟨x0,h0⟩:∃ x,UInt8.ofNat (D.c (k+j))=x:=⟨_,rfl⟩;have t0:x0.toNat=D.c (k+j):=(by rw [<- h0];exact Doc.toNat_ofNat ..);have T0:=qqh t0;have hs1:D.sub (k+j) 1=[x0]:=(by rw [sub_one D (k+j) _ rfl,h0]);have HS1:=qqh hs1;have H0:=qqh h0;clear t0 h0 hs1;by_cases hpl:32<=D.c (k+j)/\D.c (k+j)<127
       ·have e2:decide (32<=(D.c (k+j):Int))=true:=qqt (by omega);have e3:decide ((D.c (k+j):Int)<127)=true:=qqt (by omega);have HN:=hnext 1 [x0] (by rw [<- HS1.out];exact lin_one (by omega) (sg_plain hpl) h3' (fun h => h92 h.1) (by omega));clear hpl hc hnext h34 h92 h3';go_wp2_with (at_builtin;refine wpList_app_bytes rfl _ _ rfl w.heap.size _ acc [x0] rfl (by exact own_alloc hO.out _) wr.heap.size 0 _ rfl ?c1 ?c2 ?c3 ?_)
        case c1 =>
         intro t ht;rw [cell_newI (by simp)]
         match t,ht with
         | 0,_ => simp [T0.out]
        case c2 => simp;omega
        case c3 => simp;omega
        intro v' w3 hown3 hg3;obtain ⟨sa',sl',sc',rfl⟩:=IsSl.own hown3;have hO3:=qqh hown3;have hK3:Hid (Kp Nil w w3):=Kp.grown (Kp.alloc hK.out _) hg3 (fun g hg => .inr (by have:=hO.out.lt g hg;omega));clear hown3 hg3;go_wp2_with fail
        refine ⟨⟨_,_,_,_,_,_,mk105_of _ rfl,j+1,acc++[x0],_,_,_,by omega,by omega,by rw [qqa];simp;omega,?_,rfl,hO3,HN,hK3⟩,mu_lt rfl rfl (by omega)⟩;show Value.int .i64 _=_
        go_num
       ·by_cases h9:D.c (k+j)=9
        ·have e2:decide (32<=(D.c (k+j):Int))=false:=qqf (by omega);have e4:((D.c (k+j):Int) == 9)=true:=(by rw [beq_iff_eq];omega);have HN:=hnext 1 [x0] (by rw [<- HS1.out];exact lin_one (by omega) (sg_tab h9) h3' (fun h => h92 h.1) (by omega));clear hpl hc hnext h34 h92 h3' h9;go_wp2_with (at_builtin;refine wpList_app_bytes rfl _ _ rfl w.heap.size _ acc [x0] rfl (by exact own_alloc hO.out _) wr.heap.size 0 _ rfl ?c1 ?c2 ?c3 ?_)
         case c1 =>
          intro t ht;rw [cell_newI (by simp)]
          match t,ht with
          | 0,_ => simp [T0.out]
         case c2 => simp;omega
         case c3 => simp;omega
         intro v' w3 hown3 hg3;obtain ⟨sa',sl',sc',rfl⟩:=IsSl.own hown3;have hO3:=qqh hown3;have hK3:Hid (Kp Nil w w3):=Kp.grown (Kp.alloc hK.out _) hg3 (fun g hg => .inr (by have:=hO.out.lt g hg;omega));clear hown3 hg3;go_wp2_with fail
         refine ⟨⟨_,_,_,_,_,_,mk105_of _ rfl,j+1,acc++[x0],_,_,_,by omega,by omega,by rw [qqa];simp;omega,?_,rfl,hO3,HN,hK3⟩,mu_lt rfl rfl (by omega)⟩;show Value.int .i64 _=_
         go_num
        ·have e4:((D.c (k+j):Int) == 9)=false:=qqn (by omega);by_cases h10:D.c (k+j)=10
         ·have e2:decide (32<=(D.c (k+j):Int))=false:=qqf (by omega);have e5:((D.c (k+j):Int) == 10)=true:=(by rw [beq_iff_eq];omega);have HN:=hnext 1 [x0] (by rw [<- HS1.out];exact lin_nl' h10 (by omega));clear hpl hc hnext h34 h92 h3' h9 h10;go_wp2_with (at_builtin;refine wpList_app_bytes rfl _ _ rfl w.heap.size _ acc [x0] rfl (by exact own_alloc hO.out _) wr.heap.size 0 _ rfl ?c1 ?c2 ?c3 ?_)
          case c1 =>
           intro t ht;rw [cell_newI (by simp)]
           match t,ht with
           | 0,_ => simp [T0.out]
          case c2 => simp;omega
          case c3 => simp;omega
          intro v' w3 hown3 hg3;obtain ⟨sa',sl',sc',rfl⟩:=IsSl.own hown3;have hO3:=qqh hown3;have hK3:Hid (Kp Nil w w3):=Kp.grown (Kp.alloc hK.out _) hg3 (fun g hg => .inr (by have:=hO.out.lt g hg;omega));clear hown3 hg3;go_wp2_with fail
          refine ⟨⟨_,_,_,_,_,_,mk105_of _ rfl,j+1,acc++[x0],_,_,_,by omega,by omega,by rw [qqa];simp;omega,?_,rfl,hO3,HN,hK3⟩,mu_lt rfl rfl (by omega)⟩;show Value.int .i64 _=_
          go_num
         ·have e5:((D.c (k+j):Int) == 10)=false:=qqn (by omega);obtain ⟨asl,hvs,hrun⟩:=VW.sub HV.out hC1 j (j+1) j ((j:Int)+1) rfl (by omega) (by omega) (by omega);clear hvs;by_cases h13:D.c (k+j)=13
          ·have e2:decide (32<=(D.c (k+j):Int))=false:=qqf (by omega);have e6:((D.c (k+j):Int) == 13)=true:=(by rw [beq_iff_eq];omega);by_cases hnx:D.c (k+(j+1))=10
           ·have hin:=Doc.in_of (D:=D) (k:=k+(j+1)) (by omega);have b1:=HB.out (j+1) (by omega);have e7:((D.c (k+(j+1)):Int) == 10)=true:=(by rw [beq_iff_eq];omega);obtain ⟨x1,h1⟩:∃ x,UInt8.ofNat (D.c (k+(j+1)))=x:=⟨_,rfl⟩;have T0':Hid (x0.toNat=13):=(by show _=_;rw [T0.out,h13]);have T1:Hid (x1.toNat=10):=(by show _=_;rw [<- h1,hnx];rfl);have hs2:D.sub (k+j) 2=[x0,x1]:=(by rw [Doc.sub_succ,Doc.sub_succ,Doc.sub_zero,H0.out,show k+j+1=k+(j+1) by omega,h1]);have HN:=hnext 2 [x0,x1] (by rw [<- hs2];exact lin_crnl' ⟨h13,hnx⟩ (by omega));clear hpl hc hnext h34 h92 h3' h9 h10 h13 hnx hrun hs2 h1;go_wp2_with (at_builtin;refine wpList_app_bytes rfl _ _ rfl w.heap.size _ acc [x0,x1] rfl (by exact own_alloc hO.out _) wr.heap.size 0 _ rfl ?c1 ?c2 ?c3 ?_)
            case c1 =>
             intro t ht;rw [cell_newI (by simp)]
             match t,ht with
             | 0,_ => simp [T0'.out]
             | 1,_ => simp [T1.out]
            case c2 => simp;omega
            case c3 => simp;omega
            intro v' w3 hown3 hg3;obtain ⟨sa',sl',sc',rfl⟩:=IsSl.own hown3;have hO3:=qqh hown3;have hK3:Hid (Kp Nil w w3):=Kp.grown (Kp.alloc hK.out _) hg3 (fun g hg => .inr (by have:=hO.out.lt g hg;omega));clear hown3 hg3;go_wp2_with fail
            refine ⟨⟨_,_,_,_,_,_,mk105_of _ rfl,j+2,acc++[x0,x1],_,_,_,by omega,by omega,by rw [qqa];simp;omega,?_,rfl,hO3,HN,hK3⟩,mu_lt rfl rfl (by omega)⟩;show Value.int .i64 _=_
            go_num
           ·obtain rfl:R.bad=r:=(by rw [<- HR.out];exact (lin_bad (by omega) h3' (fun h => h92 h.1) h10 (fun h => hnx h.2) (sg_low hc (by omega))).symm);clear hnext;rcases qqg (j+1) n with hl3 | hl3
            ·have b1:=HB.out (j+1) (by omega);have e7:((D.c (k+(j+1)):Int) == 10)=false:=qqn (by omega);clear hpl hc h34 h92 h9 h10 h3' h13 hnx;go_wp2_with fail
             refine (newErr_c _ _ _ _ _ (by omega)).mono ?_;rintro e w1 ⟨⟨v,rfl,hE⟩,hk1⟩;go_wp2_with fail
             refine bodyPost_ret (results_tmp4 rfl _ _ _) rfl ?_;exact .inl ⟨⟨_,rfl,Err.mono hE (by have:=hK.out.size;simp;omega)⟩,Kp.trans hK.out hk1⟩
            ·clear hpl hc h34 h92 h9 h10 h3' h13 hnx;go_wp2_with fail
             refine (newErr_c _ _ _ _ _ (by omega)).mono ?_;rintro e w1 ⟨⟨v,rfl,hE⟩,hk1⟩;go_wp2_with fail
             refine bodyPost_ret (results_tmp4 rfl _ _ _) rfl ?_;exact .inl ⟨⟨_,rfl,Err.mono hE (by have:=hK.out.size;simp;omega)⟩,Kp.trans hK.out hk1⟩
          ·have e6:((D.c (k+j):Int) == 13)=false:=qqn (by omega);have e8:decide ((D.c (k+j):Int)<128)=true:=qqt (by omega);obtain rfl:R.bad=r:=(by rw [<- HR.out];exact (lin_bad (by omega) h3' (fun h => h92 h.1) h10 (fun h => h13 h.1) (sg_low hc (by omega))).symm);clear hnext;rcases qqg (D.c (k+j)) 32 with h | h
           ·have e2:decide (32<=(D.c (k+j):Int))=false:=qqf (by omega);clear h34 h92 hpl h9 h10 h13 hc h3';go_wp2_with fail
            refine (newErr_c _ _ _ _ _ (by omega)).mono ?_;rintro e w1 ⟨⟨v,rfl,hE⟩,hk1⟩;go_wp2_with fail
            refine bodyPost_ret (results_tmp4 rfl _ _ _) rfl ?_;exact .inl ⟨⟨_,rfl,Err.mono hE (by have:=hK.out.size;simp;omega)⟩,Kp.trans hK.out hk1⟩
           ·have e2:decide (32<=(D.c (k+j):Int))=true:=qqt (by omega);have e3:decide ((D.c (k+j):Int)<127)=false:=qqf (by omega);clear h34 h92 hpl h9 h10 h13 hc h3';go_wp2_with fail
            refine (newErr_c _ _ _ _ _ (by omega)).mono ?_;rintro e w1 ⟨⟨v,rfl,hE⟩,hk1⟩;go_wp2_with fail
            refine bodyPost_ret (results_tmp4 rfl _ _ _) rfl ?_;exact .inl ⟨⟨_,rfl,Err.mono hE (by have:=hK.out.size;simp;omega)⟩,Kp.trans hK.out hk1⟩
      ·have e2:decide (32<=(D.c (k+j):Int))=true:=qqt (by omega);have e3:decide ((D.c (k+j):Int)<127)=false:=qqf (by omega);have e4:((D.c (k+j):Int) == 9)=false:=qqn (by omega);have e5:((D.c (k+j):Int) == 10)=false:=qqn (by omega);have e6:((D.c (k+j):Int) == 13)=false:=qqn (by omega);have e7:decide ((D.c (k+j):Int)<128)=false:=qqf (by omega);have hu:=lin_utf D 34 (by omega) _ (k+j) acc rfl;have hug:=utf_ge D _ (k+j) rfl;cases hu2:(utf D (k+j)).2 with
       | true =>
        have hgt:=utf_gt (j:=k+j) (by omega) hc hu2;rw [hu2,if_pos rfl] at hu;have HU2:=qqh hu2;have hle:=hug.2 (by omega);obtain ⟨p,hp⟩:∃ p,(utf D (k+j)).1=p:=⟨_,rfl⟩;rw [hp] at hgt hle hu;have HP:=qqh hp;obtain ⟨i2,rfl⟩:∃ i2,p=k+i2:=⟨p - k,by omega⟩;obtain ⟨asl2,hvs2,hrun2⟩:=VW.sub HV.out hC1 j i2 j (i2:Int) rfl rfl (by omega) (by omega);have hi3:j<i2/\i2<=n:=(by omega);have hrd:Hid (Rd wr A w.heap.size (.slice asl2 (i2 - j) (c - j)) (D.sub (k+j) (i2 - j))):=Rd.doc hvs2 HDr.out (i2 - j) _ _ (by omega);have HN:Hid (linRun D 34 (k+i2) (acc++D.sub (k+j) (i2 - j))=r):=by
         show _=_;rw [<- HR.out,hu,show k+i2 - (k+j)=i2 - j by omega]
        clear hu hu2 hp hug hc hvs2 h34 h92 hgt hle hnext h3';go_wp2_with fail
        refine (utf_c D A _ C k n c j _ (by exact HDr.out) HV.out (by omega)).mono ?_;rintro e wr ⟨rfl,rfl⟩;rw [HU2.out,HP.out,show k+i2 - k=i2 by omega];clear HU2 HP;go_wp2_with (at_builtin;refine wpList_app_rd rfl _ _ rfl w.heap.size _ acc (D.sub (k+j) (i2 - j)) rfl (by exact hO.out) _ (by exact hrd.out) rfl (by rw [Doc.sub_length];omega) (by omega) ?_)
        intro v' w3 hown3 hg3;obtain ⟨sa',sl',sc',rfl⟩:=IsSl.own hown3;have hO3:=qqh hown3;have hK3:Hid (Kp Nil w w3):=Kp.grown hK.out hg3 (fun g hg => .inr (by have:=hO.out.lt g hg;omega));clear hown3 hg3;go_wp2_with fail
        refine ⟨⟨_,_,_,_,_,_,mk105_of _ rfl,i2,acc++D.sub (k+j) (i2 - j),_,_,_,by omega,by omega,by rw [qqa,Doc.sub_length];omega,?_,rfl,hO3,HN,hK3⟩,mu_lt rfl rfl (by omega)⟩;show Value.int .i64 _=_
        go_num
       | false =>
        rw [hu2,if_neg (by simp)] at hu;obtain rfl:R.bad=r:=hu.symm.trans HR.out;have HU2:=qqh hu2;obtain ⟨asl,hvs,hrun⟩:=VW.sub HV.out hC1 j (j+1) j ((j:Int)+1) rfl (by omega) (by omega) (by omega);clear hu hu2 hug hc h34 h92 hvs h3' hnext;go_wp2_with fail
        refine (utf_c D A _ C k n c j _ (by exact HDr.out) HV.out (by omega)).mono ?_;rintro e wr ⟨rfl,rfl⟩;rw [HU2.out];go_wp2_with fail
        refine (newErr_c _ _ _ _ _ (by omega)).mono ?_;rintro e w1 ⟨⟨v,rfl,hE⟩,hk1⟩;go_wp2_with fail
        refine bodyPost_ret (results_tmp4 rfl _ _ _) rfl ?_;exact .inl ⟨⟨_,rfl,Err.mono hE (by have:=hK.out.size;simp;omega)⟩,Kp.trans hK.out hk1⟩
   ·obtain rfl:j=n:=(by omega);obtain ⟨af,hvf,hrunf⟩:=VW.from_ HV.out hC1 j j rfl (by omega);obtain rfl:R.bad=r:=(by rw [<- HR.out];exact (lin_stop (by omega)).symm);clear hvf;go_wp2_with fail
    refine (newErr_c _ _ _ _ _ (by omega)).mono ?_;rintro e w1 ⟨⟨v,rfl,hE⟩,hk1⟩;go_wp2_with fail
    refine bodyPost_ret (results_tmp4 rfl _ _ _) rfl ?_;exact .inl ⟨⟨_,rfl,Err.mono hE (by have:=hK.out.size;simp;omega)⟩,Kp.trans hK.out hk1⟩
end Go.Proofs.YtpgmddjgcgpoeaaGreat
