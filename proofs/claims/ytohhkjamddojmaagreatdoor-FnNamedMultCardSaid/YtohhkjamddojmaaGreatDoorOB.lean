/- Addition in Jacobian coordinates on the curves of bitcurves: the steps as the program takes them. -/
import Derived.Test.YtohhkjamddojmaaGreatDoorOA
set_option maxRecDepth 100000
set_option maxHeartbeats 16000000
namespace Go.Proofs.YtohhkjamddojmaaGreatDoor.Big
open Go.RowKit
attribute [local go_sem] ptr
theorem sz_lshB {n:Nat} {a:Int} (s:Nat) (h:Sz n a):Sz (n+s) (a*2^s):=by
 unfold Sz at *
 rw[lsh_abs,Nat.pow_add]
 exact Nat.mul_lt_mul_of_pos_right h (Nat.pow_pos (by decide))
theorem sz_fixB {n:Nat} {a p:Int} (h:Sz n a) (k:Sz n p):Sz (n+1) (if a<0 then a+p else a):=by
 split
 . exact h.add k
 . exact h.le (Nat.le_succ n)
theorem sign_neB {a:Int} (h:¬a<0):a.sign≠-1:=λe=>h (Int.sign_eq_neg_one_iff_neg.1 e)
attribute [local irreducible] Sz
section
variable {R : Nat → Prop} {w0 w w' : World} {L L' : List (Nat × Int)}
def BitAdd (X1 Y1 Z1 X2 Y2 Z2 p:Int) (v29 v36 v44:Int):Prop:=∃ v1 v2 v3 v4 v5 v6 v7 v8 v9 v10 v11 v12 v13 v14 v15 v16 v17 v18 v19 v20 v21 v22 v23 v24 v25 v26 v27 v28 v30 v31 v32 v33 v34 v35 v37 v38 v39 v40 v41 v42 v43:Int,v1=Z1*Z1/\v2=v1%p/\v3=Z2*Z2/\v4=v3%p/\v5=X1*v4/\v6=v5%p/\v7=X2*v2/\v8=v7%p/\v9=v8-v6/\v10=(if v9<0 then v9+p else v9)/\v11=v10*2^1/\v12=v11*v11/\v13=v10*v12/\v14=Y1*Z2/\v15=v14*v4/\v16=v15%p/\v17=Y2*Z1/\v18=v17*v2/\v19=v18%p/\v20=v19-v16/\v21=(if v20<0 then v20+p else v20)/\v22=v21*2^1/\v23=v6*v12/\v24=v22/\v25=v24*v24/\v26=v25-v13/\v27=v26-v23/\v28=v27-v23/\v29=v28%p/\v30=v22/\v31=v23-v29/\v32=v30*v31/\v33=v16*v13/\v34=v33*2^1/\v35=v32-v34/\v36=v35%p/\v37=Z1+Z2/\v38=v37*v37/\v39=v38-v2/\v40=(if v39<0 then v39+p else v39)/\v41=v40-v4/\v42=(if v41<0 then v41+p else v41)/\v43=v42*v10/\v44=v43%p
theorem bitAdd (h:Own R w0 w L) (c x1 y1 z1 x2 y2 z2 P i1 i2 i3 i4 i5 i6 iP:Nat) (X1 Y1 Z1 X2 Y2 Z2 p:Int) (hcP:w.cell? ⟨c,1,.none⟩=some (ptr P)) (hRc:R c) (h1:L[i1]? = some (x1,X1)) (h2:L[i2]? = some (y1,Y1)) (h3:L[i3]? = some (z1,Z1)) (h4:L[i4]? = some (x2,X2)) (h5:L[i5]? = some (y2,Y2)) (h6:L[i6]? = some (z2,Z2)) (hP:L[iP]? = some (P,p))
 (t1:Sz 260 X1) (t2:Sz 260 Y1) (t3:Sz 260 Z1) (t4:Sz 260 X2) (t5:Sz 260 Y2) (t6:Sz 260 Z2) (sp:Sz 260 p) (hdiv:DivOK p.natAbs) (hp0:p≠0) :
 Calls Tryz.prog 106 #[ptr c,ptr x1,ptr y1,ptr z1,ptr x2,ptr y2,ptr z2] w (TriB R w0 L (BitAdd X1 Y1 Z1 X2 Y2 Z2 p)):=by
 have HSS:=Lz h
 have O0:=Lz h.since
 have H1:=Lz h1
 have H2:=Lz h2
 have H3:=Lz h3
 have H4:=Lz h4
 have H5:=Lz h5
 have H6:=Lz h6
 have HP:=Lz hP
 have T1:=Lz t1
 have T2:=Lz t2
 have T3:=Lz t3
 have T4:=Lz t4
 have T5:=Lz t5
 have T6:=Lz t6
 have SP:=Lz sp
 have HD:=Lz hdiv
 have HP0:=Lz hp0
 have K0:=Lz (λ(w':World) (k:Kept R w w')=>(k.cell hRc hcP:w'.cell? ⟨c,1,.none⟩=some (ptr P)))
 have cP:=hcP
 clear h h1 h2 h3 h4 h5 h6 hP t1 t2 t3 t4 t5 t6 sp hdiv hp0 hRc hcP
 unfold ptr at *
 go_enter Tryz.func106,Tryz.ntmps106
 obtain⟨hN,hR⟩:=O0.out.new
 have HN0:=Lz hN
 have NRz1z1:=Lz hR
 clear hN hR
 go_wp2_with fail
 refine(mulO HN0.out 0 (i3+1) (i3+1) rfl H3.out H3.out NRz1z1.out (T3.out.le (by decide:260<=704)) (T3.out.le (by decide:260<=2496))).mono ?_
 rintro en w1 ⟨rfl,hq⟩
 obtain⟨v1,hv⟩:∃ v1:Int,v1=Z1*Z1:=⟨_,rfl⟩
 have O1:=Lz (show Own R w w1 ((w.heap.size,v1) :: L) from by rw[hv];exact hq)
 have S1:=Lz (show Sz 520 v1 from by rw[hv];exact T3.out.mul T3.out)
 have E1:=Lz hv
 clear hq hv
 clear cP
 have cP:=K0.out w1 O1.out.kept
 go_wp2_with fail
 refine(modO O1.out 0 0 (iP+1) rfl rfl HP.out (by omega) NRz1z1.out (S1.out.le (by decide:520<=630000)) (SP.out.le (by decide:260<=630000)) HD.out HP0.out).mono ?_
 rintro en w2 ⟨rfl,hq⟩
 obtain⟨v2,hv⟩:∃ v2:Int,v2=v1%p:=⟨_,rfl⟩
 have O2:=Lz (show Own R w w2 ((w.heap.size,v2) :: L) from by rw[hv];exact hq)
 have S2:=Lz (show Sz 260 v2 from by rw[hv];exact Sz.emod _ HP0.out SP.out)
 have E2:=Lz hv
 clear hq hv
 clear cP
 have cP:=K0.out w2 O2.out.kept
 obtain⟨hN,hR⟩:=O2.out.new
 have HN2:=Lz hN
 have NRz2z2:=Lz hR
 clear hN hR
 go_wp2_with fail
 refine(mulO HN2.out 0 (i6+2) (i6+2) rfl H6.out H6.out NRz2z2.out (T6.out.le (by decide:260<=704)) (T6.out.le (by decide:260<=2496))).mono ?_
 rintro en w3 ⟨rfl,hq⟩
 obtain⟨v3,hv⟩:∃ v3:Int,v3=Z2*Z2:=⟨_,rfl⟩
 have O3:=Lz (show Own R w w3 ((w2.heap.size,v3) :: (w.heap.size,v2) :: L) from by rw[hv];exact hq)
 have S3:=Lz (show Sz 520 v3 from by rw[hv];exact T6.out.mul T6.out)
 have E3:=Lz hv
 clear hq hv
 clear cP
 have cP:=K0.out w3 O3.out.kept
 go_wp2_with fail
 refine(modO O3.out 0 0 (iP+2) rfl rfl HP.out (by omega) NRz2z2.out (S3.out.le (by decide:520<=630000)) (SP.out.le (by decide:260<=630000)) HD.out HP0.out).mono ?_
 rintro en w4 ⟨rfl,hq⟩
 obtain⟨v4,hv⟩:∃ v4:Int,v4=v3%p:=⟨_,rfl⟩
 have O4:=Lz (show Own R w w4 ((w2.heap.size,v4) :: (w.heap.size,v2) :: L) from by rw[hv];exact hq)
 have S4:=Lz (show Sz 260 v4 from by rw[hv];exact Sz.emod _ HP0.out SP.out)
 have E4:=Lz hv
 clear hq hv
 clear cP
 have cP:=K0.out w4 O4.out.kept
 obtain⟨hN,hR⟩:=O4.out.new
 have HN4:=Lz hN
 have NRu1:=Lz hR
 clear hN hR
 go_wp2_with fail
 refine(mulO HN4.out 0 (i1+3) 1 rfl H1.out rfl NRu1.out (T1.out.le (by decide:260<=704)) (S4.out.le (by decide:260<=2496))).mono ?_
 rintro en w5 ⟨rfl,hq⟩
 obtain⟨v5,hv⟩:∃ v5:Int,v5=X1*v4:=⟨_,rfl⟩
 have O5:=Lz (show Own R w w5 ((w4.heap.size,v5) :: (w2.heap.size,v4) :: (w.heap.size,v2) :: L) from by rw[hv];exact hq)
 have S5:=Lz (show Sz 520 v5 from by rw[hv];exact T1.out.mul S4.out)
 have E5:=Lz hv
 clear hq hv
 clear cP
 have cP:=K0.out w5 O5.out.kept
 go_wp2_with fail
 refine(modO O5.out 0 0 (iP+3) rfl rfl HP.out (by omega) NRu1.out (S5.out.le (by decide:520<=630000)) (SP.out.le (by decide:260<=630000)) HD.out HP0.out).mono ?_
 rintro en w6 ⟨rfl,hq⟩
 obtain⟨v6,hv⟩:∃ v6:Int,v6=v5%p:=⟨_,rfl⟩
 have O6:=Lz (show Own R w w6 ((w4.heap.size,v6) :: (w2.heap.size,v4) :: (w.heap.size,v2) :: L) from by rw[hv];exact hq)
 have S6:=Lz (show Sz 260 v6 from by rw[hv];exact Sz.emod _ HP0.out SP.out)
 have E6:=Lz hv
 clear hq hv
 clear cP
 have cP:=K0.out w6 O6.out.kept
 obtain⟨hN,hR⟩:=O6.out.new
 have HN6:=Lz hN
 have NRu2:=Lz hR
 clear hN hR
 go_wp2_with fail
 refine(mulO HN6.out 0 (i4+4) 3 rfl H4.out rfl NRu2.out (T4.out.le (by decide:260<=704)) (S2.out.le (by decide:260<=2496))).mono ?_
 rintro en w7 ⟨rfl,hq⟩
 obtain⟨v7,hv⟩:∃ v7:Int,v7=X2*v2:=⟨_,rfl⟩
 have O7:=Lz (show Own R w w7 ((w6.heap.size,v7) :: (w4.heap.size,v6) :: (w2.heap.size,v4) :: (w.heap.size,v2) :: L) from by rw[hv];exact hq)
 have S7:=Lz (show Sz 520 v7 from by rw[hv];exact T4.out.mul S2.out)
 have E7:=Lz hv
 clear hq hv
 clear cP
 have cP:=K0.out w7 O7.out.kept
 go_wp2_with fail
 refine(modO O7.out 0 0 (iP+4) rfl rfl HP.out (by omega) NRu2.out (S7.out.le (by decide:520<=630000)) (SP.out.le (by decide:260<=630000)) HD.out HP0.out).mono ?_
 rintro en w8 ⟨rfl,hq⟩
 obtain⟨v8,hv⟩:∃ v8:Int,v8=v7%p:=⟨_,rfl⟩
 have O8:=Lz (show Own R w w8 ((w6.heap.size,v8) :: (w4.heap.size,v6) :: (w2.heap.size,v4) :: (w.heap.size,v2) :: L) from by rw[hv];exact hq)
 have S8:=Lz (show Sz 260 v8 from by rw[hv];exact Sz.emod _ HP0.out SP.out)
 have E8:=Lz hv
 clear hq hv
 clear cP
 have cP:=K0.out w8 O8.out.kept
 obtain⟨hN,hR⟩:=O8.out.new
 have HN8:=Lz hN
 have NRh:=Lz hR
 clear hN hR
 go_wp2_with fail
 refine(subO HN8.out 0 1 2 rfl rfl rfl NRh.out (S8.out.le (by decide:260<=640000)) (S6.out.le (by decide:260<=640000))).mono ?_
 rintro en w9 ⟨rfl,hq⟩
 obtain⟨v9,hv⟩:∃ v9:Int,v9=v8-v6:=⟨_,rfl⟩
 have O9:=Lz (show Own R w w9 ((w8.heap.size,v9) :: (w6.heap.size,v8) :: (w4.heap.size,v6) :: (w2.heap.size,v4) :: (w.heap.size,v2) :: L) from by rw[hv];exact hq)
 have S9:=Lz (show Sz 261 v9 from by rw[hv];exact(S8.out.le (by decide:260<=260)).sub (S6.out.le (by decide:260<=260)))
 have E9:=Lz hv
 clear hq hv
 clear cP
 have cP:=K0.out w9 O9.out.kept
 go_upto_if 81 with(go_at_call 121;refine(signO O9.out 0 rfl).mono ?_;rintro en wq ⟨rfl,rfl⟩)
 obtain⟨v10,hv⟩:∃ v10:Int,v10=(if v9<0 then v9+p else v9):=⟨_,rfl⟩
 have E10:=Lz hv
 have S10:=Lz (show Sz 262 v10 from by rw[hv];exact sz_fixB (S9.out.le (by decide:261<=261)) (SP.out.le (by decide:260<=261)))
 clear hv
 go_cut [] from 31 (λwx=>Own R w wx ((w8.heap.size,v10) :: (w6.heap.size,v8) :: (w4.heap.size,v6) :: (w2.heap.size,v4) :: (w.heap.size,v2) :: L))
 case first=>
  as_aux_lemma=>
   by_cases hc:v9<0
   . have hs:(v9.sign==(-1:Int))=true:=by rw[Int.sign_eq_neg_one_of_neg hc];rfl
     have HV:=Lz (show v10=v9+p by rw[E10.out,if_pos hc])
     clear hc
     go_wp2_with fail
     refine(addO O9.out 0 0 (iP+5) rfl rfl HP.out NRh.out (S9.out.le (by decide:261<=640000)) (SP.out.le (by decide:260<=640000))).mono ?_
     rintro en wq ⟨rfl,hq⟩
     have HQ:=Lz (show Own R w wq ((w8.heap.size,v10) :: (w6.heap.size,v8) :: (w4.heap.size,v6) :: (w2.heap.size,v4) :: (w.heap.size,v2) :: L) from by rw[HV.out];exact hq)
     clear hq
     go_wp2_with fail
     go_meet
     case rel=>exact HQ.out
   . have hs:(v9.sign==(-1:Int))=false:=by rw[beq_eq_false_iff_ne];exact sign_neB hc
     have HQ:=Lz (show Own R w w9 ((w8.heap.size,v10) :: (w6.heap.size,v8) :: (w4.heap.size,v6) :: (w2.heap.size,v4) :: (w.heap.size,v2) :: L) from by rw[E10.out,if_neg hc];exact O9.out)
     clear hc
     go_wp2_with fail
     go_meet
     case rel=>exact HQ.out
 case rest=>
  as_aux_lemma=>
   obtain⟨w10,hwc⟩:∃ w10,w10=wc:=⟨_,rfl⟩
   subst hwc
   have O10:=Lz hcut
   clear hcut
   clear cP
   have cP:=K0.out w10 O10.out.kept
   obtain⟨hN,hR⟩:=O10.out.new
   have HN10:=Lz hN
   have NRi:=Lz hR
   clear hN hR
   go_wp2_with fail
   refine(lshO HN10.out 0 1 1 rfl rfl NRi.out (S10.out.le (by decide:262<=640000)) (by decide) (by decide)).mono ?_
   rintro en w11 ⟨rfl,hq⟩
   obtain⟨v11,hv⟩:∃ v11:Int,v11=v10*2^1:=⟨_,rfl⟩
   have O11:=Lz (show Own R w w11 ((w10.heap.size,v11) :: (w8.heap.size,v10) :: (w6.heap.size,v8) :: (w4.heap.size,v6) :: (w2.heap.size,v4) :: (w.heap.size,v2) :: L) from by rw[hv];exact hq)
   have S11:=Lz (show Sz 263 v11 from by rw[hv];exact sz_lshB 1 S10.out)
   have E11:=Lz hv
   clear hq hv
   clear cP
   have cP:=K0.out w11 O11.out.kept
   go_wp2_with fail
   refine(mulO O11.out 0 0 0 rfl rfl rfl NRi.out (S11.out.le (by decide:263<=704)) (S11.out.le (by decide:263<=2496))).mono ?_
   rintro en w12 ⟨rfl,hq⟩
   obtain⟨v12,hv⟩:∃ v12:Int,v12=v11*v11:=⟨_,rfl⟩
   have O12:=Lz (show Own R w w12 ((w10.heap.size,v12) :: (w8.heap.size,v10) :: (w6.heap.size,v8) :: (w4.heap.size,v6) :: (w2.heap.size,v4) :: (w.heap.size,v2) :: L) from by rw[hv];exact hq)
   have S12:=Lz (show Sz 526 v12 from by rw[hv];exact S11.out.mul S11.out)
   have E12:=Lz hv
   clear hq hv
   clear cP
   have cP:=K0.out w12 O12.out.kept
   obtain⟨hN,hR⟩:=O12.out.new
   have HN12:=Lz hN
   have NRj:=Lz hR
   clear hN hR
   go_wp2_with fail
   refine(mulO HN12.out 0 2 1 rfl rfl rfl NRj.out (S10.out.le (by decide:262<=704)) (S12.out.le (by decide:526<=2496))).mono ?_
   rintro en w13 ⟨rfl,hq⟩
   obtain⟨v13,hv⟩:∃ v13:Int,v13=v10*v12:=⟨_,rfl⟩
   have O13:=Lz (show Own R w w13 ((w12.heap.size,v13) :: (w10.heap.size,v12) :: (w8.heap.size,v10) :: (w6.heap.size,v8) :: (w4.heap.size,v6) :: (w2.heap.size,v4) :: (w.heap.size,v2) :: L) from by rw[hv];exact hq)
   have S13:=Lz (show Sz 788 v13 from by rw[hv];exact S10.out.mul S12.out)
   have E13:=Lz hv
   clear hq hv
   clear cP
   have cP:=K0.out w13 O13.out.kept
   obtain⟨hN,hR⟩:=O13.out.new
   have HN13:=Lz hN
   have NRs1:=Lz hR
   clear hN hR
   go_wp2_with fail
   refine(mulO HN13.out 0 (i2+8) (i6+8) rfl H2.out H6.out NRs1.out (T2.out.le (by decide:260<=704)) (T6.out.le (by decide:260<=2496))).mono ?_
   rintro en w14 ⟨rfl,hq⟩
   obtain⟨v14,hv⟩:∃ v14:Int,v14=Y1*Z2:=⟨_,rfl⟩
   have O14:=Lz (show Own R w w14 ((w13.heap.size,v14) :: (w12.heap.size,v13) :: (w10.heap.size,v12) :: (w8.heap.size,v10) :: (w6.heap.size,v8) :: (w4.heap.size,v6) :: (w2.heap.size,v4) :: (w.heap.size,v2) :: L) from by rw[hv];exact hq)
   have S14:=Lz (show Sz 520 v14 from by rw[hv];exact T2.out.mul T6.out)
   have E14:=Lz hv
   clear hq hv
   clear cP
   have cP:=K0.out w14 O14.out.kept
   go_wp2_with fail
   refine(mulO O14.out 0 0 6 rfl rfl rfl NRs1.out (S14.out.le (by decide:520<=704)) (S4.out.le (by decide:260<=2496))).mono ?_
   rintro en w15 ⟨rfl,hq⟩
   obtain⟨v15,hv⟩:∃ v15:Int,v15=v14*v4:=⟨_,rfl⟩
   have O15:=Lz (show Own R w w15 ((w13.heap.size,v15) :: (w12.heap.size,v13) :: (w10.heap.size,v12) :: (w8.heap.size,v10) :: (w6.heap.size,v8) :: (w4.heap.size,v6) :: (w2.heap.size,v4) :: (w.heap.size,v2) :: L) from by rw[hv];exact hq)
   have S15:=Lz (show Sz 780 v15 from by rw[hv];exact S14.out.mul S4.out)
   have E15:=Lz hv
   clear hq hv
   clear cP
   have cP:=K0.out w15 O15.out.kept
   go_wp2_with fail
   refine(modO O15.out 0 0 (iP+8) rfl rfl HP.out (by omega) NRs1.out (S15.out.le (by decide:780<=630000)) (SP.out.le (by decide:260<=630000)) HD.out HP0.out).mono ?_
   rintro en w16 ⟨rfl,hq⟩
   obtain⟨v16,hv⟩:∃ v16:Int,v16=v15%p:=⟨_,rfl⟩
   have O16:=Lz (show Own R w w16 ((w13.heap.size,v16) :: (w12.heap.size,v13) :: (w10.heap.size,v12) :: (w8.heap.size,v10) :: (w6.heap.size,v8) :: (w4.heap.size,v6) :: (w2.heap.size,v4) :: (w.heap.size,v2) :: L) from by rw[hv];exact hq)
   have S16:=Lz (show Sz 260 v16 from by rw[hv];exact Sz.emod _ HP0.out SP.out)
   have E16:=Lz hv
   clear hq hv
   clear cP
   have cP:=K0.out w16 O16.out.kept
   obtain⟨hN,hR⟩:=O16.out.new
   have HN16:=Lz hN
   have NRs2:=Lz hR
   clear hN hR
   go_wp2_with fail
   refine(mulO HN16.out 0 (i5+9) (i3+9) rfl H5.out H3.out NRs2.out (T5.out.le (by decide:260<=704)) (T3.out.le (by decide:260<=2496))).mono ?_
   rintro en w17 ⟨rfl,hq⟩
   obtain⟨v17,hv⟩:∃ v17:Int,v17=Y2*Z1:=⟨_,rfl⟩
   have O17:=Lz (show Own R w w17 ((w16.heap.size,v17) :: (w13.heap.size,v16) :: (w12.heap.size,v13) :: (w10.heap.size,v12) :: (w8.heap.size,v10) :: (w6.heap.size,v8) :: (w4.heap.size,v6) :: (w2.heap.size,v4) :: (w.heap.size,v2) :: L) from by rw[hv];exact hq)
   have S17:=Lz (show Sz 520 v17 from by rw[hv];exact T5.out.mul T3.out)
   have E17:=Lz hv
   clear hq hv
   clear cP
   have cP:=K0.out w17 O17.out.kept
   go_wp2_with fail
   refine(mulO O17.out 0 0 8 rfl rfl rfl NRs2.out (S17.out.le (by decide:520<=704)) (S2.out.le (by decide:260<=2496))).mono ?_
   rintro en w18 ⟨rfl,hq⟩
   obtain⟨v18,hv⟩:∃ v18:Int,v18=v17*v2:=⟨_,rfl⟩
   have O18:=Lz (show Own R w w18 ((w16.heap.size,v18) :: (w13.heap.size,v16) :: (w12.heap.size,v13) :: (w10.heap.size,v12) :: (w8.heap.size,v10) :: (w6.heap.size,v8) :: (w4.heap.size,v6) :: (w2.heap.size,v4) :: (w.heap.size,v2) :: L) from by rw[hv];exact hq)
   have S18:=Lz (show Sz 780 v18 from by rw[hv];exact S17.out.mul S2.out)
   have E18:=Lz hv
   clear hq hv
   clear cP
   have cP:=K0.out w18 O18.out.kept
   go_wp2_with fail
   refine(modO O18.out 0 0 (iP+9) rfl rfl HP.out (by omega) NRs2.out (S18.out.le (by decide:780<=630000)) (SP.out.le (by decide:260<=630000)) HD.out HP0.out).mono ?_
   rintro en w19 ⟨rfl,hq⟩
   obtain⟨v19,hv⟩:∃ v19:Int,v19=v18%p:=⟨_,rfl⟩
   have O19:=Lz (show Own R w w19 ((w16.heap.size,v19) :: (w13.heap.size,v16) :: (w12.heap.size,v13) :: (w10.heap.size,v12) :: (w8.heap.size,v10) :: (w6.heap.size,v8) :: (w4.heap.size,v6) :: (w2.heap.size,v4) :: (w.heap.size,v2) :: L) from by rw[hv];exact hq)
   have S19:=Lz (show Sz 260 v19 from by rw[hv];exact Sz.emod _ HP0.out SP.out)
   have E19:=Lz hv
   clear hq hv
   clear cP
   have cP:=K0.out w19 O19.out.kept
   obtain⟨hN,hR⟩:=O19.out.new
   have HN19:=Lz hN
   have NRr:=Lz hR
   clear hN hR
   go_wp2_with fail
   refine(subO HN19.out 0 1 2 rfl rfl rfl NRr.out (S19.out.le (by decide:260<=640000)) (S16.out.le (by decide:260<=640000))).mono ?_
   rintro en w20 ⟨rfl,hq⟩
   obtain⟨v20,hv⟩:∃ v20:Int,v20=v19-v16:=⟨_,rfl⟩
   have O20:=Lz (show Own R w w20 ((w19.heap.size,v20) :: (w16.heap.size,v19) :: (w13.heap.size,v16) :: (w12.heap.size,v13) :: (w10.heap.size,v12) :: (w8.heap.size,v10) :: (w6.heap.size,v8) :: (w4.heap.size,v6) :: (w2.heap.size,v4) :: (w.heap.size,v2) :: L) from by rw[hv];exact hq)
   have S20:=Lz (show Sz 261 v20 from by rw[hv];exact(S19.out.le (by decide:260<=260)).sub (S16.out.le (by decide:260<=260)))
   have E20:=Lz hv
   clear hq hv
   clear cP
   have cP:=K0.out w20 O20.out.kept
   go_upto_if 136 with(go_at_call 121;refine(signO O20.out 0 rfl).mono ?_;rintro en wq ⟨rfl,rfl⟩)
   obtain⟨v21,hv⟩:∃ v21:Int,v21=(if v20<0 then v20+p else v20):=⟨_,rfl⟩
   have E21:=Lz hv
   have S21:=Lz (show Sz 262 v21 from by rw[hv];exact sz_fixB (S20.out.le (by decide:261<=261)) (SP.out.le (by decide:260<=261)))
   clear hv
   go_cut [] from 31 (λwx=>Own R w wx ((w19.heap.size,v21) :: (w16.heap.size,v19) :: (w13.heap.size,v16) :: (w12.heap.size,v13) :: (w10.heap.size,v12) :: (w8.heap.size,v10) :: (w6.heap.size,v8) :: (w4.heap.size,v6) :: (w2.heap.size,v4) :: (w.heap.size,v2) :: L))
   case first=>
    as_aux_lemma=>
     by_cases hc:v20<0
     . have hs:(v20.sign==(-1:Int))=true:=by rw[Int.sign_eq_neg_one_of_neg hc];rfl
       have HV:=Lz (show v21=v20+p by rw[E21.out,if_pos hc])
       clear hc
       go_wp2_with fail
       refine(addO O20.out 0 0 (iP+10) rfl rfl HP.out NRr.out (S20.out.le (by decide:261<=640000)) (SP.out.le (by decide:260<=640000))).mono ?_
       rintro en wq ⟨rfl,hq⟩
       have HQ:=Lz (show Own R w wq ((w19.heap.size,v21) :: (w16.heap.size,v19) :: (w13.heap.size,v16) :: (w12.heap.size,v13) :: (w10.heap.size,v12) :: (w8.heap.size,v10) :: (w6.heap.size,v8) :: (w4.heap.size,v6) :: (w2.heap.size,v4) :: (w.heap.size,v2) :: L) from by rw[HV.out];exact hq)
       clear hq
       go_wp2_with fail
       go_meet
       case rel=>exact HQ.out
     . have hs:(v20.sign==(-1:Int))=false:=by rw[beq_eq_false_iff_ne];exact sign_neB hc
       have HQ:=Lz (show Own R w w20 ((w19.heap.size,v21) :: (w16.heap.size,v19) :: (w13.heap.size,v16) :: (w12.heap.size,v13) :: (w10.heap.size,v12) :: (w8.heap.size,v10) :: (w6.heap.size,v8) :: (w4.heap.size,v6) :: (w2.heap.size,v4) :: (w.heap.size,v2) :: L) from by rw[E21.out,if_neg hc];exact O20.out)
       clear hc
       go_wp2_with fail
       go_meet
       case rel=>exact HQ.out
   case rest=>
    as_aux_lemma=>
     obtain⟨w21,hwc⟩:∃ w21,w21=wc:=⟨_,rfl⟩
     subst hwc
     have O21:=Lz hcut
     clear hcut
     clear cP
     have cP:=K0.out w21 O21.out.kept
     go_wp2_with fail
     refine(lshO O21.out 0 0 1 rfl rfl NRr.out (S21.out.le (by decide:262<=640000)) (by decide) (by decide)).mono ?_
     rintro en w22 ⟨rfl,hq⟩
     obtain⟨v22,hv⟩:∃ v22:Int,v22=v21*2^1:=⟨_,rfl⟩
     have O22:=Lz (show Own R w w22 ((w19.heap.size,v22) :: (w16.heap.size,v19) :: (w13.heap.size,v16) :: (w12.heap.size,v13) :: (w10.heap.size,v12) :: (w8.heap.size,v10) :: (w6.heap.size,v8) :: (w4.heap.size,v6) :: (w2.heap.size,v4) :: (w.heap.size,v2) :: L) from by rw[hv];exact hq)
     have S22:=Lz (show Sz 263 v22 from by rw[hv];exact sz_lshB 1 S21.out)
     have E22:=Lz hv
     clear hq hv
     clear cP
     have cP:=K0.out w22 O22.out.kept
     obtain⟨hN,hR⟩:=O22.out.new
     have HN22:=Lz hN
     have NRv:=Lz hR
     clear hN hR
     go_wp2_with fail
     refine(mulO HN22.out 0 8 5 rfl rfl rfl NRv.out (S6.out.le (by decide:260<=704)) (S12.out.le (by decide:526<=2496))).mono ?_
     rintro en w23 ⟨rfl,hq⟩
     obtain⟨v23,hv⟩:∃ v23:Int,v23=v6*v12:=⟨_,rfl⟩
     have O23:=Lz (show Own R w w23 ((w22.heap.size,v23) :: (w19.heap.size,v22) :: (w16.heap.size,v19) :: (w13.heap.size,v16) :: (w12.heap.size,v13) :: (w10.heap.size,v12) :: (w8.heap.size,v10) :: (w6.heap.size,v8) :: (w4.heap.size,v6) :: (w2.heap.size,v4) :: (w.heap.size,v2) :: L) from by rw[hv];exact hq)
     have S23:=Lz (show Sz 786 v23 from by rw[hv];exact S6.out.mul S12.out)
     have E23:=Lz hv
     clear hq hv
     clear cP
     have cP:=K0.out w23 O23.out.kept
     obtain⟨hN,hR⟩:=O23.out.new
     have HN23:=Lz hN
     have NRx3:=Lz hR
     clear hN hR
     go_wp2_with fail
     refine(setO HN23.out 0 2 rfl rfl NRx3.out (S22.out.le (by decide:263<=640000))).mono ?_
     rintro en w24 ⟨rfl,hq⟩
     obtain⟨v24,hv⟩:∃ v24:Int,v24=v22:=⟨_,rfl⟩
     have O24:=Lz (show Own R w w24 ((w23.heap.size,v24) :: (w22.heap.size,v23) :: (w19.heap.size,v22) :: (w16.heap.size,v19) :: (w13.heap.size,v16) :: (w12.heap.size,v13) :: (w10.heap.size,v12) :: (w8.heap.size,v10) :: (w6.heap.size,v8) :: (w4.heap.size,v6) :: (w2.heap.size,v4) :: (w.heap.size,v2) :: L) from by rw[hv];exact hq)
     have S24:=Lz (show Sz 263 v24 from by rw[hv];exact S22.out)
     have E24:=Lz hv
     clear hq hv
     clear cP
     have cP:=K0.out w24 O24.out.kept
     go_wp2_with fail
     refine(mulO O24.out 0 0 0 rfl rfl rfl NRx3.out (S24.out.le (by decide:263<=704)) (S24.out.le (by decide:263<=2496))).mono ?_
     rintro en w25 ⟨rfl,hq⟩
     obtain⟨v25,hv⟩:∃ v25:Int,v25=v24*v24:=⟨_,rfl⟩
     have O25:=Lz (show Own R w w25 ((w23.heap.size,v25) :: (w22.heap.size,v23) :: (w19.heap.size,v22) :: (w16.heap.size,v19) :: (w13.heap.size,v16) :: (w12.heap.size,v13) :: (w10.heap.size,v12) :: (w8.heap.size,v10) :: (w6.heap.size,v8) :: (w4.heap.size,v6) :: (w2.heap.size,v4) :: (w.heap.size,v2) :: L) from by rw[hv];exact hq)
     have S25:=Lz (show Sz 526 v25 from by rw[hv];exact S24.out.mul S24.out)
     have E25:=Lz hv
     clear hq hv
     clear cP
     have cP:=K0.out w25 O25.out.kept
     go_wp2_with fail
     refine(subO O25.out 0 0 5 rfl rfl rfl NRx3.out (S25.out.le (by decide:526<=640000)) (S13.out.le (by decide:788<=640000))).mono ?_
     rintro en w26 ⟨rfl,hq⟩
     obtain⟨v26,hv⟩:∃ v26:Int,v26=v25-v13:=⟨_,rfl⟩
     have O26:=Lz (show Own R w w26 ((w23.heap.size,v26) :: (w22.heap.size,v23) :: (w19.heap.size,v22) :: (w16.heap.size,v19) :: (w13.heap.size,v16) :: (w12.heap.size,v13) :: (w10.heap.size,v12) :: (w8.heap.size,v10) :: (w6.heap.size,v8) :: (w4.heap.size,v6) :: (w2.heap.size,v4) :: (w.heap.size,v2) :: L) from by rw[hv];exact hq)
     have S26:=Lz (show Sz 789 v26 from by rw[hv];exact(S25.out.le (by decide:526<=788)).sub (S13.out.le (by decide:788<=788)))
     have E26:=Lz hv
     clear hq hv
     clear cP
     have cP:=K0.out w26 O26.out.kept
     go_wp2_with fail
     refine(subO O26.out 0 0 1 rfl rfl rfl NRx3.out (S26.out.le (by decide:789<=640000)) (S23.out.le (by decide:786<=640000))).mono ?_
     rintro en w27 ⟨rfl,hq⟩
     obtain⟨v27,hv⟩:∃ v27:Int,v27=v26-v23:=⟨_,rfl⟩
     have O27:=Lz (show Own R w w27 ((w23.heap.size,v27) :: (w22.heap.size,v23) :: (w19.heap.size,v22) :: (w16.heap.size,v19) :: (w13.heap.size,v16) :: (w12.heap.size,v13) :: (w10.heap.size,v12) :: (w8.heap.size,v10) :: (w6.heap.size,v8) :: (w4.heap.size,v6) :: (w2.heap.size,v4) :: (w.heap.size,v2) :: L) from by rw[hv];exact hq)
     have S27:=Lz (show Sz 790 v27 from by rw[hv];exact(S26.out.le (by decide:789<=789)).sub (S23.out.le (by decide:786<=789)))
     have E27:=Lz hv
     clear hq hv
     clear cP
     have cP:=K0.out w27 O27.out.kept
     go_wp2_with fail
     refine(subO O27.out 0 0 1 rfl rfl rfl NRx3.out (S27.out.le (by decide:790<=640000)) (S23.out.le (by decide:786<=640000))).mono ?_
     rintro en w28 ⟨rfl,hq⟩
     obtain⟨v28,hv⟩:∃ v28:Int,v28=v27-v23:=⟨_,rfl⟩
     have O28:=Lz (show Own R w w28 ((w23.heap.size,v28) :: (w22.heap.size,v23) :: (w19.heap.size,v22) :: (w16.heap.size,v19) :: (w13.heap.size,v16) :: (w12.heap.size,v13) :: (w10.heap.size,v12) :: (w8.heap.size,v10) :: (w6.heap.size,v8) :: (w4.heap.size,v6) :: (w2.heap.size,v4) :: (w.heap.size,v2) :: L) from by rw[hv];exact hq)
     have S28:=Lz (show Sz 791 v28 from by rw[hv];exact(S27.out.le (by decide:790<=790)).sub (S23.out.le (by decide:786<=790)))
     have E28:=Lz hv
     clear hq hv
     clear cP
     have cP:=K0.out w28 O28.out.kept
     go_wp2_with fail
     refine(modO O28.out 0 0 (iP+12) rfl rfl HP.out (by omega) NRx3.out (S28.out.le (by decide:791<=630000)) (SP.out.le (by decide:260<=630000)) HD.out HP0.out).mono ?_
     rintro en w29 ⟨rfl,hq⟩
     obtain⟨v29,hv⟩:∃ v29:Int,v29=v28%p:=⟨_,rfl⟩
     have O29:=Lz (show Own R w w29 ((w23.heap.size,v29) :: (w22.heap.size,v23) :: (w19.heap.size,v22) :: (w16.heap.size,v19) :: (w13.heap.size,v16) :: (w12.heap.size,v13) :: (w10.heap.size,v12) :: (w8.heap.size,v10) :: (w6.heap.size,v8) :: (w4.heap.size,v6) :: (w2.heap.size,v4) :: (w.heap.size,v2) :: L) from by rw[hv];exact hq)
     have S29:=Lz (show Sz 260 v29 from by rw[hv];exact Sz.emod _ HP0.out SP.out)
     have E29:=Lz hv
     clear hq hv
     clear cP
     have cP:=K0.out w29 O29.out.kept
     obtain⟨hN,hR⟩:=O29.out.new
     have HN29:=Lz hN
     have NRy3:=Lz hR
     clear hN hR
     go_wp2_with fail
     refine(setO HN29.out 0 3 rfl rfl NRy3.out (S22.out.le (by decide:263<=640000))).mono ?_
     rintro en w30 ⟨rfl,hq⟩
     obtain⟨v30,hv⟩:∃ v30:Int,v30=v22:=⟨_,rfl⟩
     have O30:=Lz (show Own R w w30 ((w29.heap.size,v30) :: (w23.heap.size,v29) :: (w22.heap.size,v23) :: (w19.heap.size,v22) :: (w16.heap.size,v19) :: (w13.heap.size,v16) :: (w12.heap.size,v13) :: (w10.heap.size,v12) :: (w8.heap.size,v10) :: (w6.heap.size,v8) :: (w4.heap.size,v6) :: (w2.heap.size,v4) :: (w.heap.size,v2) :: L) from by rw[hv];exact hq)
     have S30:=Lz (show Sz 263 v30 from by rw[hv];exact S22.out)
     have E30:=Lz hv
     clear hq hv
     clear cP
     have cP:=K0.out w30 O30.out.kept
     go_wp2_with fail
     refine(subO O30.out 2 2 1 rfl rfl rfl NRv.out (S23.out.le (by decide:786<=640000)) (S29.out.le (by decide:260<=640000))).mono ?_
     rintro en w31 ⟨rfl,hq⟩
     obtain⟨v31,hv⟩:∃ v31:Int,v31=v23-v29:=⟨_,rfl⟩
     have O31:=Lz (show Own R w w31 ((w29.heap.size,v30) :: (w23.heap.size,v29) :: (w22.heap.size,v31) :: (w19.heap.size,v22) :: (w16.heap.size,v19) :: (w13.heap.size,v16) :: (w12.heap.size,v13) :: (w10.heap.size,v12) :: (w8.heap.size,v10) :: (w6.heap.size,v8) :: (w4.heap.size,v6) :: (w2.heap.size,v4) :: (w.heap.size,v2) :: L) from by rw[hv];exact hq)
     have S31:=Lz (show Sz 787 v31 from by rw[hv];exact(S23.out.le (by decide:786<=786)).sub (S29.out.le (by decide:260<=786)))
     have E31:=Lz hv
     clear hq hv
     clear cP
     have cP:=K0.out w31 O31.out.kept
     go_wp2_with fail
     refine(mulO O31.out 0 0 2 rfl rfl rfl NRy3.out (S30.out.le (by decide:263<=704)) (S31.out.le (by decide:787<=2496))).mono ?_
     rintro en w32 ⟨rfl,hq⟩
     obtain⟨v32,hv⟩:∃ v32:Int,v32=v30*v31:=⟨_,rfl⟩
     have O32:=Lz (show Own R w w32 ((w29.heap.size,v32) :: (w23.heap.size,v29) :: (w22.heap.size,v31) :: (w19.heap.size,v22) :: (w16.heap.size,v19) :: (w13.heap.size,v16) :: (w12.heap.size,v13) :: (w10.heap.size,v12) :: (w8.heap.size,v10) :: (w6.heap.size,v8) :: (w4.heap.size,v6) :: (w2.heap.size,v4) :: (w.heap.size,v2) :: L) from by rw[hv];exact hq)
     have S32:=Lz (show Sz 1050 v32 from by rw[hv];exact S30.out.mul S31.out)
     have E32:=Lz hv
     clear hq hv
     clear cP
     have cP:=K0.out w32 O32.out.kept
     go_wp2_with fail
     refine(mulO O32.out 5 5 6 rfl rfl rfl NRs1.out (S16.out.le (by decide:260<=704)) (S13.out.le (by decide:788<=2496))).mono ?_
     rintro en w33 ⟨rfl,hq⟩
     obtain⟨v33,hv⟩:∃ v33:Int,v33=v16*v13:=⟨_,rfl⟩
     have O33:=Lz (show Own R w w33 ((w29.heap.size,v32) :: (w23.heap.size,v29) :: (w22.heap.size,v31) :: (w19.heap.size,v22) :: (w16.heap.size,v19) :: (w13.heap.size,v33) :: (w12.heap.size,v13) :: (w10.heap.size,v12) :: (w8.heap.size,v10) :: (w6.heap.size,v8) :: (w4.heap.size,v6) :: (w2.heap.size,v4) :: (w.heap.size,v2) :: L) from by rw[hv];exact hq)
     have S33:=Lz (show Sz 1048 v33 from by rw[hv];exact S16.out.mul S13.out)
     have E33:=Lz hv
     clear hq hv
     clear cP
     have cP:=K0.out w33 O33.out.kept
     go_wp2_with fail
     refine(lshO O33.out 5 5 1 rfl rfl NRs1.out (S33.out.le (by decide:1048<=640000)) (by decide) (by decide)).mono ?_
     rintro en w34 ⟨rfl,hq⟩
     obtain⟨v34,hv⟩:∃ v34:Int,v34=v33*2^1:=⟨_,rfl⟩
     have O34:=Lz (show Own R w w34 ((w29.heap.size,v32) :: (w23.heap.size,v29) :: (w22.heap.size,v31) :: (w19.heap.size,v22) :: (w16.heap.size,v19) :: (w13.heap.size,v34) :: (w12.heap.size,v13) :: (w10.heap.size,v12) :: (w8.heap.size,v10) :: (w6.heap.size,v8) :: (w4.heap.size,v6) :: (w2.heap.size,v4) :: (w.heap.size,v2) :: L) from by rw[hv];exact hq)
     have S34:=Lz (show Sz 1049 v34 from by rw[hv];exact sz_lshB 1 S33.out)
     have E34:=Lz hv
     clear hq hv
     clear cP
     have cP:=K0.out w34 O34.out.kept
     go_wp2_with fail
     refine(subO O34.out 0 0 5 rfl rfl rfl NRy3.out (S32.out.le (by decide:1050<=640000)) (S34.out.le (by decide:1049<=640000))).mono ?_
     rintro en w35 ⟨rfl,hq⟩
     obtain⟨v35,hv⟩:∃ v35:Int,v35=v32-v34:=⟨_,rfl⟩
     have O35:=Lz (show Own R w w35 ((w29.heap.size,v35) :: (w23.heap.size,v29) :: (w22.heap.size,v31) :: (w19.heap.size,v22) :: (w16.heap.size,v19) :: (w13.heap.size,v34) :: (w12.heap.size,v13) :: (w10.heap.size,v12) :: (w8.heap.size,v10) :: (w6.heap.size,v8) :: (w4.heap.size,v6) :: (w2.heap.size,v4) :: (w.heap.size,v2) :: L) from by rw[hv];exact hq)
     have S35:=Lz (show Sz 1051 v35 from by rw[hv];exact(S32.out.le (by decide:1050<=1050)).sub (S34.out.le (by decide:1049<=1050)))
     have E35:=Lz hv
     clear hq hv
     clear cP
     have cP:=K0.out w35 O35.out.kept
     go_wp2_with fail
     refine(modO O35.out 0 0 (iP+13) rfl rfl HP.out (by omega) NRy3.out (S35.out.le (by decide:1051<=630000)) (SP.out.le (by decide:260<=630000)) HD.out HP0.out).mono ?_
     rintro en w36 ⟨rfl,hq⟩
     obtain⟨v36,hv⟩:∃ v36:Int,v36=v35%p:=⟨_,rfl⟩
     have O36:=Lz (show Own R w w36 ((w29.heap.size,v36) :: (w23.heap.size,v29) :: (w22.heap.size,v31) :: (w19.heap.size,v22) :: (w16.heap.size,v19) :: (w13.heap.size,v34) :: (w12.heap.size,v13) :: (w10.heap.size,v12) :: (w8.heap.size,v10) :: (w6.heap.size,v8) :: (w4.heap.size,v6) :: (w2.heap.size,v4) :: (w.heap.size,v2) :: L) from by rw[hv];exact hq)
     have S36:=Lz (show Sz 260 v36 from by rw[hv];exact Sz.emod _ HP0.out SP.out)
     have E36:=Lz hv
     clear hq hv
     clear cP
     have cP:=K0.out w36 O36.out.kept
     obtain⟨hN,hR⟩:=O36.out.new
     have HN36:=Lz hN
     have NRz3:=Lz hR
     clear hN hR
     go_wp2_with fail
     refine(addO HN36.out 0 (i3+14) (i6+14) rfl H3.out H6.out NRz3.out (T3.out.le (by decide:260<=640000)) (T6.out.le (by decide:260<=640000))).mono ?_
     rintro en w37 ⟨rfl,hq⟩
     obtain⟨v37,hv⟩:∃ v37:Int,v37=Z1+Z2:=⟨_,rfl⟩
     have O37:=Lz (show Own R w w37 ((w36.heap.size,v37) :: (w29.heap.size,v36) :: (w23.heap.size,v29) :: (w22.heap.size,v31) :: (w19.heap.size,v22) :: (w16.heap.size,v19) :: (w13.heap.size,v34) :: (w12.heap.size,v13) :: (w10.heap.size,v12) :: (w8.heap.size,v10) :: (w6.heap.size,v8) :: (w4.heap.size,v6) :: (w2.heap.size,v4) :: (w.heap.size,v2) :: L) from by rw[hv];exact hq)
     have S37:=Lz (show Sz 261 v37 from by rw[hv];exact(T3.out.le (by decide:260<=260)).add (T6.out.le (by decide:260<=260)))
     have E37:=Lz hv
     clear hq hv
     clear cP
     have cP:=K0.out w37 O37.out.kept
     go_wp2_with fail
     refine(mulO O37.out 0 0 0 rfl rfl rfl NRz3.out (S37.out.le (by decide:261<=704)) (S37.out.le (by decide:261<=2496))).mono ?_
     rintro en w38 ⟨rfl,hq⟩
     obtain⟨v38,hv⟩:∃ v38:Int,v38=v37*v37:=⟨_,rfl⟩
     have O38:=Lz (show Own R w w38 ((w36.heap.size,v38) :: (w29.heap.size,v36) :: (w23.heap.size,v29) :: (w22.heap.size,v31) :: (w19.heap.size,v22) :: (w16.heap.size,v19) :: (w13.heap.size,v34) :: (w12.heap.size,v13) :: (w10.heap.size,v12) :: (w8.heap.size,v10) :: (w6.heap.size,v8) :: (w4.heap.size,v6) :: (w2.heap.size,v4) :: (w.heap.size,v2) :: L) from by rw[hv];exact hq)
     have S38:=Lz (show Sz 522 v38 from by rw[hv];exact S37.out.mul S37.out)
     have E38:=Lz hv
     clear hq hv
     clear cP
     have cP:=K0.out w38 O38.out.kept
     go_wp2_with fail
     refine(subO O38.out 0 0 13 rfl rfl rfl NRz3.out (S38.out.le (by decide:522<=640000)) (S2.out.le (by decide:260<=640000))).mono ?_
     rintro en w39 ⟨rfl,hq⟩
     obtain⟨v39,hv⟩:∃ v39:Int,v39=v38-v2:=⟨_,rfl⟩
     have O39:=Lz (show Own R w w39 ((w36.heap.size,v39) :: (w29.heap.size,v36) :: (w23.heap.size,v29) :: (w22.heap.size,v31) :: (w19.heap.size,v22) :: (w16.heap.size,v19) :: (w13.heap.size,v34) :: (w12.heap.size,v13) :: (w10.heap.size,v12) :: (w8.heap.size,v10) :: (w6.heap.size,v8) :: (w4.heap.size,v6) :: (w2.heap.size,v4) :: (w.heap.size,v2) :: L) from by rw[hv];exact hq)
     have S39:=Lz (show Sz 523 v39 from by rw[hv];exact(S38.out.le (by decide:522<=522)).sub (S2.out.le (by decide:260<=522)))
     have E39:=Lz hv
     clear hq hv
     clear cP
     have cP:=K0.out w39 O39.out.kept
     go_upto_if 220 with(go_at_call 121;refine(signO O39.out 0 rfl).mono ?_;rintro en wq ⟨rfl,rfl⟩)
     obtain⟨v40,hv⟩:∃ v40:Int,v40=(if v39<0 then v39+p else v39):=⟨_,rfl⟩
     have E40:=Lz hv
     have S40:=Lz (show Sz 524 v40 from by rw[hv];exact sz_fixB (S39.out.le (by decide:523<=523)) (SP.out.le (by decide:260<=523)))
     clear hv
     go_cut [] from 31 (λwx=>Own R w wx ((w36.heap.size,v40) :: (w29.heap.size,v36) :: (w23.heap.size,v29) :: (w22.heap.size,v31) :: (w19.heap.size,v22) :: (w16.heap.size,v19) :: (w13.heap.size,v34) :: (w12.heap.size,v13) :: (w10.heap.size,v12) :: (w8.heap.size,v10) :: (w6.heap.size,v8) :: (w4.heap.size,v6) :: (w2.heap.size,v4) :: (w.heap.size,v2) :: L))
     case first=>
      as_aux_lemma=>
       by_cases hc:v39<0
       . have hs:(v39.sign==(-1:Int))=true:=by rw[Int.sign_eq_neg_one_of_neg hc];rfl
         have HV:=Lz (show v40=v39+p by rw[E40.out,if_pos hc])
         clear hc
         go_wp2_with fail
         refine(addO O39.out 0 0 (iP+14) rfl rfl HP.out NRz3.out (S39.out.le (by decide:523<=640000)) (SP.out.le (by decide:260<=640000))).mono ?_
         rintro en wq ⟨rfl,hq⟩
         have HQ:=Lz (show Own R w wq ((w36.heap.size,v40) :: (w29.heap.size,v36) :: (w23.heap.size,v29) :: (w22.heap.size,v31) :: (w19.heap.size,v22) :: (w16.heap.size,v19) :: (w13.heap.size,v34) :: (w12.heap.size,v13) :: (w10.heap.size,v12) :: (w8.heap.size,v10) :: (w6.heap.size,v8) :: (w4.heap.size,v6) :: (w2.heap.size,v4) :: (w.heap.size,v2) :: L) from by rw[HV.out];exact hq)
         clear hq
         go_wp2_with fail
         go_meet
         case rel=>exact HQ.out
       . have hs:(v39.sign==(-1:Int))=false:=by rw[beq_eq_false_iff_ne];exact sign_neB hc
         have HQ:=Lz (show Own R w w39 ((w36.heap.size,v40) :: (w29.heap.size,v36) :: (w23.heap.size,v29) :: (w22.heap.size,v31) :: (w19.heap.size,v22) :: (w16.heap.size,v19) :: (w13.heap.size,v34) :: (w12.heap.size,v13) :: (w10.heap.size,v12) :: (w8.heap.size,v10) :: (w6.heap.size,v8) :: (w4.heap.size,v6) :: (w2.heap.size,v4) :: (w.heap.size,v2) :: L) from by rw[E40.out,if_neg hc];exact O39.out)
         clear hc
         go_wp2_with fail
         go_meet
         case rel=>exact HQ.out
     case rest=>
      as_aux_lemma=>
       obtain⟨w40,hwc⟩:∃ w40,w40=wc:=⟨_,rfl⟩
       subst hwc
       have O40:=Lz hcut
       clear hcut
       clear cP
       have cP:=K0.out w40 O40.out.kept
       go_wp2_with fail
       refine(subO O40.out 0 0 12 rfl rfl rfl NRz3.out (S40.out.le (by decide:524<=640000)) (S4.out.le (by decide:260<=640000))).mono ?_
       rintro en w41 ⟨rfl,hq⟩
       obtain⟨v41,hv⟩:∃ v41:Int,v41=v40-v4:=⟨_,rfl⟩
       have O41:=Lz (show Own R w w41 ((w36.heap.size,v41) :: (w29.heap.size,v36) :: (w23.heap.size,v29) :: (w22.heap.size,v31) :: (w19.heap.size,v22) :: (w16.heap.size,v19) :: (w13.heap.size,v34) :: (w12.heap.size,v13) :: (w10.heap.size,v12) :: (w8.heap.size,v10) :: (w6.heap.size,v8) :: (w4.heap.size,v6) :: (w2.heap.size,v4) :: (w.heap.size,v2) :: L) from by rw[hv];exact hq)
       have S41:=Lz (show Sz 525 v41 from by rw[hv];exact(S40.out.le (by decide:524<=524)).sub (S4.out.le (by decide:260<=524)))
       have E41:=Lz hv
       clear hq hv
       clear cP
       have cP:=K0.out w41 O41.out.kept
       go_upto_if 234 with(go_at_call 121;refine(signO O41.out 0 rfl).mono ?_;rintro en wq ⟨rfl,rfl⟩)
       obtain⟨v42,hv⟩:∃ v42:Int,v42=(if v41<0 then v41+p else v41):=⟨_,rfl⟩
       have E42:=Lz hv
       have S42:=Lz (show Sz 526 v42 from by rw[hv];exact sz_fixB (S41.out.le (by decide:525<=525)) (SP.out.le (by decide:260<=525)))
       clear hv
       go_cut [] from 31 (λwx=>Own R w wx ((w36.heap.size,v42) :: (w29.heap.size,v36) :: (w23.heap.size,v29) :: (w22.heap.size,v31) :: (w19.heap.size,v22) :: (w16.heap.size,v19) :: (w13.heap.size,v34) :: (w12.heap.size,v13) :: (w10.heap.size,v12) :: (w8.heap.size,v10) :: (w6.heap.size,v8) :: (w4.heap.size,v6) :: (w2.heap.size,v4) :: (w.heap.size,v2) :: L))
       case first=>
        as_aux_lemma=>
         by_cases hc:v41<0
         . have hs:(v41.sign==(-1:Int))=true:=by rw[Int.sign_eq_neg_one_of_neg hc];rfl
           have HV:=Lz (show v42=v41+p by rw[E42.out,if_pos hc])
           clear hc
           go_wp2_with fail
           refine(addO O41.out 0 0 (iP+14) rfl rfl HP.out NRz3.out (S41.out.le (by decide:525<=640000)) (SP.out.le (by decide:260<=640000))).mono ?_
           rintro en wq ⟨rfl,hq⟩
           have HQ:=Lz (show Own R w wq ((w36.heap.size,v42) :: (w29.heap.size,v36) :: (w23.heap.size,v29) :: (w22.heap.size,v31) :: (w19.heap.size,v22) :: (w16.heap.size,v19) :: (w13.heap.size,v34) :: (w12.heap.size,v13) :: (w10.heap.size,v12) :: (w8.heap.size,v10) :: (w6.heap.size,v8) :: (w4.heap.size,v6) :: (w2.heap.size,v4) :: (w.heap.size,v2) :: L) from by rw[HV.out];exact hq)
           clear hq
           go_wp2_with fail
           go_meet
           case rel=>exact HQ.out
         . have hs:(v41.sign==(-1:Int))=false:=by rw[beq_eq_false_iff_ne];exact sign_neB hc
           have HQ:=Lz (show Own R w w41 ((w36.heap.size,v42) :: (w29.heap.size,v36) :: (w23.heap.size,v29) :: (w22.heap.size,v31) :: (w19.heap.size,v22) :: (w16.heap.size,v19) :: (w13.heap.size,v34) :: (w12.heap.size,v13) :: (w10.heap.size,v12) :: (w8.heap.size,v10) :: (w6.heap.size,v8) :: (w4.heap.size,v6) :: (w2.heap.size,v4) :: (w.heap.size,v2) :: L) from by rw[E42.out,if_neg hc];exact O41.out)
           clear hc
           go_wp2_with fail
           go_meet
           case rel=>exact HQ.out
       case rest=>
        as_aux_lemma=>
         obtain⟨w42,hwc⟩:∃ w42,w42=wc:=⟨_,rfl⟩
         subst hwc
         have O42:=Lz hcut
         clear hcut
         clear cP
         have cP:=K0.out w42 O42.out.kept
         go_wp2_with fail
         refine(mulO O42.out 0 0 9 rfl rfl rfl NRz3.out (S42.out.le (by decide:526<=704)) (S10.out.le (by decide:262<=2496))).mono ?_
         rintro en w43 ⟨rfl,hq⟩
         obtain⟨v43,hv⟩:∃ v43:Int,v43=v42*v10:=⟨_,rfl⟩
         have O43:=Lz (show Own R w w43 ((w36.heap.size,v43) :: (w29.heap.size,v36) :: (w23.heap.size,v29) :: (w22.heap.size,v31) :: (w19.heap.size,v22) :: (w16.heap.size,v19) :: (w13.heap.size,v34) :: (w12.heap.size,v13) :: (w10.heap.size,v12) :: (w8.heap.size,v10) :: (w6.heap.size,v8) :: (w4.heap.size,v6) :: (w2.heap.size,v4) :: (w.heap.size,v2) :: L) from by rw[hv];exact hq)
         have S43:=Lz (show Sz 788 v43 from by rw[hv];exact S42.out.mul S10.out)
         have E43:=Lz hv
         clear hq hv
         clear cP
         have cP:=K0.out w43 O43.out.kept
         go_wp2_with fail
         refine(modO O43.out 0 0 (iP+14) rfl rfl HP.out (by omega) NRz3.out (S43.out.le (by decide:788<=630000)) (SP.out.le (by decide:260<=630000)) HD.out HP0.out).mono ?_
         rintro en w44 ⟨rfl,hq⟩
         obtain⟨v44,hv⟩:∃ v44:Int,v44=v43%p:=⟨_,rfl⟩
         have O44:=Lz (show Own R w w44 ((w36.heap.size,v44) :: (w29.heap.size,v36) :: (w23.heap.size,v29) :: (w22.heap.size,v31) :: (w19.heap.size,v22) :: (w16.heap.size,v19) :: (w13.heap.size,v34) :: (w12.heap.size,v13) :: (w10.heap.size,v12) :: (w8.heap.size,v10) :: (w6.heap.size,v8) :: (w4.heap.size,v6) :: (w2.heap.size,v4) :: (w.heap.size,v2) :: L) from by rw[hv];exact hq)
         have S44:=Lz (show Sz 260 v44 from by rw[hv];exact Sz.emod _ HP0.out SP.out)
         have E44:=Lz hv
         clear hq hv
         clear cP
         have cP:=K0.out w44 O44.out.kept
         go_wp2_with fail
         have hO:Own R w w44 (((w36.heap.size,v44):Nat×Int) :: (w29.heap.size,v36) :: (w23.heap.size,v29) :: L):=Own.choose (L:=L) (A:=[(w36.heap.size,v44),(w29.heap.size,v36),(w23.heap.size,v29),(w22.heap.size,v31),(w19.heap.size,v22),(w16.heap.size,v19),(w13.heap.size,v34),(w12.heap.size,v13),(w10.heap.size,v12),(w8.heap.size,v10),(w6.heap.size,v8),(w4.heap.size,v6),(w2.heap.size,v4),(w.heap.size,v2)]) O44.out [0,1,2] (by decide) (by simp)
         have HO:=Lz hO
         have HST:=Lz (show BitAdd X1 Y1 Z1 X2 Y2 Z2 p v29 v36 v44 from⟨v1,v2,v3,v4,v5,v6,v7,v8,v9,v10,v11,v12,v13,v14,v15,v16,v17,v18,v19,v20,v21,v22,v23,v24,v25,v26,v27,v28,v30,v31,v32,v33,v34,v35,v37,v38,v39,v40,v41,v42,v43,E1.out,E2.out,E3.out,E4.out,E5.out,E6.out,E7.out,E8.out,E9.out,E10.out,E11.out,E12.out,E13.out,E14.out,E15.out,E16.out,E17.out,E18.out,E19.out,E20.out,E21.out,E22.out,E23.out,E24.out,E25.out,E26.out,E27.out,E28.out,E29.out,E30.out,E31.out,E32.out,E33.out,E34.out,E35.out,E36.out,E37.out,E38.out,E39.out,E40.out,E41.out,E42.out,E43.out,E44.out⟩)
         go_ret3
         exact⟨w23.heap.size,w29.heap.size,w36.heap.size,v29,v36,v44,rfl,HSS.out.after HO.out,NRx3.out,NRy3.out,NRz3.out,HST.out⟩
end
end Go.Proofs.YtohhkjamddojmaaGreatDoor.Big
