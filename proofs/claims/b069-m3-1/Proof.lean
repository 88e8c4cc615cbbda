import JvmDerived
import JvmDerived.Pilot.@@N@@Statement
import JvmDerived.Pilot.@@N@@Code
set_option linter.unusedVariables false
set_option linter.unusedSimpArgs false
namespace Jvm.RoadKit
open Sem ClassFile Op Lib Jvm.Stand Jvm.Free Jvm.LawKit
section New
variable {p : Program} {l : Launch} {e : Env} {R : Room} {s : State} {m : MethodId} {args : Array Value} {below : List Frame} {meth : Method} {c : Code} {T : State} {locs : List Loc} {cells slots : Nat}
theorem retI (X : Stand p l e R s m args below meth c T locs cells slots) (hx : p.tables.exec = Jvm.exec) {pc : Nat} {Ls : Array Slot} {z : Int32} {rest : List Value} (hret : meth.sig.returnType = some .int) (hd : decode c.code pc = .ok (.ireturn, 1)) {fs : List Frame}
    (hl : ∀ (f : JFrame) (acts : List Action), f.method = m → f.locked = none → f.entered = [] → (doReturn e (T.setTop f) acts (some (.int z))).1 = T.setFrames fs) : Steps p.tables e below (T.setTop (mkF m pc Ls (.int z :: rest))) (T.setFrames fs) := by
  have hm' : T.vm.method? m = some meth := X.method'
  have hn : narrow .int (.int z) = .int z := rfl
  show Steps p.tables e below (T.setTop { method := m, pc := pc, locals := Ls, stack := _ :: rest, locked := none }) _
  jvm_step X.here [X.here.top, hx, hd, hm', hret, hn]
  first | (intro acts; rw [hl _ acts rfl rfl rfl]) | rw [hl _ _ rfl rfl rfl]
  exact Steps.refl _
end New
end Jvm.RoadKit
namespace Jvm.Pilot.@@N@@
open Jvm Jvm.ClassFile Sem Op Lib Jvm.Free Jvm.Stand Jvm.LawKit Jvm.RoadKit Bundle Jvm.Pilot.@@N@@.Jvm.D
theorem own_m {α : Type} {L : List α} {x : α} (i : Nat) (h : L[i]? = some x) : x ∈ L := List.mem_of_getElem? h
theorem own_top {tb : Tables} {e : Env} {below : List Frame} {T t : State} {m : MethodId} {pc : Nat} {Ls : Array Slot} {v v' : Value} {rest : List Value} (q : v = v') (k : Steps tb e below (T.setTop (mkF m pc Ls (v' :: rest))) t) : Steps tb e below (T.setTop (mkF m pc Ls (v :: rest))) t := q ▸ k
theorem own_le {Z : State} {n0 : Nat} {h : Heap} (O : Old Z n0 h) : n0 ≤ h.size := O.1 ▸ O.2.1
theorem own_eqI {args : Array Value} {first s : State} {o : Option Outcome} {idx : List Nat} {t : Term} {k : Int32} (h : (Jvm.Cond.eq t (.int k)).value args first o s idx = some true) : t.eval args first o idx s = some (.int k) := by
  cases ht : t.eval args first o idx s with
  | none => simp [Cond.value, Term.eval, ht] at h
  | some x => cases x <;> simp [Cond.value, Term.eval, ht] at h ⊢; exact h
theorem own_eqJ {args : Array Value} {first s : State} {o : Option Outcome} {idx : List Nat} {t : Term} {k : Int64} (h : (Jvm.Cond.eq t (.long k)).value args first o s idx = some true) : t.eval args first o idx s = some (.long k) := by
  cases ht : t.eval args first o idx s with
  | none => simp [Cond.value, Term.eval, ht] at h
  | some x => cases x <;> simp [Cond.value, Term.eval, ht] at h ⊢; exact h
theorem own_eqR {args : Array Value} {first s : State} {o : Option Outcome} {idx : List Nat} {t u : Term} {b : Addr} (h : (Jvm.Cond.eq t u).value args first o s idx = some true) (hu : u.eval args first o idx s = some (.ref b)) : t.eval args first o idx s = some (.ref b) := by
  cases ht : t.eval args first o idx s with
  | none => simp [Cond.value, ht] at h
  | some x => cases x <;> simp [Cond.value, ht, hu] at h ⊢; exact h
def own_En (Z : State) (h : Heap) (C f d : String) (w : Addr) (k : Int32) : Prop := Sta Z h C f d (.ref w) ∧ Exa Z h w C ∧ Fld Z h w "java/lang/Enum" "ordinal" "I" (.int k)
theorem own_d1_0 : decode method_2_code 0 = .ok (.iload_n 2, 1) := by decide +kernel
theorem own_d1_1 : decode method_2_code 1 = .ok (.iconst 3, 1) := by decide +kernel
theorem own_d1_2 : decode method_2_code 2 = .ok (.iand, 1) := by decide +kernel
theorem own_d1_3 : decode method_2_code 3 = .ok (.istore_n 3, 1) := by decide +kernel
theorem own_d1_4 : decode method_2_code 4 = .ok (.iload_n 3, 1) := by decide +kernel
theorem own_d1_5 : decode method_2_code 5 = .ok (.ifCond .ne 15, 3) := by decide +kernel
theorem own_d1_8 : decode method_2_code 8 = .ok (.lconst 1, 1) := by decide +kernel
theorem own_d1_9 : decode method_2_code 9 = .ok (.lload_n 0, 1) := by decide +kernel
theorem own_d1_10 : decode method_2_code 10 = .ok (.ldc2_w 9, 3) := by decide +kernel
theorem own_d1_13 : decode method_2_code 13 = .ok (.land, 1) := by decide +kernel
theorem own_d1_14 : decode method_2_code 14 = .ok (.ldc2_w 11, 3) := by decide +kernel
theorem own_d1_17 : decode method_2_code 17 = .ok (.lrem, 1) := by decide +kernel
theorem own_d1_18 : decode method_2_code 18 = .ok (.ladd, 1) := by decide +kernel
theorem own_d1_19 : decode method_2_code 19 = .ok (.lreturn, 1) := by decide +kernel
theorem own_d1_20 : decode method_2_code 20 = .ok (.iload_n 3, 1) := by decide +kernel
theorem own_d1_21 : decode method_2_code 21 = .ok (.iconst 1, 1) := by decide +kernel
theorem own_d1_22 : decode method_2_code 22 = .ok (.if_icmp .ne 13, 3) := by decide +kernel
theorem own_d1_25 : decode method_2_code 25 = .ok (.ldc2_w 15, 3) := by decide +kernel
theorem own_d1_28 : decode method_2_code 28 = .ok (.lload_n 0, 1) := by decide +kernel
theorem own_d1_29 : decode method_2_code 29 = .ok (.ldc2_w 17, 3) := by decide +kernel
theorem own_d1_32 : decode method_2_code 32 = .ok (.lrem, 1) := by decide +kernel
theorem own_d1_33 : decode method_2_code 33 = .ok (.ladd, 1) := by decide +kernel
theorem own_d1_34 : decode method_2_code 34 = .ok (.lreturn, 1) := by decide +kernel
theorem own_d1_35 : decode method_2_code 35 = .ok (.iload_n 3, 1) := by decide +kernel
theorem own_d1_36 : decode method_2_code 36 = .ok (.iconst 2, 1) := by decide +kernel
theorem own_d1_37 : decode method_2_code 37 = .ok (.if_icmp .ne 11, 3) := by decide +kernel
theorem own_d1_40 : decode method_2_code 40 = .ok (.lconst 1, 1) := by decide +kernel
theorem own_d1_41 : decode method_2_code 41 = .ok (.lload_n 0, 1) := by decide +kernel
theorem own_d1_42 : decode method_2_code 42 = .ok (.ldc2_w 19, 3) := by decide +kernel
theorem own_d1_45 : decode method_2_code 45 = .ok (.land, 1) := by decide +kernel
theorem own_d1_46 : decode method_2_code 46 = .ok (.ladd, 1) := by decide +kernel
theorem own_d1_47 : decode method_2_code 47 = .ok (.lreturn, 1) := by decide +kernel
theorem own_d1_48 : decode method_2_code 48 = .ok (.lconst 1, 1) := by decide +kernel
theorem own_d1_49 : decode method_2_code 49 = .ok (.lload_n 0, 1) := by decide +kernel
theorem own_d1_50 : decode method_2_code 50 = .ok (.ldc2_w 9, 3) := by decide +kernel
theorem own_d1_53 : decode method_2_code 53 = .ok (.land, 1) := by decide +kernel
theorem own_d1_54 : decode method_2_code 54 = .ok (.ldc2_w 15, 3) := by decide +kernel
theorem own_d1_57 : decode method_2_code 57 = .ok (.lrem, 1) := by decide +kernel
theorem own_d1_58 : decode method_2_code 58 = .ok (.ladd, 1) := by decide +kernel
theorem own_d1_59 : decode method_2_code 59 = .ok (.lreturn, 1) := by decide +kernel
theorem own_d2_0 : decode prog_5_method_1_code 0 = .ok (.aload_n 0, 1) := by decide +kernel
theorem own_d2_1 : decode prog_5_method_1_code 1 = .ok (.invokespecial 1, 3) := by decide +kernel
theorem own_d2_4 : decode prog_5_method_1_code 4 = .ok (.lload_n 1, 1) := by decide +kernel
theorem own_d2_5 : decode prog_5_method_1_code 5 = .ok (.lconst 1, 1) := by decide +kernel
theorem own_d2_6 : decode prog_5_method_1_code 6 = .ok (.lcmp, 1) := by decide +kernel
theorem own_d2_7 : decode prog_5_method_1_code 7 = .ok (.ifCond .lt 11, 3) := by decide +kernel
theorem own_d2_10 : decode prog_5_method_1_code 10 = .ok (.lload_n 1, 1) := by decide +kernel
theorem own_d2_11 : decode prog_5_method_1_code 11 = .ok (.ldc2_w 9, 3) := by decide +kernel
theorem own_d2_14 : decode prog_5_method_1_code 14 = .ok (.lcmp, 1) := by decide +kernel
theorem own_d2_15 : decode prog_5_method_1_code 15 = .ok (.ifCond .le 13, 3) := by decide +kernel
theorem own_d2_28 : decode prog_5_method_1_code 28 = .ok (.aload_n 0, 1) := by decide +kernel
theorem own_d2_29 : decode prog_5_method_1_code 29 = .ok (.lload_n 1, 1) := by decide +kernel
theorem own_d2_30 : decode prog_5_method_1_code 30 = .ok (.putfield 19, 3) := by decide +kernel
theorem own_d2_33 : decode prog_5_method_1_code 33 = .ok (.return_, 1) := by decide +kernel
theorem own_d3_0 : decode jdk_30_method_1_code 0 = .ok (.aload_n 0, 1) := by decide +kernel
theorem own_d3_1 : decode jdk_30_method_1_code 1 = .ok (.invokespecial 1, 3) := by decide +kernel
theorem own_d3_4 : decode jdk_30_method_1_code 4 = .ok (.return_, 1) := by decide +kernel
theorem own_d5_0 : decode prog_5_method_4_code 0 = .ok (.getstatic 52, 3) := by decide +kernel
theorem own_d5_3 : decode prog_5_method_4_code 3 = .ok (.aload_n 0, 1) := by decide +kernel
theorem own_d5_4 : decode prog_5_method_4_code 4 = .ok (.getfield 19, 3) := by decide +kernel
theorem own_d5_7 : decode prog_5_method_4_code 7 = .ok (.invokevirtual 58, 3) := by decide +kernel
theorem own_d5_10 : decode prog_5_method_4_code 10 = .ok (.lstore_n 1, 1) := by decide +kernel
theorem own_d5_11 : decode prog_5_method_4_code 11 = .ok (.lload_n 1, 1) := by decide +kernel
theorem own_d5_12 : decode prog_5_method_4_code 12 = .ok (.ldc2_w 64, 3) := by decide +kernel
theorem own_d5_15 : decode prog_5_method_4_code 15 = .ok (.ldiv, 1) := by decide +kernel
theorem own_d5_16 : decode prog_5_method_4_code 16 = .ok (.getstatic 66, 3) := by decide +kernel
theorem own_d5_19 : decode prog_5_method_4_code 19 = .ok (.ladd, 1) := by decide +kernel
theorem own_d5_20 : decode prog_5_method_4_code 20 = .ok (.lstore_n 3, 1) := by decide +kernel
theorem own_d5_21 : decode prog_5_method_4_code 21 = .ok (.lload_n 1, 1) := by decide +kernel
theorem own_d5_22 : decode prog_5_method_4_code 22 = .ok (.lload_n 3, 1) := by decide +kernel
theorem own_d5_23 : decode prog_5_method_4_code 23 = .ok (.lsub, 1) := by decide +kernel
theorem own_d5_24 : decode prog_5_method_4_code 24 = .ok (.lreturn, 1) := by decide +kernel
theorem own_d6_0 : decode jdk_2799_method_7_code 0 = .ok (.aload_n 0, 1) := by decide +kernel
theorem own_d6_1 : decode jdk_2799_method_7_code 1 = .ok (.getfield 44, 3) := by decide +kernel
theorem own_d6_4 : decode jdk_2799_method_7_code 4 = .ok (.dup2, 1) := by decide +kernel
theorem own_d6_5 : decode jdk_2799_method_7_code 5 = .ok (.lstore_n 3, 1) := by decide +kernel
theorem own_d6_6 : decode jdk_2799_method_7_code 6 = .ok (.lconst 1, 1) := by decide +kernel
theorem own_d6_7 : decode jdk_2799_method_7_code 7 = .ok (.lcmp, 1) := by decide +kernel
theorem own_d6_8 : decode jdk_2799_method_7_code 8 = .ok (.ifCond .ne 5, 3) := by decide +kernel
theorem own_d6_13 : decode jdk_2799_method_7_code 13 = .ok (.lload_n 1, 1) := by decide +kernel
theorem own_d6_14 : decode jdk_2799_method_7_code 14 = .ok (.aload_n 0, 1) := by decide +kernel
theorem own_d6_15 : decode jdk_2799_method_7_code 15 = .ok (.getfield 52, 3) := by decide +kernel
theorem own_d6_18 : decode jdk_2799_method_7_code 18 = .ok (.dup2, 1) := by decide +kernel
theorem own_d6_19 : decode jdk_2799_method_7_code 19 = .ok (.lstore 5, 2) := by decide +kernel
theorem own_d6_21 : decode jdk_2799_method_7_code 21 = .ok (.lcmp, 1) := by decide +kernel
theorem own_d6_22 : decode jdk_2799_method_7_code 22 = .ok (.ifCond .le 7, 3) := by decide +kernel
theorem own_d6_25 : decode jdk_2799_method_7_code 25 = .ok (.ldc2_w 50, 3) := by decide +kernel
theorem own_d6_28 : decode jdk_2799_method_7_code 28 = .ok (.lreturn, 1) := by decide +kernel
theorem own_d6_29 : decode jdk_2799_method_7_code 29 = .ok (.lload_n 1, 1) := by decide +kernel
theorem own_d6_30 : decode jdk_2799_method_7_code 30 = .ok (.lload 5, 2) := by decide +kernel
theorem own_d6_32 : decode jdk_2799_method_7_code 32 = .ok (.lneg, 1) := by decide +kernel
theorem own_d6_33 : decode jdk_2799_method_7_code 33 = .ok (.lcmp, 1) := by decide +kernel
theorem own_d6_34 : decode jdk_2799_method_7_code 34 = .ok (.ifCond .ge 7, 3) := by decide +kernel
theorem own_d6_41 : decode jdk_2799_method_7_code 41 = .ok (.lload_n 1, 1) := by decide +kernel
theorem own_d6_42 : decode jdk_2799_method_7_code 42 = .ok (.lload_n 3, 1) := by decide +kernel
theorem own_d6_43 : decode jdk_2799_method_7_code 43 = .ok (.lmul, 1) := by decide +kernel
theorem own_d6_44 : decode jdk_2799_method_7_code 44 = .ok (.lreturn, 1) := by decide +kernel
theorem own_d7_0 : decode method_3_code 0 = .ok (.lload_n 0, 1) := by decide +kernel
theorem own_d7_1 : decode method_3_code 1 = .ok (.ldc2_w 15, 3) := by decide +kernel
theorem own_d7_4 : decode method_3_code 4 = .ok (.lcmp, 1) := by decide +kernel
theorem own_d7_5 : decode method_3_code 5 = .ok (.ifCond .gt 13, 3) := by decide +kernel
theorem own_d7_8 : decode method_3_code 8 = .ok (.lload_n 0, 1) := by decide +kernel
theorem own_d7_9 : decode method_3_code 9 = .ok (.ldc2_w 21, 3) := by decide +kernel
theorem own_d7_12 : decode method_3_code 12 = .ok (.lmul, 1) := by decide +kernel
theorem own_d7_13 : decode method_3_code 13 = .ok (.ldc2_w 23, 3) := by decide +kernel
theorem own_d7_16 : decode method_3_code 16 = .ok (.lsub, 1) := by decide +kernel
theorem own_d7_17 : decode method_3_code 17 = .ok (.lreturn, 1) := by decide +kernel
theorem own_d7_18 : decode method_3_code 18 = .ok (.ldc2_w 25, 3) := by decide +kernel
theorem own_d7_21 : decode method_3_code 21 = .ok (.lreturn, 1) := by decide +kernel
theorem own_pn0 : plainName "java/lang/Record" = true := by first | (simp [plainName, overriddenIn]; done) | decide +kernel
theorem own_pn1 : plainName "com/example/horkos/horkos/internal/Lease" = true := by first | (simp [plainName, overriddenIn]; done) | decide +kernel
theorem own_pn2 : plainName "java/util/concurrent/TimeUnit" = true := by first | (simp [plainName, overriddenIn]; done) | decide +kernel
theorem own_pn3 : plainName "com/example/horkos/horkos/internal/LeaseValidityNanosPinLaw" = true := by first | (simp [plainName, overriddenIn]; done) | decide +kernel
theorem own_pd0 : parseMethodDescriptor "()V" = some ⟨[], none⟩ := by decide +kernel
theorem own_pd1 : parseMethodDescriptor "(J)J" = some ⟨[.long], some .long⟩ := by decide +kernel
theorem own_pd2 : parseMethodDescriptor "(JI)J" = some ⟨[.long, .int], some .long⟩ := by decide +kernel
theorem own_pd3 : parseMethodDescriptor "(J)V" = some ⟨[.long], none⟩ := by decide +kernel
theorem own_pd4 : parseMethodDescriptor "()J" = some ⟨[], some .long⟩ := by decide +kernel
theorem own_mask2 (x : Int32) : (x &&& (3 : Int32)) = (0 : Int32) ∨ (x &&& (3 : Int32)) = (1 : Int32) ∨ (x &&& (3 : Int32)) = (2 : Int32) ∨ (x &&& (3 : Int32)) = (3 : Int32) := by
  have h1 : (x &&& (3 : Int32)).toInt = x.toInt % (2 ^ 2 : Nat) := c_mask x 3 2 (by decide) (by decide)
  generalize (x &&& (3 : Int32)) = k at h1 ⊢
  simp only [← Int32.toInt_inj, show (0 : Int32).toInt = 0 from by decide, show (1 : Int32).toInt = 1 from by decide, show (2 : Int32).toInt = 2 from by decide, show (3 : Int32).toInt = 3 from by decide]
  omega
theorem own_neg {q : Int64} (h : ¬ q < (1 : Int64)) : ¬ q < (-9223372036854 : Int64) := by
  rw [Int64.lt_iff_toInt_lt] at *
  have e1 : (1 : Int64).toInt = 1 := by decide
  have e2 : (-9223372036854 : Int64).toInt = -9223372036854 := by decide
  omega
theorem own_key {Q A B D E F G : Int} (h1 : ¬ Q < 1) (h2 : ¬ 9223372036854 < Q) (a1 : (A - Q * 1000000) % 18446744073709551616 = 0) (a2 : 0 ≤ A → B = A / 100) (a3 : (D - (B + 2000000)) % 18446744073709551616 = 0) (a4 : (E - (A - D)) % 18446744073709551616 = 0)
    (a5 : (F - Q * 990000) % 18446744073709551616 = 0) (a6 : (G - (F - 2000000)) % 18446744073709551616 = 0) (r1 : -9223372036854775808 ≤ A ∧ A < 9223372036854775808) (r3 : -9223372036854775808 ≤ D ∧ D < 9223372036854775808) (r4 : -9223372036854775808 ≤ F ∧ F < 9223372036854775808)
    (r5 : -9223372036854775808 ≤ E ∧ E < 9223372036854775808) (r6 : -9223372036854775808 ≤ G ∧ G < 9223372036854775808) : E = G := by
  have b1 : A = Q * 1000000 := by clear a2 a3 a4 a5 a6 r3 r4 r5 r6; omega
  have b2 : B = Q * 10000 := by have := a2 (by omega); clear a1 a2 a3 a4 a5 a6 r3 r4 r5 r6 r1; omega
  have b3 : D = Q * 10000 + 2000000 := by clear a1 a2 a4 a5 a6 r4 r5 r6 r1 b1; omega
  have b4 : F = Q * 990000 := by clear a1 a2 a3 a4 a6 r3 r5 r6 r1 b1 b2 b3; omega
  have b5 : E = Q * 990000 - 2000000 := by clear a1 a2 a3 a5 a6 r3 r4 r6 r1 b2 b4; omega
  have b6 : G = Q * 990000 - 2000000 := by clear a1 a2 a3 a4 a5 r3 r4 r5 r1 b1 b2 b3 b5; omega
  rw [b5, b6]
theorem own_same {q : Int64} (h1 : ¬ q < (1 : Int64)) (h2 : ¬ (9223372036854 : Int64) < q) : ((q * (1000000 : Int64)) - (((q * (1000000 : Int64)) / (100 : Int64)) + (2000000 : Int64))) = ((q * (990000 : Int64)) - (2000000 : Int64)) :=
  Int64.toInt_inj.mp (own_key (fun k => h1 (Int64.lt_iff_toInt_lt.mpr k)) (fun k => h2 (Int64.lt_iff_toInt_lt.mpr k)) (c_lmul q (1000000 : Int64)) (c_ldiv (q * (1000000 : Int64)) (100 : Int64) 100 (by decide) (by decide)).1 (c_ladd ((q * (1000000 : Int64)) / (100 : Int64)) (2000000 : Int64))
    (c_lsub (q * (1000000 : Int64)) (((q * (1000000 : Int64)) / (100 : Int64)) + (2000000 : Int64))) (c_lmul q (990000 : Int64)) (c_lsub (q * (990000 : Int64)) (2000000 : Int64)) (rng64 _) (rng64 _) (rng64 _) (rng64 _) (rng64 _))
theorem own_lit : (1 : Int64).toInt = 1 ∧ (4611686018427387904 : Int64).toInt = 4611686018427387904 ∧ (9223372036854 : Int64).toInt = 9223372036854 := by decide
theorem own_b0 (q : Int64) : ¬ ((1 : Int64) + ((q &&& (9223372036854775807 : Int64)) % (4611686018427387904 : Int64))) < (1 : Int64) ∧ ¬ (4611686018427387904 : Int64) < ((1 : Int64) + ((q &&& (9223372036854775807 : Int64)) % (4611686018427387904 : Int64))) := by
  obtain ⟨l1, l2, l3⟩ := own_lit
  have a1 := c_maskL q (9223372036854775807 : Int64) 63 (by decide) (by decide)
  have a2 := c_lrem (q &&& (9223372036854775807 : Int64)) (4611686018427387904 : Int64) 4611686018427387904 (by decide)
  rw [lrem_mod] at a2
  have a3 := c_ladd (1 : Int64) ((q &&& (9223372036854775807 : Int64)) % (4611686018427387904 : Int64))
  have r3 := rng64 ((1 : Int64) + ((q &&& (9223372036854775807 : Int64)) % (4611686018427387904 : Int64)))
  rw [Int64.lt_iff_toInt_lt, Int64.lt_iff_toInt_lt]
  omega
theorem own_b1 (q : Int64) : ¬ ((9223372036854 : Int64) + (q % (8 : Int64))) < (1 : Int64) ∧ ¬ (4611686018427387904 : Int64) < ((9223372036854 : Int64) + (q % (8 : Int64))) := by
  obtain ⟨l1, l2, l3⟩ := own_lit
  have a2 := c_lrem q (8 : Int64) 8 (by decide)
  rw [lrem_mod] at a2
  have a3 := c_ladd (9223372036854 : Int64) (q % (8 : Int64))
  have r3 := rng64 ((9223372036854 : Int64) + (q % (8 : Int64)))
  rw [Int64.lt_iff_toInt_lt, Int64.lt_iff_toInt_lt]
  omega
theorem own_b2 (q : Int64) : ¬ ((1 : Int64) + (q &&& (65535 : Int64))) < (1 : Int64) ∧ ¬ (4611686018427387904 : Int64) < ((1 : Int64) + (q &&& (65535 : Int64))) := by
  obtain ⟨l1, l2, l3⟩ := own_lit
  have a1 := c_maskL q (65535 : Int64) 16 (by decide) (by decide)
  have a3 := c_ladd (1 : Int64) (q &&& (65535 : Int64))
  have r3 := rng64 ((1 : Int64) + (q &&& (65535 : Int64)))
  rw [Int64.lt_iff_toInt_lt, Int64.lt_iff_toInt_lt]
  omega
theorem own_b3 (q : Int64) : ¬ ((1 : Int64) + ((q &&& (9223372036854775807 : Int64)) % (9223372036854 : Int64))) < (1 : Int64) ∧ ¬ (4611686018427387904 : Int64) < ((1 : Int64) + ((q &&& (9223372036854775807 : Int64)) % (9223372036854 : Int64))) := by
  obtain ⟨l1, l2, l3⟩ := own_lit
  have a1 := c_maskL q (9223372036854775807 : Int64) 63 (by decide) (by decide)
  have a2 := c_lrem (q &&& (9223372036854775807 : Int64)) (9223372036854 : Int64) 9223372036854 (by decide)
  rw [lrem_mod] at a2
  have a3 := c_ladd (1 : Int64) ((q &&& (9223372036854775807 : Int64)) % (9223372036854 : Int64))
  have r3 := rng64 ((1 : Int64) + ((q &&& (9223372036854775807 : Int64)) % (9223372036854 : Int64)))
  rw [Int64.lt_iff_toInt_lt, Int64.lt_iff_toInt_lt]
  omega
theorem own_rec_ef (m : MethodId) (a : Addr) : entryFrame m #[(.ref a)] 1 = mkF m 0 #[rv a] [] := by first | (simp [entryFrame, mkF, argsToLocals, Value.category]; done) | rfl
def own_rec_Q (Z : State) (w_MS : Addr) (a : Addr) (h0 : Heap) (n0 : Nat) (v : Option Value) (h : Heap) (L : List Loc) : Prop := v = none ∧ Fr n0 L ∧ h = h0
set_option maxRecDepth 65536 in
set_option maxHeartbeats 40000000 in
theorem own_rec (l : Launch) (Z : State) (a0 : Array Value) (hw : ∀ d ∈ tables_1, d.before a0 Z = true) (ws : List Jvm.Cond) (w_MS : Addr) (a : Addr) (h0 : Heap) (n0 : Nat) (O0 : Old Z n0 h0) (S_MS : Sta Z Z.heap "java/util/concurrent/TimeUnit" "MILLISECONDS" "Ljava/util/concurrent/TimeUnit;" (.ref w_MS)) (E_MS : Exa Z Z.heap w_MS "java/util/concurrent/TimeUnit") (G_MS : Fld Z Z.heap w_MS "java/util/concurrent/TimeUnit" "scale" "J" (.long 1000000)) (M_MS : Fld Z Z.heap w_MS "java/util/concurrent/TimeUnit" "maxNanos" "J" (.long 9223372036854)) (S_DR : Sta Z Z.heap "com/example/horkos/horkos/internal/Lease" "DRIFT_FLOOR_NANOS" "J" (.long 2000000)) :
    MetFree l (⟨"java/lang/Record", "<init>", "()V"⟩ : MethodName) (head1 (Jvm.Cond.code (⟨"java/lang/Record", "<init>", "()V"⟩ : MethodName) jdk_30_method_1_code 1 none :: ws) ({ frames := 1, cells := 0, slots := 0, locals := 12 } : Room)) (fun ar U => ar = #[(.ref a)] ∧ Z.Warmed39 U.vm ∧ U.heap = h0) (fun _ _ _ _ _ => True) (fun _ U oc U' => ∃ v L, oc = .returned v ∧ own_rec_Q Z w_MS a h0 n0 v U'.heap L ∧ FrameEnd U oc U' L ({ frames := 1, cells := 0, slots := 0, locals := 12 } : Room).cells ({ frames := 1, cells := 0, slots := 0, locals := 12 } : Room).slots) := by
  refine MetFree.of_bodySF (plainFor_of_name own_pn0) hisR ?_
  intro p e s m args below meth c s₁ Bd hml0 hP hK
  obtain ⟨rfl, hZ, hh⟩ := hP
  have hx := Bd.exec
  have hby := Bd.bytes
  have hml : c.maxLocals = 1 := hml0
  have hown : s.vm.findClass "java/lang/Record" = some m.cls := findClass_of_methodNamed Bd.named
  have hnm := (name_of_methodNamed Bd.named Bd.method).1
  have X0 : Stand p l e ({ frames := 1, cells := 0, slots := 0, locals := 12 } : Room) s m #[(.ref a)] below meth c s₁ [] 0 0 := Stand.of_body Bd
  have e0 : s₁.heap = h0 := by rw [← hh, Bd.state]; rfl
  have N0 := Fr.nil n0
  have pre0 : ∀ t, Steps p.tables e below (s₁.setTop (mkF m 0 #[rv a] [])) t → Steps p.tables e below (s₁.setTop (entryFrame m #[(.ref a)] 1)) t := fun t k => castTop (own_rec_ef m a) k
  obtain ⟨T1, X1, e1, st1⟩ := initO X0 hx hZ hown (hw _ (own_m 16 rfl)) (hw _ (own_m 17 rfl)) (hw _ (own_m 18 rfl)) e0 (g := (mkF m 1 #[rv a] [(.ref a)])) rfl (by rw [hml]; rfl) rfl (hb hby own_d3_1) (by decide) (W := 0) (by show 2 * 0 + _ ≤ _; exact Nat.le_of_eq rfl) (by decide)
  obtain ⟨fs, hr, hrun, hended, hW, hsame⟩ := X1.leave (v := none) (fun _ => rfl)
  refine ⟨_, _, pre0 _ ?_, hrun, hended, _, _, rfl, ?_, ⟨_, rfl⟩, hW, hsame.mono (by decide) (by decide)⟩
  · show Steps p.tables e below (s₁.setTop (mkF m 0 #[rv a] [])) _
    refine XS.aloadN X0.here hx rfl (hb hby own_d3_0) rfl rfl ?_
    show Steps p.tables e below (s₁.setTop (mkF m 1 #[rv a] [(.ref a)])) _
    refine st1 _ ?_
    show Steps p.tables e below (T1.setTop (mkF m 4 #[rv a] [])) _
    exact X1.returnOut hx Bd.returns (hb hby own_d3_4) hr
  · show own_rec_Q Z w_MS a h0 n0 _ T1.heap _
    rw [e1]
    exact ⟨rfl, N0, rfl⟩
theorem own_mk_ef (m : MethodId) (a : Addr) (q : Int64) : entryFrame m #[(.ref a), (.long q)] 3 = mkF m 0 #[rv a, .val (.long q), .second] [] := by first | (simp [entryFrame, mkF, argsToLocals, Value.category]; done) | rfl
def own_mk_Q (Z : State) (w_MS : Addr) (a : Addr) (q : Int64) (h0 : Heap) (n0 : Nat) (v : Option Value) (h : Heap) (L : List Loc) : Prop := v = none ∧ Fr n0 L ∧ Keep h0 h [a] ∧ Exa Z h a "com/example/horkos/horkos/internal/Lease" ∧ Fld Z h a "com/example/horkos/horkos/internal/Lease" "millis" "J" (.long q)
set_option maxRecDepth 65536 in
set_option maxHeartbeats 40000000 in
theorem own_mk (l : Launch) (Z : State) (a0 : Array Value) (hw : ∀ d ∈ tables_1, d.before a0 Z = true) (ws : List Jvm.Cond) (w_MS : Addr) (a : Addr) (q : Int64) (h0 : Heap) (n0 : Nat) (O0 : Old Z n0 h0) (S_MS : Sta Z Z.heap "java/util/concurrent/TimeUnit" "MILLISECONDS" "Ljava/util/concurrent/TimeUnit;" (.ref w_MS)) (E_MS : Exa Z Z.heap w_MS "java/util/concurrent/TimeUnit") (G_MS : Fld Z Z.heap w_MS "java/util/concurrent/TimeUnit" "scale" "J" (.long 1000000)) (M_MS : Fld Z Z.heap w_MS "java/util/concurrent/TimeUnit" "maxNanos" "J" (.long 9223372036854)) (S_DR : Sta Z Z.heap "com/example/horkos/horkos/internal/Lease" "DRIFT_FLOOR_NANOS" "J" (.long 2000000)) (g_a : n0 ≤ a) (E_a : Exa Z h0 a "com/example/horkos/horkos/internal/Lease") (F_a : Fld Z h0 a "com/example/horkos/horkos/internal/Lease" "millis" "J" (.long 0)) (hq1 : ¬ q < (1 : Int64)) (hq2 : ¬ (4611686018427387904 : Int64) < q) :
    MetFree l (⟨"com/example/horkos/horkos/internal/Lease", "<init>", "(J)V"⟩ : MethodName) (head1 (Jvm.Cond.code (⟨"com/example/horkos/horkos/internal/Lease", "<init>", "(J)V"⟩ : MethodName) prog_5_method_1_code 3 none :: ws) ({ frames := 2, cells := 0, slots := 0, locals := 24 } : Room)) (fun ar U => ar = #[(.ref a), (.long q)] ∧ Z.Warmed39 U.vm ∧ U.heap = h0) (fun _ _ _ _ _ => True) (fun _ U oc U' => ∃ v L, oc = .returned v ∧ own_mk_Q Z w_MS a q h0 n0 v U'.heap L ∧ FrameEnd U oc U' L ({ frames := 2, cells := 0, slots := 0, locals := 24 } : Room).cells ({ frames := 2, cells := 0, slots := 0, locals := 24 } : Room).slots) := by
  refine MetFree.of_bodySF (plainFor_of_name own_pn1) hisR ?_
  intro p e s m args below meth c s₁ Bd hml0 hP hK
  obtain ⟨rfl, hZ, hh⟩ := hP
  have hx := Bd.exec
  have hby := Bd.bytes
  have hml : c.maxLocals = 3 := hml0
  have hown : s.vm.findClass "com/example/horkos/horkos/internal/Lease" = some m.cls := findClass_of_methodNamed Bd.named
  have hnm := (name_of_methodNamed Bd.named Bd.method).1
  have X0 : Stand p l e ({ frames := 2, cells := 0, slots := 0, locals := 24 } : Room) s m #[(.ref a), (.long q)] below meth c s₁ [] 0 0 := Stand.of_body Bd
  have e0 : s₁.heap = h0 := by rw [← hh, Bd.state]; rfl
  have N0 := Fr.nil n0
  have pre0 : ∀ t, Steps p.tables e below (s₁.setTop (mkF m 0 #[rv a, .val (.long q), .second] [])) t → Steps p.tables e below (s₁.setTop (entryFrame m #[(.ref a), (.long q)] 3)) t := fun t k => castTop (own_mk_ef m a q) k
  have kp0 := Keep.refl h0 ([a] : List Addr)
  obtain ⟨_, _, ⟨T1, L1, k1, n1⟩, -, X1, ⟨Lc1, hQ1, l1, y1, z1⟩, st1⟩ := X0.specialBack hx (y := (⟨"java/lang/Record", "<init>", "()V"⟩ : MethodName)) rfl hown (mvT hZ (hw _ (own_m 11 rfl))) (mvT hZ (hw _ (own_m 12 rfl))) (mvT hZ (hw _ (own_m 15 rfl))) (by decide) (backOf (W := 0) (own_rec l Z a0 hw [] w_MS a h0 n0 O0 S_MS E_MS G_MS M_MS S_DR ) hZ (hw _ (own_m 15 rfl)) (hw _ (own_m 14 rfl)) (by decide) (by decide)) (g := (mkF m 1 #[rv a, .val (.long q), .second] [(.ref a)])) rfl (by rw [hml]; rfl) (Steps.refl _) (a := a) (argsL := []) (rest := []) (lenOf own_pd0 rfl) rfl (by show 2 * 0 + _ ≤ _; exact Nat.le_of_eq rfl) (hb hby own_d2_1) (fun _ _ => ⟨rfl, e0, (by decide : 0 + 0 ≤ _), (by decide : 0 + 0 ≤ _)⟩)
  dsimp only [Pt.U, Pt.locs, Pt.cells, Pt.slots] at X1 l1 y1 z1 st1 hQ1
  subst l1 y1 z1
  obtain ⟨rfl, N1q, e1⟩ := hQ1
  have N1 := Fr.app N0 N1q
  obtain ⟨T2, h2, X2, e2, W2, st2⟩ := putF X1 hx hZ hown (host := "") (Or.inl (hw _ (own_m 20 rfl))) Via.refl e1 F_a E_a (Or.inr ⟨(hw _ (own_m 21 rfl)), rfl, hnm⟩) (hw _ (own_m 6 rfl)) (ty := .long) (by decide) rfl rfl (g := (mkF m 30 #[rv a, .val (.long q), .second] [(.long q), (.ref a)])) rfl rfl (hb hby own_d2_30)
  have Fw2 := F_a.same W2
  have O3 := O0.wr W2 g_a
  have kp4 := kp0.wr W2 (Or.inl (own_m 0 rfl))
  have N2 := Fr.snoc X2 N1 g_a
  have f5 := (E_a.wr W2)
  obtain ⟨fs, hr, hrun, hended, hW, hsame⟩ := X2.leave (v := none) (fun _ => rfl)
  refine ⟨_, _, pre0 _ ?_, hrun, hended, _, _, rfl, ?_, ⟨_, rfl⟩, hW, hsame.mono (by decide) (by decide)⟩
  · show Steps p.tables e below (s₁.setTop (mkF m 0 #[rv a, .val (.long q), .second] [])) _
    refine XS.aloadN X0.here hx rfl (hb hby own_d2_0) rfl rfl ?_
    show Steps p.tables e below (s₁.setTop (mkF m 1 #[rv a, .val (.long q), .second] [(.ref a)])) _
    refine st1.trans ?_
    show Steps p.tables e below (T1.setTop (mkF m 4 #[rv a, .val (.long q), .second] [])) _
    refine XS.lloadN X1.here hx rfl (hb hby own_d2_4) rfl ?_
    show Steps p.tables e below (T1.setTop (mkF m 5 #[rv a, .val (.long q), .second] [(.long q)])) _
    refine XS.lconst X1.here hx rfl (hb hby own_d2_5) ?_
    show Steps p.tables e below (T1.setTop (mkF m 6 #[rv a, .val (.long q), .second] [(.long 1), (.long q)])) _
    refine XS.lcmp X1.here hx rfl (hb hby own_d2_6) rfl ?_
    show Steps p.tables e below (T1.setTop (mkF m 7 #[rv a, .val (.long q), .second] [(.int (lcmpW q (1 : Int64)))])) _
    refine XS.ifNo X1.here hx rfl (hb hby own_d2_7) rfl ((if0 _ _).trans (flt (fun q => hq1 ((lw_lt _ _).mp q))).1) ?_
    show Steps p.tables e below (T1.setTop (mkF m 10 #[rv a, .val (.long q), .second] [])) _
    refine XS.lloadN X1.here hx rfl (hb hby own_d2_10) rfl ?_
    show Steps p.tables e below (T1.setTop (mkF m 11 #[rv a, .val (.long q), .second] [(.long q)])) _
    refine X1.ldc2Long hx hown (mvT hZ (hw _ (own_m 19 rfl))) (g := (mkF m 11 #[rv a, .val (.long q), .second] [(.long q)])) rfl (hb hby own_d2_11) _ ?_
    show Steps p.tables e below (T1.setTop (mkF m 14 #[rv a, .val (.long q), .second] [(.long 4611686018427387904), (.long q)])) _
    refine XS.lcmp X1.here hx rfl (hb hby own_d2_14) rfl ?_
    show Steps p.tables e below (T1.setTop (mkF m 15 #[rv a, .val (.long q), .second] [(.int (lcmpW q (4611686018427387904 : Int64)))])) _
    refine XS.ifYes X1.here hx rfl (pc0 := 15) (pc' := 28) rfl (hb hby own_d2_15) rfl ((if0 _ _).trans (flt (fun q => hq2 ((lw_gt _ _).mp q))).2.2.2) (by decide) (by decide) ?_
    show Steps p.tables e below (T1.setTop (mkF m 28 #[rv a, .val (.long q), .second] [])) _
    refine XS.aloadN X1.here hx rfl (hb hby own_d2_28) rfl rfl ?_
    show Steps p.tables e below (T1.setTop (mkF m 29 #[rv a, .val (.long q), .second] [(.ref a)])) _
    refine XS.lloadN X1.here hx rfl (hb hby own_d2_29) rfl ?_
    show Steps p.tables e below (T1.setTop (mkF m 30 #[rv a, .val (.long q), .second] [(.long q), (.ref a)])) _
    refine st2 _ ?_
    show Steps p.tables e below (T2.setTop (mkF m 33 #[rv a, .val (.long q), .second] [])) _
    exact X2.returnOut hx Bd.returns (hb hby own_d2_33) hr
  · show own_mk_Q Z w_MS a q h0 n0 _ T2.heap _
    rw [e2]
    exact ⟨rfl, N2, kp4, f5, Fw2⟩
theorem own_nanoA_ef (m : MethodId) (w_MS : Addr) (q : Int64) : entryFrame m #[(.ref w_MS), (.long q)] 7 = mkF m 0 #[rv w_MS, .val (.long q), .second, .unset, .unset, .unset, .unset] [] := by first | (simp [entryFrame, mkF, argsToLocals, Value.category]; done) | rfl
def own_nanoA_Q (Z : State) (w_MS : Addr) (q : Int64) (h0 : Heap) (n0 : Nat) (v : Option Value) (h : Heap) (L : List Loc) : Prop := v = some (.long (q * (1000000 : Int64))) ∧ Fr n0 L ∧ h = h0
set_option maxRecDepth 65536 in
set_option maxHeartbeats 40000000 in
theorem own_nanoA (l : Launch) (Z : State) (a0 : Array Value) (hw : ∀ d ∈ tables_1, d.before a0 Z = true) (ws : List Jvm.Cond) (w_MS : Addr) (q : Int64) (h0 : Heap) (n0 : Nat) (O0 : Old Z n0 h0) (S_MS : Sta Z Z.heap "java/util/concurrent/TimeUnit" "MILLISECONDS" "Ljava/util/concurrent/TimeUnit;" (.ref w_MS)) (E_MS : Exa Z Z.heap w_MS "java/util/concurrent/TimeUnit") (G_MS : Fld Z Z.heap w_MS "java/util/concurrent/TimeUnit" "scale" "J" (.long 1000000)) (M_MS : Fld Z Z.heap w_MS "java/util/concurrent/TimeUnit" "maxNanos" "J" (.long 9223372036854)) (S_DR : Sta Z Z.heap "com/example/horkos/horkos/internal/Lease" "DRIFT_FLOOR_NANOS" "J" (.long 2000000)) (hq1 : ¬ q < (1 : Int64)) (hq2 : ¬ (9223372036854 : Int64) < q) :
    MetFree l (⟨"java/util/concurrent/TimeUnit", "toNanos", "(J)J"⟩ : MethodName) (head1 (Jvm.Cond.code (⟨"java/util/concurrent/TimeUnit", "toNanos", "(J)J"⟩ : MethodName) jdk_2799_method_7_code 7 (some .long) :: ws) ({ frames := 0, cells := 0, slots := 0, locals := 0 } : Room)) (fun ar U => ar = #[(.ref w_MS), (.long q)] ∧ Z.Warmed39 U.vm ∧ U.heap = h0) (fun _ _ _ _ _ => True) (fun _ U oc U' => ∃ v L, oc = .returned v ∧ own_nanoA_Q Z w_MS q h0 n0 v U'.heap L ∧ FrameEnd U oc U' L ({ frames := 0, cells := 0, slots := 0, locals := 0 } : Room).cells ({ frames := 0, cells := 0, slots := 0, locals := 0 } : Room).slots) := by
  refine MetFree.of_bodySF (plainFor_of_name own_pn2) hisR ?_
  intro p e s m args below meth c s₁ Bd hml0 hP hK
  obtain ⟨rfl, hZ, hh⟩ := hP
  have hx := Bd.exec
  have hby := Bd.bytes
  have hml : c.maxLocals = 7 := hml0
  have hown : s.vm.findClass "java/util/concurrent/TimeUnit" = some m.cls := findClass_of_methodNamed Bd.named
  have hnm := (name_of_methodNamed Bd.named Bd.method).1
  have X0 : Stand p l e ({ frames := 0, cells := 0, slots := 0, locals := 0 } : Room) s m #[(.ref w_MS), (.long q)] below meth c s₁ [] 0 0 := Stand.of_body Bd
  have e0 : s₁.heap = h0 := by rw [← hh, Bd.state]; rfl
  have N0 := Fr.nil n0
  have pre0 : ∀ t, Steps p.tables e below (s₁.setTop (mkF m 0 #[rv w_MS, .val (.long q), .second, .unset, .unset, .unset, .unset] [])) t → Steps p.tables e below (s₁.setTop (entryFrame m #[(.ref w_MS), (.long q)] 7)) t := fun t k => castTop (own_nanoA_ef m w_MS q) k
  obtain ⟨T1, X1, e1, st1⟩ := getF X0 hx hZ hown (host := "") (Or.inl (hw _ (own_m 34 rfl))) Via.refl e0 (G_MS.ext O0.2) (g := (mkF m 1 #[rv w_MS, .val (.long q), .second, .unset, .unset, .unset, .unset] [(.ref w_MS)])) rfl rfl (hb hby own_d6_1)
  obtain ⟨T2, X2, e2, st2⟩ := getF X1 hx hZ hown (host := "") (Or.inl (hw _ (own_m 36 rfl))) Via.refl e1 (M_MS.ext O0.2) (g := (mkF m 15 #[rv w_MS, .val (.long q), .second, .val (.long 1000000), .second, .unset, .unset] [(.ref w_MS), (.long q)])) rfl rfl (hb hby own_d6_15)
  obtain ⟨fs, hr, hrun, hended, hW, hsame⟩ := X2.leave (v := some (.long (q * (1000000 : Int64)))) (fun h => by rw [Bd.returns] at h; cases h)
  refine ⟨_, _, pre0 _ ?_, hrun, hended, _, _, rfl, ?_, ⟨_, rfl⟩, hW, hsame.mono (by decide) (by decide)⟩
  · show Steps p.tables e below (s₁.setTop (mkF m 0 #[rv w_MS, .val (.long q), .second, .unset, .unset, .unset, .unset] [])) _
    refine XS.aloadN X0.here hx rfl (hb hby own_d6_0) rfl rfl ?_
    show Steps p.tables e below (s₁.setTop (mkF m 1 #[rv w_MS, .val (.long q), .second, .unset, .unset, .unset, .unset] [(.ref w_MS)])) _
    refine st1 _ ?_
    show Steps p.tables e below (T1.setTop (mkF m 4 #[rv w_MS, .val (.long q), .second, .unset, .unset, .unset, .unset] [(.long 1000000)])) _
    refine XT.dup2L X1.here hx rfl (hb hby own_d6_4) rfl ?_
    show Steps p.tables e below (T1.setTop (mkF m 5 #[rv w_MS, .val (.long q), .second, .unset, .unset, .unset, .unset] [(.long 1000000), (.long 1000000)])) _
    refine XS.lstoreN X1.here hx rfl (hb hby own_d6_5) rfl (l' := #[rv w_MS, .val (.long q), .second, .val (.long 1000000), .second, .unset, .unset]) rfl ?_
    show Steps p.tables e below (T1.setTop (mkF m 6 #[rv w_MS, .val (.long q), .second, .val (.long 1000000), .second, .unset, .unset] [(.long 1000000)])) _
    refine XS.lconst X1.here hx rfl (hb hby own_d6_6) ?_
    show Steps p.tables e below (T1.setTop (mkF m 7 #[rv w_MS, .val (.long q), .second, .val (.long 1000000), .second, .unset, .unset] [(.long 1), (.long 1000000)])) _
    refine XS.lcmp X1.here hx rfl (hb hby own_d6_7) rfl ?_
    show Steps p.tables e below (T1.setTop (mkF m 8 #[rv w_MS, .val (.long q), .second, .val (.long 1000000), .second, .unset, .unset] [(.int (lcmpW (1000000 : Int64) (1 : Int64)))])) _
    refine XS.ifYes X1.here hx rfl (pc0 := 8) (pc' := 13) rfl (hb hby own_d6_8) rfl ((if0 _ _).trans (feq (fun q => (show ¬ ((1000000 : Int64) = (1 : Int64)) from by decide) ((lw_eq _ _).mp q))).2) (by decide) (by decide) ?_
    show Steps p.tables e below (T1.setTop (mkF m 13 #[rv w_MS, .val (.long q), .second, .val (.long 1000000), .second, .unset, .unset] [])) _
    refine XS.lloadN X1.here hx rfl (hb hby own_d6_13) rfl ?_
    show Steps p.tables e below (T1.setTop (mkF m 14 #[rv w_MS, .val (.long q), .second, .val (.long 1000000), .second, .unset, .unset] [(.long q)])) _
    refine XS.aloadN X1.here hx rfl (hb hby own_d6_14) rfl rfl ?_
    show Steps p.tables e below (T1.setTop (mkF m 15 #[rv w_MS, .val (.long q), .second, .val (.long 1000000), .second, .unset, .unset] [(.ref w_MS), (.long q)])) _
    refine st2 _ ?_
    show Steps p.tables e below (T2.setTop (mkF m 18 #[rv w_MS, .val (.long q), .second, .val (.long 1000000), .second, .unset, .unset] [(.long 9223372036854), (.long q)])) _
    refine XT.dup2L X2.here hx rfl (hb hby own_d6_18) rfl ?_
    show Steps p.tables e below (T2.setTop (mkF m 19 #[rv w_MS, .val (.long q), .second, .val (.long 1000000), .second, .unset, .unset] [(.long 9223372036854), (.long 9223372036854), (.long q)])) _
    refine XS.lstore X2.here hx rfl (hb hby own_d6_19) rfl (l' := #[rv w_MS, .val (.long q), .second, .val (.long 1000000), .second, .val (.long 9223372036854), .second]) rfl ?_
    show Steps p.tables e below (T2.setTop (mkF m 21 #[rv w_MS, .val (.long q), .second, .val (.long 1000000), .second, .val (.long 9223372036854), .second] [(.long 9223372036854), (.long q)])) _
    refine XS.lcmp X2.here hx rfl (hb hby own_d6_21) rfl ?_
    show Steps p.tables e below (T2.setTop (mkF m 22 #[rv w_MS, .val (.long q), .second, .val (.long 1000000), .second, .val (.long 9223372036854), .second] [(.int (lcmpW q (9223372036854 : Int64)))])) _
    refine XS.ifYes X2.here hx rfl (pc0 := 22) (pc' := 29) rfl (hb hby own_d6_22) rfl ((if0 _ _).trans (flt (fun q => hq2 ((lw_gt _ _).mp q))).2.2.2) (by decide) (by decide) ?_
    show Steps p.tables e below (T2.setTop (mkF m 29 #[rv w_MS, .val (.long q), .second, .val (.long 1000000), .second, .val (.long 9223372036854), .second] [])) _
    refine XS.lloadN X2.here hx rfl (hb hby own_d6_29) rfl ?_
    show Steps p.tables e below (T2.setTop (mkF m 30 #[rv w_MS, .val (.long q), .second, .val (.long 1000000), .second, .val (.long 9223372036854), .second] [(.long q)])) _
    refine XS.lload X2.here hx rfl (hb hby own_d6_30) rfl ?_
    show Steps p.tables e below (T2.setTop (mkF m 32 #[rv w_MS, .val (.long q), .second, .val (.long 1000000), .second, .val (.long 9223372036854), .second] [(.long 9223372036854), (.long q)])) _
    refine XS.lneg X2.here hx rfl (hb hby own_d6_32) rfl ?_
    show Steps p.tables e below (T2.setTop (mkF m 33 #[rv w_MS, .val (.long q), .second, .val (.long 1000000), .second, .val (.long 9223372036854), .second] [(.long (-(9223372036854 : Int64))), (.long q)])) _
    refine own_top (v' := (.long (-9223372036854))) (congrArg Value.long (by decide)) ?_
    show Steps p.tables e below (T2.setTop (mkF m 33 #[rv w_MS, .val (.long q), .second, .val (.long 1000000), .second, .val (.long 9223372036854), .second] [(.long (-9223372036854)), (.long q)])) _
    refine XS.lcmp X2.here hx rfl (hb hby own_d6_33) rfl ?_
    show Steps p.tables e below (T2.setTop (mkF m 34 #[rv w_MS, .val (.long q), .second, .val (.long 1000000), .second, .val (.long 9223372036854), .second] [(.int (lcmpW q (-9223372036854 : Int64)))])) _
    refine XS.ifYes X2.here hx rfl (pc0 := 34) (pc' := 41) rfl (hb hby own_d6_34) rfl ((if0 _ _).trans (flt (fun q => (own_neg hq1) ((lw_lt _ _).mp q))).2.1) (by decide) (by decide) ?_
    show Steps p.tables e below (T2.setTop (mkF m 41 #[rv w_MS, .val (.long q), .second, .val (.long 1000000), .second, .val (.long 9223372036854), .second] [])) _
    refine XS.lloadN X2.here hx rfl (hb hby own_d6_41) rfl ?_
    show Steps p.tables e below (T2.setTop (mkF m 42 #[rv w_MS, .val (.long q), .second, .val (.long 1000000), .second, .val (.long 9223372036854), .second] [(.long q)])) _
    refine XS.lloadN X2.here hx rfl (hb hby own_d6_42) rfl ?_
    show Steps p.tables e below (T2.setTop (mkF m 43 #[rv w_MS, .val (.long q), .second, .val (.long 1000000), .second, .val (.long 9223372036854), .second] [(.long 1000000), (.long q)])) _
    refine XS.lmul X2.here hx rfl (hb hby own_d6_43) rfl ?_
    show Steps p.tables e below (T2.setTop (mkF m 44 #[rv w_MS, .val (.long q), .second, .val (.long 1000000), .second, .val (.long 9223372036854), .second] [(.long (q * (1000000 : Int64)))])) _
    jvm_step X2.here [X2.here.top, hx, (hb hby own_d6_44), X2.method', Bd.returns, narrow]
    first | (intro acts; rw [hr _ acts rfl rfl rfl]) | rw [hr _ _ rfl rfl rfl]
    exact Steps.refl _
  · show own_nanoA_Q Z w_MS q h0 n0 _ T2.heap _
    rw [e2]
    exact ⟨rfl, N0, rfl⟩
theorem own_valA_ef (m : MethodId) (a : Addr) : entryFrame m #[(.ref a)] 5 = mkF m 0 #[rv a, .unset, .unset, .unset, .unset] [] := by first | (simp [entryFrame, mkF, argsToLocals, Value.category]; done) | rfl
def own_valA_Q (Z : State) (w_MS : Addr) (a : Addr) (q : Int64) (h0 : Heap) (n0 : Nat) (v : Option Value) (h : Heap) (L : List Loc) : Prop := v = some (.long ((q * (1000000 : Int64)) - (((q * (1000000 : Int64)) / (100 : Int64)) + (2000000 : Int64)))) ∧ Fr n0 L ∧ h = h0
set_option maxRecDepth 65536 in
set_option maxHeartbeats 40000000 in
theorem own_valA (l : Launch) (Z : State) (a0 : Array Value) (hw : ∀ d ∈ tables_1, d.before a0 Z = true) (ws : List Jvm.Cond) (w_MS : Addr) (a : Addr) (q : Int64) (h0 : Heap) (n0 : Nat) (O0 : Old Z n0 h0) (S_MS : Sta Z Z.heap "java/util/concurrent/TimeUnit" "MILLISECONDS" "Ljava/util/concurrent/TimeUnit;" (.ref w_MS)) (E_MS : Exa Z Z.heap w_MS "java/util/concurrent/TimeUnit") (G_MS : Fld Z Z.heap w_MS "java/util/concurrent/TimeUnit" "scale" "J" (.long 1000000)) (M_MS : Fld Z Z.heap w_MS "java/util/concurrent/TimeUnit" "maxNanos" "J" (.long 9223372036854)) (S_DR : Sta Z Z.heap "com/example/horkos/horkos/internal/Lease" "DRIFT_FLOOR_NANOS" "J" (.long 2000000)) (F_a : Fld Z h0 a "com/example/horkos/horkos/internal/Lease" "millis" "J" (.long q)) (hq1 : ¬ q < (1 : Int64)) (hq2 : ¬ (9223372036854 : Int64) < q) :
    MetFree l (⟨"com/example/horkos/horkos/internal/Lease", "validityNanos", "()J"⟩ : MethodName) (head1 (Jvm.Cond.code (⟨"com/example/horkos/horkos/internal/Lease", "validityNanos", "()J"⟩ : MethodName) prog_5_method_4_code 5 (some .long) :: ws) ({ frames := 1, cells := 0, slots := 0, locals := 18 } : Room)) (fun ar U => ar = #[(.ref a)] ∧ Z.Warmed39 U.vm ∧ U.heap = h0) (fun _ _ _ _ _ => True) (fun _ U oc U' => ∃ v L, oc = .returned v ∧ own_valA_Q Z w_MS a q h0 n0 v U'.heap L ∧ FrameEnd U oc U' L ({ frames := 1, cells := 0, slots := 0, locals := 18 } : Room).cells ({ frames := 1, cells := 0, slots := 0, locals := 18 } : Room).slots) := by
  refine MetFree.of_bodySF (plainFor_of_name own_pn1) hisR ?_
  intro p e s m args below meth c s₁ Bd hml0 hP hK
  obtain ⟨rfl, hZ, hh⟩ := hP
  have hx := Bd.exec
  have hby := Bd.bytes
  have hml : c.maxLocals = 5 := hml0
  have hown : s.vm.findClass "com/example/horkos/horkos/internal/Lease" = some m.cls := findClass_of_methodNamed Bd.named
  have hnm := (name_of_methodNamed Bd.named Bd.method).1
  have X0 : Stand p l e ({ frames := 1, cells := 0, slots := 0, locals := 18 } : Room) s m #[(.ref a)] below meth c s₁ [] 0 0 := Stand.of_body Bd
  have e0 : s₁.heap = h0 := by rw [← hh, Bd.state]; rfl
  have N0 := Fr.nil n0
  have pre0 : ∀ t, Steps p.tables e below (s₁.setTop (mkF m 0 #[rv a, .unset, .unset, .unset, .unset] [])) t → Steps p.tables e below (s₁.setTop (entryFrame m #[(.ref a)] 5)) t := fun t k => castTop (own_valA_ef m a) k
  obtain ⟨T1, X1, e1, st1⟩ := getS2 X0 hx hZ hown (host := "") (Or.inl (hw _ (own_m 27 rfl))) Via.refl e0 (S_MS.ext O0.2) (g := (mkF m 0 #[rv a, .unset, .unset, .unset, .unset] [])) rfl (hb hby own_d5_0)
  obtain ⟨T2, X2, e2, st2⟩ := getF X1 hx hZ hown (host := "") (Or.inl (hw _ (own_m 20 rfl))) Via.refl e1 F_a (g := (mkF m 4 #[rv a, .unset, .unset, .unset, .unset] [(.ref a), (.ref w_MS)])) rfl rfl (hb hby own_d5_4)
  obtain ⟨cq3, kq3, q3a, q3b, q3c⟩ := isOf hZ e2 (E_MS.ext O0.2)
  obtain ⟨_, _, ⟨T3, L3, k3, n3⟩, -, X3, ⟨Lc3, hQ3, l3, y3, z3⟩, st3⟩ := X2.virtualBack hx (y := (⟨"java/util/concurrent/TimeUnit", "toNanos", "(J)J"⟩ : MethodName)) (z := (⟨"java/util/concurrent/TimeUnit", "toNanos", "(J)J"⟩ : MethodName)) hown (mvT hZ (hw _ (own_m 29 rfl))) (mvT hZ (hw _ (own_m 30 rfl))) (notFace_of_selects (args := #[]) (mvT hZ (hw _ (own_m 32 rfl)))) (mvT hZ (hw _ (own_m 32 rfl))) (mvT hZ (hw _ (own_m 31 rfl))) (by decide) (backOf (W := 0) (own_nanoA l Z a0 hw [] w_MS q h0 n0 O0 S_MS E_MS G_MS M_MS S_DR hq1 hq2) hZ (hw _ (own_m 33 rfl)) (hw _ (own_m 28 rfl)) (by decide) (by decide)) q3a q3c (g := (mkF m 7 #[rv a, .unset, .unset, .unset, .unset] [(.long q), (.ref w_MS)])) rfl (by rw [hml]; rfl) (Steps.refl _) (argsL := [(.long q)]) (rest := []) (lenOf own_pd1 rfl) rfl (by show 2 * 0 + _ ≤ _; exact Nat.le_of_eq rfl) (hb hby own_d5_7) (fun _ _ => ⟨rfl, e2, (by decide : 0 + 0 ≤ _), (by decide : 0 + 0 ≤ _)⟩)
  dsimp only [Pt.U, Pt.locs, Pt.cells, Pt.slots] at X3 l3 y3 z3 st3 hQ3
  subst l3 y3 z3
  obtain ⟨rfl, N3q, e3⟩ := hQ3
  have N3 := Fr.app N0 N3q
  obtain ⟨T4, X4, e4, st4⟩ := getS2 X3 hx hZ hown (host := "") (Or.inl (hw _ (own_m 39 rfl))) Via.refl e3 (S_DR.ext O0.2) (g := (mkF m 16 #[rv a, .val (.long (q * (1000000 : Int64))), .second, .unset, .unset] [(.long ((q * (1000000 : Int64)) / (100 : Int64)))])) rfl (hb hby own_d5_16)
  obtain ⟨fs, hr, hrun, hended, hW, hsame⟩ := X4.leave (v := some (.long ((q * (1000000 : Int64)) - (((q * (1000000 : Int64)) / (100 : Int64)) + (2000000 : Int64))))) (fun h => by rw [Bd.returns] at h; cases h)
  refine ⟨_, _, pre0 _ ?_, hrun, hended, _, _, rfl, ?_, ⟨_, rfl⟩, hW, hsame.mono (by decide) (by decide)⟩
  · show Steps p.tables e below (s₁.setTop (mkF m 0 #[rv a, .unset, .unset, .unset, .unset] [])) _
    refine st1 _ ?_
    show Steps p.tables e below (T1.setTop (mkF m 3 #[rv a, .unset, .unset, .unset, .unset] [(.ref w_MS)])) _
    refine XS.aloadN X1.here hx rfl (hb hby own_d5_3) rfl rfl ?_
    show Steps p.tables e below (T1.setTop (mkF m 4 #[rv a, .unset, .unset, .unset, .unset] [(.ref a), (.ref w_MS)])) _
    refine st2 _ ?_
    show Steps p.tables e below (T2.setTop (mkF m 7 #[rv a, .unset, .unset, .unset, .unset] [(.long q), (.ref w_MS)])) _
    refine st3.trans ?_
    show Steps p.tables e below (T3.setTop (mkF m 10 #[rv a, .unset, .unset, .unset, .unset] [(.long (q * (1000000 : Int64)))])) _
    refine XS.lstoreN X3.here hx rfl (hb hby own_d5_10) rfl (l' := #[rv a, .val (.long (q * (1000000 : Int64))), .second, .unset, .unset]) rfl ?_
    show Steps p.tables e below (T3.setTop (mkF m 11 #[rv a, .val (.long (q * (1000000 : Int64))), .second, .unset, .unset] [])) _
    refine XS.lloadN X3.here hx rfl (hb hby own_d5_11) rfl ?_
    show Steps p.tables e below (T3.setTop (mkF m 12 #[rv a, .val (.long (q * (1000000 : Int64))), .second, .unset, .unset] [(.long (q * (1000000 : Int64)))])) _
    refine X3.ldc2Long hx hown (mvT hZ (hw _ (own_m 38 rfl))) (g := (mkF m 12 #[rv a, .val (.long (q * (1000000 : Int64))), .second, .unset, .unset] [(.long (q * (1000000 : Int64)))])) rfl (hb hby own_d5_12) _ ?_
    show Steps p.tables e below (T3.setTop (mkF m 15 #[rv a, .val (.long (q * (1000000 : Int64))), .second, .unset, .unset] [(.long 100), (.long (q * (1000000 : Int64)))])) _
    refine XS.ldiv X3.here hx rfl (hb hby own_d5_15) rfl (by decide) ?_
    show Steps p.tables e below (T3.setTop (mkF m 16 #[rv a, .val (.long (q * (1000000 : Int64))), .second, .unset, .unset] [(.long ((q * (1000000 : Int64)) / (100 : Int64)))])) _
    refine st4 _ ?_
    show Steps p.tables e below (T4.setTop (mkF m 19 #[rv a, .val (.long (q * (1000000 : Int64))), .second, .unset, .unset] [(.long 2000000), (.long ((q * (1000000 : Int64)) / (100 : Int64)))])) _
    refine XS.ladd X4.here hx rfl (hb hby own_d5_19) rfl ?_
    show Steps p.tables e below (T4.setTop (mkF m 20 #[rv a, .val (.long (q * (1000000 : Int64))), .second, .unset, .unset] [(.long (((q * (1000000 : Int64)) / (100 : Int64)) + (2000000 : Int64)))])) _
    refine XS.lstoreN X4.here hx rfl (hb hby own_d5_20) rfl (l' := #[rv a, .val (.long (q * (1000000 : Int64))), .second, .val (.long (((q * (1000000 : Int64)) / (100 : Int64)) + (2000000 : Int64))), .second]) rfl ?_
    show Steps p.tables e below (T4.setTop (mkF m 21 #[rv a, .val (.long (q * (1000000 : Int64))), .second, .val (.long (((q * (1000000 : Int64)) / (100 : Int64)) + (2000000 : Int64))), .second] [])) _
    refine XS.lloadN X4.here hx rfl (hb hby own_d5_21) rfl ?_
    show Steps p.tables e below (T4.setTop (mkF m 22 #[rv a, .val (.long (q * (1000000 : Int64))), .second, .val (.long (((q * (1000000 : Int64)) / (100 : Int64)) + (2000000 : Int64))), .second] [(.long (q * (1000000 : Int64)))])) _
    refine XS.lloadN X4.here hx rfl (hb hby own_d5_22) rfl ?_
    show Steps p.tables e below (T4.setTop (mkF m 23 #[rv a, .val (.long (q * (1000000 : Int64))), .second, .val (.long (((q * (1000000 : Int64)) / (100 : Int64)) + (2000000 : Int64))), .second] [(.long (((q * (1000000 : Int64)) / (100 : Int64)) + (2000000 : Int64))), (.long (q * (1000000 : Int64)))])) _
    refine XS.lsub X4.here hx rfl (hb hby own_d5_23) rfl ?_
    show Steps p.tables e below (T4.setTop (mkF m 24 #[rv a, .val (.long (q * (1000000 : Int64))), .second, .val (.long (((q * (1000000 : Int64)) / (100 : Int64)) + (2000000 : Int64))), .second] [(.long ((q * (1000000 : Int64)) - (((q * (1000000 : Int64)) / (100 : Int64)) + (2000000 : Int64))))])) _
    jvm_step X4.here [X4.here.top, hx, (hb hby own_d5_24), X4.method', Bd.returns, narrow]
    first | (intro acts; rw [hr _ acts rfl rfl rfl]) | rw [hr _ _ rfl rfl rfl]
    exact Steps.refl _
  · show own_valA_Q Z w_MS a q h0 n0 _ T4.heap _
    rw [e4]
    exact ⟨rfl, N3, rfl⟩
theorem own_expA_ef (m : MethodId) (q : Int64) : entryFrame m #[(.long q)] 2 = mkF m 0 #[.val (.long q), .second] [] := by first | (simp [entryFrame, mkF, argsToLocals, Value.category]; done) | rfl
def own_expA_Q (Z : State) (w_MS : Addr) (q : Int64) (h0 : Heap) (n0 : Nat) (v : Option Value) (h : Heap) (L : List Loc) : Prop := v = some (.long ((q * (990000 : Int64)) - (2000000 : Int64))) ∧ Fr n0 L ∧ h = h0
set_option maxRecDepth 65536 in
set_option maxHeartbeats 40000000 in
theorem own_expA (l : Launch) (Z : State) (a0 : Array Value) (hw : ∀ d ∈ tables_1, d.before a0 Z = true) (ws : List Jvm.Cond) (w_MS : Addr) (q : Int64) (h0 : Heap) (n0 : Nat) (O0 : Old Z n0 h0) (S_MS : Sta Z Z.heap "java/util/concurrent/TimeUnit" "MILLISECONDS" "Ljava/util/concurrent/TimeUnit;" (.ref w_MS)) (E_MS : Exa Z Z.heap w_MS "java/util/concurrent/TimeUnit") (G_MS : Fld Z Z.heap w_MS "java/util/concurrent/TimeUnit" "scale" "J" (.long 1000000)) (M_MS : Fld Z Z.heap w_MS "java/util/concurrent/TimeUnit" "maxNanos" "J" (.long 9223372036854)) (S_DR : Sta Z Z.heap "com/example/horkos/horkos/internal/Lease" "DRIFT_FLOOR_NANOS" "J" (.long 2000000)) (hq1 : ¬ q < (1 : Int64)) (hq2 : ¬ (9223372036854 : Int64) < q) :
    MetFree l (⟨"com/example/horkos/horkos/internal/LeaseValidityNanosPinLaw", "expected", "(J)J"⟩ : MethodName) (head1 (Jvm.Cond.code (⟨"com/example/horkos/horkos/internal/LeaseValidityNanosPinLaw", "expected", "(J)J"⟩ : MethodName) method_3_code 2 (some .long) :: ws) ({ frames := 0, cells := 0, slots := 0, locals := 0 } : Room)) (fun ar U => ar = #[(.long q)] ∧ Z.Warmed39 U.vm ∧ U.heap = h0) (fun _ _ _ _ _ => True) (fun _ U oc U' => ∃ v L, oc = .returned v ∧ own_expA_Q Z w_MS q h0 n0 v U'.heap L ∧ FrameEnd U oc U' L ({ frames := 0, cells := 0, slots := 0, locals := 0 } : Room).cells ({ frames := 0, cells := 0, slots := 0, locals := 0 } : Room).slots) := by
  refine MetFree.of_bodySF (plainFor_of_name own_pn3) hisR ?_
  intro p e s m args below meth c s₁ Bd hml0 hP hK
  obtain ⟨rfl, hZ, hh⟩ := hP
  have hx := Bd.exec
  have hby := Bd.bytes
  have hml : c.maxLocals = 2 := hml0
  have hown : s.vm.findClass "com/example/horkos/horkos/internal/LeaseValidityNanosPinLaw" = some m.cls := findClass_of_methodNamed Bd.named
  have hnm := (name_of_methodNamed Bd.named Bd.method).1
  have X0 : Stand p l e ({ frames := 0, cells := 0, slots := 0, locals := 0 } : Room) s m #[(.long q)] below meth c s₁ [] 0 0 := Stand.of_body Bd
  have e0 : s₁.heap = h0 := by rw [← hh, Bd.state]; rfl
  have N0 := Fr.nil n0
  have pre0 : ∀ t, Steps p.tables e below (s₁.setTop (mkF m 0 #[.val (.long q), .second] [])) t → Steps p.tables e below (s₁.setTop (entryFrame m #[(.long q)] 2)) t := fun t k => castTop (own_expA_ef m q) k
  obtain ⟨fs, hr, hrun, hended, hW, hsame⟩ := X0.leave (v := some (.long ((q * (990000 : Int64)) - (2000000 : Int64)))) (fun h => by rw [Bd.returns] at h; cases h)
  refine ⟨_, _, pre0 _ ?_, hrun, hended, _, _, rfl, ?_, ⟨_, rfl⟩, hW, hsame.mono (by decide) (by decide)⟩
  · show Steps p.tables e below (s₁.setTop (mkF m 0 #[.val (.long q), .second] [])) _
    refine XS.lloadN X0.here hx rfl (hb hby own_d7_0) rfl ?_
    show Steps p.tables e below (s₁.setTop (mkF m 1 #[.val (.long q), .second] [(.long q)])) _
    refine X0.ldc2Long hx hown (mvT hZ (hw _ (own_m 44 rfl))) (g := (mkF m 1 #[.val (.long q), .second] [(.long q)])) rfl (hb hby own_d7_1) _ ?_
    show Steps p.tables e below (s₁.setTop (mkF m 4 #[.val (.long q), .second] [(.long 9223372036854), (.long q)])) _
    refine XS.lcmp X0.here hx rfl (hb hby own_d7_4) rfl ?_
    show Steps p.tables e below (s₁.setTop (mkF m 5 #[.val (.long q), .second] [(.int (lcmpW q (9223372036854 : Int64)))])) _
    refine XS.ifNo X0.here hx rfl (hb hby own_d7_5) rfl ((if0 _ _).trans (flt (fun q => hq2 ((lw_gt _ _).mp q))).2.2.1) ?_
    show Steps p.tables e below (s₁.setTop (mkF m 8 #[.val (.long q), .second] [])) _
    refine XS.lloadN X0.here hx rfl (hb hby own_d7_8) rfl ?_
    show Steps p.tables e below (s₁.setTop (mkF m 9 #[.val (.long q), .second] [(.long q)])) _
    refine X0.ldc2Long hx hown (mvT hZ (hw _ (own_m 45 rfl))) (g := (mkF m 9 #[.val (.long q), .second] [(.long q)])) rfl (hb hby own_d7_9) _ ?_
    show Steps p.tables e below (s₁.setTop (mkF m 12 #[.val (.long q), .second] [(.long 990000), (.long q)])) _
    refine XS.lmul X0.here hx rfl (hb hby own_d7_12) rfl ?_
    show Steps p.tables e below (s₁.setTop (mkF m 13 #[.val (.long q), .second] [(.long (q * (990000 : Int64)))])) _
    refine X0.ldc2Long hx hown (mvT hZ (hw _ (own_m 46 rfl))) (g := (mkF m 13 #[.val (.long q), .second] [(.long (q * (990000 : Int64)))])) rfl (hb hby own_d7_13) _ ?_
    show Steps p.tables e below (s₁.setTop (mkF m 16 #[.val (.long q), .second] [(.long 2000000), (.long (q * (990000 : Int64)))])) _
    refine XS.lsub X0.here hx rfl (hb hby own_d7_16) rfl ?_
    show Steps p.tables e below (s₁.setTop (mkF m 17 #[.val (.long q), .second] [(.long ((q * (990000 : Int64)) - (2000000 : Int64)))])) _
    jvm_step X0.here [X0.here.top, hx, (hb hby own_d7_17), X0.method', Bd.returns, narrow]
    first | (intro acts; rw [hr _ acts rfl rfl rfl]) | rw [hr _ _ rfl rfl rfl]
    exact Steps.refl _
  · show own_expA_Q Z w_MS q h0 n0 _ s₁.heap _
    rw [e0]
    exact ⟨rfl, N0, rfl⟩
theorem own_nanoB_ef (m : MethodId) (w_MS : Addr) (q : Int64) : entryFrame m #[(.ref w_MS), (.long q)] 7 = mkF m 0 #[rv w_MS, .val (.long q), .second, .unset, .unset, .unset, .unset] [] := by first | (simp [entryFrame, mkF, argsToLocals, Value.category]; done) | rfl
def own_nanoB_Q (Z : State) (w_MS : Addr) (q : Int64) (h0 : Heap) (n0 : Nat) (v : Option Value) (h : Heap) (L : List Loc) : Prop := v = some (.long 9223372036854775807) ∧ Fr n0 L ∧ h = h0
set_option maxRecDepth 65536 in
set_option maxHeartbeats 40000000 in
theorem own_nanoB (l : Launch) (Z : State) (a0 : Array Value) (hw : ∀ d ∈ tables_1, d.before a0 Z = true) (ws : List Jvm.Cond) (w_MS : Addr) (q : Int64) (h0 : Heap) (n0 : Nat) (O0 : Old Z n0 h0) (S_MS : Sta Z Z.heap "java/util/concurrent/TimeUnit" "MILLISECONDS" "Ljava/util/concurrent/TimeUnit;" (.ref w_MS)) (E_MS : Exa Z Z.heap w_MS "java/util/concurrent/TimeUnit") (G_MS : Fld Z Z.heap w_MS "java/util/concurrent/TimeUnit" "scale" "J" (.long 1000000)) (M_MS : Fld Z Z.heap w_MS "java/util/concurrent/TimeUnit" "maxNanos" "J" (.long 9223372036854)) (S_DR : Sta Z Z.heap "com/example/horkos/horkos/internal/Lease" "DRIFT_FLOOR_NANOS" "J" (.long 2000000)) (hq2 : (9223372036854 : Int64) < q) :
    MetFree l (⟨"java/util/concurrent/TimeUnit", "toNanos", "(J)J"⟩ : MethodName) (head1 (Jvm.Cond.code (⟨"java/util/concurrent/TimeUnit", "toNanos", "(J)J"⟩ : MethodName) jdk_2799_method_7_code 7 (some .long) :: ws) ({ frames := 0, cells := 0, slots := 0, locals := 0 } : Room)) (fun ar U => ar = #[(.ref w_MS), (.long q)] ∧ Z.Warmed39 U.vm ∧ U.heap = h0) (fun _ _ _ _ _ => True) (fun _ U oc U' => ∃ v L, oc = .returned v ∧ own_nanoB_Q Z w_MS q h0 n0 v U'.heap L ∧ FrameEnd U oc U' L ({ frames := 0, cells := 0, slots := 0, locals := 0 } : Room).cells ({ frames := 0, cells := 0, slots := 0, locals := 0 } : Room).slots) := by
  refine MetFree.of_bodySF (plainFor_of_name own_pn2) hisR ?_
  intro p e s m args below meth c s₁ Bd hml0 hP hK
  obtain ⟨rfl, hZ, hh⟩ := hP
  have hx := Bd.exec
  have hby := Bd.bytes
  have hml : c.maxLocals = 7 := hml0
  have hown : s.vm.findClass "java/util/concurrent/TimeUnit" = some m.cls := findClass_of_methodNamed Bd.named
  have hnm := (name_of_methodNamed Bd.named Bd.method).1
  have X0 : Stand p l e ({ frames := 0, cells := 0, slots := 0, locals := 0 } : Room) s m #[(.ref w_MS), (.long q)] below meth c s₁ [] 0 0 := Stand.of_body Bd
  have e0 : s₁.heap = h0 := by rw [← hh, Bd.state]; rfl
  have N0 := Fr.nil n0
  have pre0 : ∀ t, Steps p.tables e below (s₁.setTop (mkF m 0 #[rv w_MS, .val (.long q), .second, .unset, .unset, .unset, .unset] [])) t → Steps p.tables e below (s₁.setTop (entryFrame m #[(.ref w_MS), (.long q)] 7)) t := fun t k => castTop (own_nanoB_ef m w_MS q) k
  obtain ⟨T1, X1, e1, st1⟩ := getF X0 hx hZ hown (host := "") (Or.inl (hw _ (own_m 34 rfl))) Via.refl e0 (G_MS.ext O0.2) (g := (mkF m 1 #[rv w_MS, .val (.long q), .second, .unset, .unset, .unset, .unset] [(.ref w_MS)])) rfl rfl (hb hby own_d6_1)
  obtain ⟨T2, X2, e2, st2⟩ := getF X1 hx hZ hown (host := "") (Or.inl (hw _ (own_m 36 rfl))) Via.refl e1 (M_MS.ext O0.2) (g := (mkF m 15 #[rv w_MS, .val (.long q), .second, .val (.long 1000000), .second, .unset, .unset] [(.ref w_MS), (.long q)])) rfl rfl (hb hby own_d6_15)
  obtain ⟨fs, hr, hrun, hended, hW, hsame⟩ := X2.leave (v := some (.long 9223372036854775807)) (fun h => by rw [Bd.returns] at h; cases h)
  refine ⟨_, _, pre0 _ ?_, hrun, hended, _, _, rfl, ?_, ⟨_, rfl⟩, hW, hsame.mono (by decide) (by decide)⟩
  · show Steps p.tables e below (s₁.setTop (mkF m 0 #[rv w_MS, .val (.long q), .second, .unset, .unset, .unset, .unset] [])) _
    refine XS.aloadN X0.here hx rfl (hb hby own_d6_0) rfl rfl ?_
    show Steps p.tables e below (s₁.setTop (mkF m 1 #[rv w_MS, .val (.long q), .second, .unset, .unset, .unset, .unset] [(.ref w_MS)])) _
    refine st1 _ ?_
    show Steps p.tables e below (T1.setTop (mkF m 4 #[rv w_MS, .val (.long q), .second, .unset, .unset, .unset, .unset] [(.long 1000000)])) _
    refine XT.dup2L X1.here hx rfl (hb hby own_d6_4) rfl ?_
    show Steps p.tables e below (T1.setTop (mkF m 5 #[rv w_MS, .val (.long q), .second, .unset, .unset, .unset, .unset] [(.long 1000000), (.long 1000000)])) _
    refine XS.lstoreN X1.here hx rfl (hb hby own_d6_5) rfl (l' := #[rv w_MS, .val (.long q), .second, .val (.long 1000000), .second, .unset, .unset]) rfl ?_
    show Steps p.tables e below (T1.setTop (mkF m 6 #[rv w_MS, .val (.long q), .second, .val (.long 1000000), .second, .unset, .unset] [(.long 1000000)])) _
    refine XS.lconst X1.here hx rfl (hb hby own_d6_6) ?_
    show Steps p.tables e below (T1.setTop (mkF m 7 #[rv w_MS, .val (.long q), .second, .val (.long 1000000), .second, .unset, .unset] [(.long 1), (.long 1000000)])) _
    refine XS.lcmp X1.here hx rfl (hb hby own_d6_7) rfl ?_
    show Steps p.tables e below (T1.setTop (mkF m 8 #[rv w_MS, .val (.long q), .second, .val (.long 1000000), .second, .unset, .unset] [(.int (lcmpW (1000000 : Int64) (1 : Int64)))])) _
    refine XS.ifYes X1.here hx rfl (pc0 := 8) (pc' := 13) rfl (hb hby own_d6_8) rfl ((if0 _ _).trans (feq (fun q => (show ¬ ((1000000 : Int64) = (1 : Int64)) from by decide) ((lw_eq _ _).mp q))).2) (by decide) (by decide) ?_
    show Steps p.tables e below (T1.setTop (mkF m 13 #[rv w_MS, .val (.long q), .second, .val (.long 1000000), .second, .unset, .unset] [])) _
    refine XS.lloadN X1.here hx rfl (hb hby own_d6_13) rfl ?_
    show Steps p.tables e below (T1.setTop (mkF m 14 #[rv w_MS, .val (.long q), .second, .val (.long 1000000), .second, .unset, .unset] [(.long q)])) _
    refine XS.aloadN X1.here hx rfl (hb hby own_d6_14) rfl rfl ?_
    show Steps p.tables e below (T1.setTop (mkF m 15 #[rv w_MS, .val (.long q), .second, .val (.long 1000000), .second, .unset, .unset] [(.ref w_MS), (.long q)])) _
    refine st2 _ ?_
    show Steps p.tables e below (T2.setTop (mkF m 18 #[rv w_MS, .val (.long q), .second, .val (.long 1000000), .second, .unset, .unset] [(.long 9223372036854), (.long q)])) _
    refine XT.dup2L X2.here hx rfl (hb hby own_d6_18) rfl ?_
    show Steps p.tables e below (T2.setTop (mkF m 19 #[rv w_MS, .val (.long q), .second, .val (.long 1000000), .second, .unset, .unset] [(.long 9223372036854), (.long 9223372036854), (.long q)])) _
    refine XS.lstore X2.here hx rfl (hb hby own_d6_19) rfl (l' := #[rv w_MS, .val (.long q), .second, .val (.long 1000000), .second, .val (.long 9223372036854), .second]) rfl ?_
    show Steps p.tables e below (T2.setTop (mkF m 21 #[rv w_MS, .val (.long q), .second, .val (.long 1000000), .second, .val (.long 9223372036854), .second] [(.long 9223372036854), (.long q)])) _
    refine XS.lcmp X2.here hx rfl (hb hby own_d6_21) rfl ?_
    show Steps p.tables e below (T2.setTop (mkF m 22 #[rv w_MS, .val (.long q), .second, .val (.long 1000000), .second, .val (.long 9223372036854), .second] [(.int (lcmpW q (9223372036854 : Int64)))])) _
    refine XS.ifNo X2.here hx rfl (hb hby own_d6_22) rfl ((if0 _ _).trans (tlt ((lw_gt _ _).mpr hq2)).2.2.2) ?_
    show Steps p.tables e below (T2.setTop (mkF m 25 #[rv w_MS, .val (.long q), .second, .val (.long 1000000), .second, .val (.long 9223372036854), .second] [])) _
    refine X2.ldc2Long hx hown (mvT hZ (hw _ (own_m 49 rfl))) (g := (mkF m 25 #[rv w_MS, .val (.long q), .second, .val (.long 1000000), .second, .val (.long 9223372036854), .second] [])) rfl (hb hby own_d6_25) _ ?_
    show Steps p.tables e below (T2.setTop (mkF m 28 #[rv w_MS, .val (.long q), .second, .val (.long 1000000), .second, .val (.long 9223372036854), .second] [(.long 9223372036854775807)])) _
    jvm_step X2.here [X2.here.top, hx, (hb hby own_d6_28), X2.method', Bd.returns, narrow]
    first | (intro acts; rw [hr _ acts rfl rfl rfl]) | rw [hr _ _ rfl rfl rfl]
    exact Steps.refl _
  · show own_nanoB_Q Z w_MS q h0 n0 _ T2.heap _
    rw [e2]
    exact ⟨rfl, N0, rfl⟩
theorem own_valB_ef (m : MethodId) (a : Addr) : entryFrame m #[(.ref a)] 5 = mkF m 0 #[rv a, .unset, .unset, .unset, .unset] [] := by first | (simp [entryFrame, mkF, argsToLocals, Value.category]; done) | rfl
def own_valB_Q (Z : State) (w_MS : Addr) (a : Addr) (q : Int64) (h0 : Heap) (n0 : Nat) (v : Option Value) (h : Heap) (L : List Loc) : Prop := v = some (.long 9131138316484228049) ∧ Fr n0 L ∧ h = h0
set_option maxRecDepth 65536 in
set_option maxHeartbeats 40000000 in
theorem own_valB (l : Launch) (Z : State) (a0 : Array Value) (hw : ∀ d ∈ tables_1, d.before a0 Z = true) (ws : List Jvm.Cond) (w_MS : Addr) (a : Addr) (q : Int64) (h0 : Heap) (n0 : Nat) (O0 : Old Z n0 h0) (S_MS : Sta Z Z.heap "java/util/concurrent/TimeUnit" "MILLISECONDS" "Ljava/util/concurrent/TimeUnit;" (.ref w_MS)) (E_MS : Exa Z Z.heap w_MS "java/util/concurrent/TimeUnit") (G_MS : Fld Z Z.heap w_MS "java/util/concurrent/TimeUnit" "scale" "J" (.long 1000000)) (M_MS : Fld Z Z.heap w_MS "java/util/concurrent/TimeUnit" "maxNanos" "J" (.long 9223372036854)) (S_DR : Sta Z Z.heap "com/example/horkos/horkos/internal/Lease" "DRIFT_FLOOR_NANOS" "J" (.long 2000000)) (F_a : Fld Z h0 a "com/example/horkos/horkos/internal/Lease" "millis" "J" (.long q)) (hq2 : (9223372036854 : Int64) < q) :
    MetFree l (⟨"com/example/horkos/horkos/internal/Lease", "validityNanos", "()J"⟩ : MethodName) (head1 (Jvm.Cond.code (⟨"com/example/horkos/horkos/internal/Lease", "validityNanos", "()J"⟩ : MethodName) prog_5_method_4_code 5 (some .long) :: ws) ({ frames := 1, cells := 0, slots := 0, locals := 18 } : Room)) (fun ar U => ar = #[(.ref a)] ∧ Z.Warmed39 U.vm ∧ U.heap = h0) (fun _ _ _ _ _ => True) (fun _ U oc U' => ∃ v L, oc = .returned v ∧ own_valB_Q Z w_MS a q h0 n0 v U'.heap L ∧ FrameEnd U oc U' L ({ frames := 1, cells := 0, slots := 0, locals := 18 } : Room).cells ({ frames := 1, cells := 0, slots := 0, locals := 18 } : Room).slots) := by
  refine MetFree.of_bodySF (plainFor_of_name own_pn1) hisR ?_
  intro p e s m args below meth c s₁ Bd hml0 hP hK
  obtain ⟨rfl, hZ, hh⟩ := hP
  have hx := Bd.exec
  have hby := Bd.bytes
  have hml : c.maxLocals = 5 := hml0
  have hown : s.vm.findClass "com/example/horkos/horkos/internal/Lease" = some m.cls := findClass_of_methodNamed Bd.named
  have hnm := (name_of_methodNamed Bd.named Bd.method).1
  have X0 : Stand p l e ({ frames := 1, cells := 0, slots := 0, locals := 18 } : Room) s m #[(.ref a)] below meth c s₁ [] 0 0 := Stand.of_body Bd
  have e0 : s₁.heap = h0 := by rw [← hh, Bd.state]; rfl
  have N0 := Fr.nil n0
  have pre0 : ∀ t, Steps p.tables e below (s₁.setTop (mkF m 0 #[rv a, .unset, .unset, .unset, .unset] [])) t → Steps p.tables e below (s₁.setTop (entryFrame m #[(.ref a)] 5)) t := fun t k => castTop (own_valB_ef m a) k
  obtain ⟨T1, X1, e1, st1⟩ := getS2 X0 hx hZ hown (host := "") (Or.inl (hw _ (own_m 27 rfl))) Via.refl e0 (S_MS.ext O0.2) (g := (mkF m 0 #[rv a, .unset, .unset, .unset, .unset] [])) rfl (hb hby own_d5_0)
  obtain ⟨T2, X2, e2, st2⟩ := getF X1 hx hZ hown (host := "") (Or.inl (hw _ (own_m 20 rfl))) Via.refl e1 F_a (g := (mkF m 4 #[rv a, .unset, .unset, .unset, .unset] [(.ref a), (.ref w_MS)])) rfl rfl (hb hby own_d5_4)
  obtain ⟨cq3, kq3, q3a, q3b, q3c⟩ := isOf hZ e2 (E_MS.ext O0.2)
  obtain ⟨_, _, ⟨T3, L3, k3, n3⟩, -, X3, ⟨Lc3, hQ3, l3, y3, z3⟩, st3⟩ := X2.virtualBack hx (y := (⟨"java/util/concurrent/TimeUnit", "toNanos", "(J)J"⟩ : MethodName)) (z := (⟨"java/util/concurrent/TimeUnit", "toNanos", "(J)J"⟩ : MethodName)) hown (mvT hZ (hw _ (own_m 29 rfl))) (mvT hZ (hw _ (own_m 30 rfl))) (notFace_of_selects (args := #[]) (mvT hZ (hw _ (own_m 32 rfl)))) (mvT hZ (hw _ (own_m 32 rfl))) (mvT hZ (hw _ (own_m 31 rfl))) (by decide) (backOf (W := 0) (own_nanoB l Z a0 hw [] w_MS q h0 n0 O0 S_MS E_MS G_MS M_MS S_DR hq2) hZ (hw _ (own_m 33 rfl)) (hw _ (own_m 28 rfl)) (by decide) (by decide)) q3a q3c (g := (mkF m 7 #[rv a, .unset, .unset, .unset, .unset] [(.long q), (.ref w_MS)])) rfl (by rw [hml]; rfl) (Steps.refl _) (argsL := [(.long q)]) (rest := []) (lenOf own_pd1 rfl) rfl (by show 2 * 0 + _ ≤ _; exact Nat.le_of_eq rfl) (hb hby own_d5_7) (fun _ _ => ⟨rfl, e2, (by decide : 0 + 0 ≤ _), (by decide : 0 + 0 ≤ _)⟩)
  dsimp only [Pt.U, Pt.locs, Pt.cells, Pt.slots] at X3 l3 y3 z3 st3 hQ3
  subst l3 y3 z3
  obtain ⟨rfl, N3q, e3⟩ := hQ3
  have N3 := Fr.app N0 N3q
  obtain ⟨T4, X4, e4, st4⟩ := getS2 X3 hx hZ hown (host := "") (Or.inl (hw _ (own_m 39 rfl))) Via.refl e3 (S_DR.ext O0.2) (g := (mkF m 16 #[rv a, .val (.long 9223372036854775807), .second, .unset, .unset] [(.long 92233720368547758)])) rfl (hb hby own_d5_16)
  obtain ⟨fs, hr, hrun, hended, hW, hsame⟩ := X4.leave (v := some (.long 9131138316484228049)) (fun h => by rw [Bd.returns] at h; cases h)
  refine ⟨_, _, pre0 _ ?_, hrun, hended, _, _, rfl, ?_, ⟨_, rfl⟩, hW, hsame.mono (by decide) (by decide)⟩
  · show Steps p.tables e below (s₁.setTop (mkF m 0 #[rv a, .unset, .unset, .unset, .unset] [])) _
    refine st1 _ ?_
    show Steps p.tables e below (T1.setTop (mkF m 3 #[rv a, .unset, .unset, .unset, .unset] [(.ref w_MS)])) _
    refine XS.aloadN X1.here hx rfl (hb hby own_d5_3) rfl rfl ?_
    show Steps p.tables e below (T1.setTop (mkF m 4 #[rv a, .unset, .unset, .unset, .unset] [(.ref a), (.ref w_MS)])) _
    refine st2 _ ?_
    show Steps p.tables e below (T2.setTop (mkF m 7 #[rv a, .unset, .unset, .unset, .unset] [(.long q), (.ref w_MS)])) _
    refine st3.trans ?_
    show Steps p.tables e below (T3.setTop (mkF m 10 #[rv a, .unset, .unset, .unset, .unset] [(.long 9223372036854775807)])) _
    refine XS.lstoreN X3.here hx rfl (hb hby own_d5_10) rfl (l' := #[rv a, .val (.long 9223372036854775807), .second, .unset, .unset]) rfl ?_
    show Steps p.tables e below (T3.setTop (mkF m 11 #[rv a, .val (.long 9223372036854775807), .second, .unset, .unset] [])) _
    refine XS.lloadN X3.here hx rfl (hb hby own_d5_11) rfl ?_
    show Steps p.tables e below (T3.setTop (mkF m 12 #[rv a, .val (.long 9223372036854775807), .second, .unset, .unset] [(.long 9223372036854775807)])) _
    refine X3.ldc2Long hx hown (mvT hZ (hw _ (own_m 38 rfl))) (g := (mkF m 12 #[rv a, .val (.long 9223372036854775807), .second, .unset, .unset] [(.long 9223372036854775807)])) rfl (hb hby own_d5_12) _ ?_
    show Steps p.tables e below (T3.setTop (mkF m 15 #[rv a, .val (.long 9223372036854775807), .second, .unset, .unset] [(.long 100), (.long 9223372036854775807)])) _
    refine XS.ldiv X3.here hx rfl (hb hby own_d5_15) rfl (by decide) ?_
    show Steps p.tables e below (T3.setTop (mkF m 16 #[rv a, .val (.long 9223372036854775807), .second, .unset, .unset] [(.long ((9223372036854775807 : Int64) / (100 : Int64)))])) _
    refine own_top (v' := (.long 92233720368547758)) (congrArg Value.long (by decide)) ?_
    show Steps p.tables e below (T3.setTop (mkF m 16 #[rv a, .val (.long 9223372036854775807), .second, .unset, .unset] [(.long 92233720368547758)])) _
    refine st4 _ ?_
    show Steps p.tables e below (T4.setTop (mkF m 19 #[rv a, .val (.long 9223372036854775807), .second, .unset, .unset] [(.long 2000000), (.long 92233720368547758)])) _
    refine XS.ladd X4.here hx rfl (hb hby own_d5_19) rfl ?_
    show Steps p.tables e below (T4.setTop (mkF m 20 #[rv a, .val (.long 9223372036854775807), .second, .unset, .unset] [(.long ((92233720368547758 : Int64) + (2000000 : Int64)))])) _
    refine own_top (v' := (.long 92233720370547758)) (congrArg Value.long (by decide)) ?_
    show Steps p.tables e below (T4.setTop (mkF m 20 #[rv a, .val (.long 9223372036854775807), .second, .unset, .unset] [(.long 92233720370547758)])) _
    refine XS.lstoreN X4.here hx rfl (hb hby own_d5_20) rfl (l' := #[rv a, .val (.long 9223372036854775807), .second, .val (.long 92233720370547758), .second]) rfl ?_
    show Steps p.tables e below (T4.setTop (mkF m 21 #[rv a, .val (.long 9223372036854775807), .second, .val (.long 92233720370547758), .second] [])) _
    refine XS.lloadN X4.here hx rfl (hb hby own_d5_21) rfl ?_
    show Steps p.tables e below (T4.setTop (mkF m 22 #[rv a, .val (.long 9223372036854775807), .second, .val (.long 92233720370547758), .second] [(.long 9223372036854775807)])) _
    refine XS.lloadN X4.here hx rfl (hb hby own_d5_22) rfl ?_
    show Steps p.tables e below (T4.setTop (mkF m 23 #[rv a, .val (.long 9223372036854775807), .second, .val (.long 92233720370547758), .second] [(.long 92233720370547758), (.long 9223372036854775807)])) _
    refine XS.lsub X4.here hx rfl (hb hby own_d5_23) rfl ?_
    show Steps p.tables e below (T4.setTop (mkF m 24 #[rv a, .val (.long 9223372036854775807), .second, .val (.long 92233720370547758), .second] [(.long ((9223372036854775807 : Int64) - (92233720370547758 : Int64)))])) _
    refine own_top (v' := (.long 9131138316484228049)) (congrArg Value.long (by decide)) ?_
    show Steps p.tables e below (T4.setTop (mkF m 24 #[rv a, .val (.long 9223372036854775807), .second, .val (.long 92233720370547758), .second] [(.long 9131138316484228049)])) _
    jvm_step X4.here [X4.here.top, hx, (hb hby own_d5_24), X4.method', Bd.returns, narrow]
    first | (intro acts; rw [hr _ acts rfl rfl rfl]) | rw [hr _ _ rfl rfl rfl]
    exact Steps.refl _
  · show own_valB_Q Z w_MS a q h0 n0 _ T4.heap _
    rw [e4]
    exact ⟨rfl, N3, rfl⟩
theorem own_expB_ef (m : MethodId) (q : Int64) : entryFrame m #[(.long q)] 2 = mkF m 0 #[.val (.long q), .second] [] := by first | (simp [entryFrame, mkF, argsToLocals, Value.category]; done) | rfl
def own_expB_Q (Z : State) (w_MS : Addr) (q : Int64) (h0 : Heap) (n0 : Nat) (v : Option Value) (h : Heap) (L : List Loc) : Prop := v = some (.long 9131138316484228049) ∧ Fr n0 L ∧ h = h0
set_option maxRecDepth 65536 in
set_option maxHeartbeats 40000000 in
theorem own_expB (l : Launch) (Z : State) (a0 : Array Value) (hw : ∀ d ∈ tables_1, d.before a0 Z = true) (ws : List Jvm.Cond) (w_MS : Addr) (q : Int64) (h0 : Heap) (n0 : Nat) (O0 : Old Z n0 h0) (S_MS : Sta Z Z.heap "java/util/concurrent/TimeUnit" "MILLISECONDS" "Ljava/util/concurrent/TimeUnit;" (.ref w_MS)) (E_MS : Exa Z Z.heap w_MS "java/util/concurrent/TimeUnit") (G_MS : Fld Z Z.heap w_MS "java/util/concurrent/TimeUnit" "scale" "J" (.long 1000000)) (M_MS : Fld Z Z.heap w_MS "java/util/concurrent/TimeUnit" "maxNanos" "J" (.long 9223372036854)) (S_DR : Sta Z Z.heap "com/example/horkos/horkos/internal/Lease" "DRIFT_FLOOR_NANOS" "J" (.long 2000000)) (hq2 : (9223372036854 : Int64) < q) :
    MetFree l (⟨"com/example/horkos/horkos/internal/LeaseValidityNanosPinLaw", "expected", "(J)J"⟩ : MethodName) (head1 (Jvm.Cond.code (⟨"com/example/horkos/horkos/internal/LeaseValidityNanosPinLaw", "expected", "(J)J"⟩ : MethodName) method_3_code 2 (some .long) :: ws) ({ frames := 0, cells := 0, slots := 0, locals := 0 } : Room)) (fun ar U => ar = #[(.long q)] ∧ Z.Warmed39 U.vm ∧ U.heap = h0) (fun _ _ _ _ _ => True) (fun _ U oc U' => ∃ v L, oc = .returned v ∧ own_expB_Q Z w_MS q h0 n0 v U'.heap L ∧ FrameEnd U oc U' L ({ frames := 0, cells := 0, slots := 0, locals := 0 } : Room).cells ({ frames := 0, cells := 0, slots := 0, locals := 0 } : Room).slots) := by
  refine MetFree.of_bodySF (plainFor_of_name own_pn3) hisR ?_
  intro p e s m args below meth c s₁ Bd hml0 hP hK
  obtain ⟨rfl, hZ, hh⟩ := hP
  have hx := Bd.exec
  have hby := Bd.bytes
  have hml : c.maxLocals = 2 := hml0
  have hown : s.vm.findClass "com/example/horkos/horkos/internal/LeaseValidityNanosPinLaw" = some m.cls := findClass_of_methodNamed Bd.named
  have hnm := (name_of_methodNamed Bd.named Bd.method).1
  have X0 : Stand p l e ({ frames := 0, cells := 0, slots := 0, locals := 0 } : Room) s m #[(.long q)] below meth c s₁ [] 0 0 := Stand.of_body Bd
  have e0 : s₁.heap = h0 := by rw [← hh, Bd.state]; rfl
  have N0 := Fr.nil n0
  have pre0 : ∀ t, Steps p.tables e below (s₁.setTop (mkF m 0 #[.val (.long q), .second] [])) t → Steps p.tables e below (s₁.setTop (entryFrame m #[(.long q)] 2)) t := fun t k => castTop (own_expB_ef m q) k
  obtain ⟨fs, hr, hrun, hended, hW, hsame⟩ := X0.leave (v := some (.long 9131138316484228049)) (fun h => by rw [Bd.returns] at h; cases h)
  refine ⟨_, _, pre0 _ ?_, hrun, hended, _, _, rfl, ?_, ⟨_, rfl⟩, hW, hsame.mono (by decide) (by decide)⟩
  · show Steps p.tables e below (s₁.setTop (mkF m 0 #[.val (.long q), .second] [])) _
    refine XS.lloadN X0.here hx rfl (hb hby own_d7_0) rfl ?_
    show Steps p.tables e below (s₁.setTop (mkF m 1 #[.val (.long q), .second] [(.long q)])) _
    refine X0.ldc2Long hx hown (mvT hZ (hw _ (own_m 44 rfl))) (g := (mkF m 1 #[.val (.long q), .second] [(.long q)])) rfl (hb hby own_d7_1) _ ?_
    show Steps p.tables e below (s₁.setTop (mkF m 4 #[.val (.long q), .second] [(.long 9223372036854), (.long q)])) _
    refine XS.lcmp X0.here hx rfl (hb hby own_d7_4) rfl ?_
    show Steps p.tables e below (s₁.setTop (mkF m 5 #[.val (.long q), .second] [(.int (lcmpW q (9223372036854 : Int64)))])) _
    refine XS.ifYes X0.here hx rfl (pc0 := 5) (pc' := 18) rfl (hb hby own_d7_5) rfl ((if0 _ _).trans (tlt ((lw_gt _ _).mpr hq2)).2.2.1) (by decide) (by decide) ?_
    show Steps p.tables e below (s₁.setTop (mkF m 18 #[.val (.long q), .second] [])) _
    refine X0.ldc2Long hx hown (mvT hZ (hw _ (own_m 50 rfl))) (g := (mkF m 18 #[.val (.long q), .second] [])) rfl (hb hby own_d7_18) _ ?_
    show Steps p.tables e below (s₁.setTop (mkF m 21 #[.val (.long q), .second] [(.long 9131138316484228049)])) _
    jvm_step X0.here [X0.here.top, hx, (hb hby own_d7_21), X0.method', Bd.returns, narrow]
    first | (intro acts; rw [hr _ acts rfl rfl rfl]) | rw [hr _ _ rfl rfl rfl]
    exact Steps.refl _
  · show own_expB_Q Z w_MS q h0 n0 _ s₁.heap _
    rw [e0]
    exact ⟨rfl, N0, rfl⟩
theorem own_pick_ef (m : MethodId) (q : Int64) (pz : Int32) : entryFrame m #[(.long q), (.int pz)] 4 = mkF m 0 #[.val (.long q), .second, iv pz, .unset] [] := by first | (simp [entryFrame, mkF, argsToLocals, Value.category]; done) | rfl
def own_pick_Q (Z : State) (w_MS : Addr) (q : Int64) (pz : Int32) (h0 : Heap) (n0 : Nat) (v : Option Value) (h : Heap) (L : List Loc) : Prop := ∃ m : Int64, v = some (.long m) ∧ (¬ m < (1 : Int64) ∧ ¬ (4611686018427387904 : Int64) < m) ∧ Fr n0 L ∧ h = h0
set_option maxRecDepth 65536 in
set_option maxHeartbeats 40000000 in
theorem own_pick (l : Launch) (Z : State) (a0 : Array Value) (hw : ∀ d ∈ tables_1, d.before a0 Z = true) (ws : List Jvm.Cond) (w_MS : Addr) (q : Int64) (pz : Int32) (h0 : Heap) (n0 : Nat) (O0 : Old Z n0 h0) (S_MS : Sta Z Z.heap "java/util/concurrent/TimeUnit" "MILLISECONDS" "Ljava/util/concurrent/TimeUnit;" (.ref w_MS)) (E_MS : Exa Z Z.heap w_MS "java/util/concurrent/TimeUnit") (G_MS : Fld Z Z.heap w_MS "java/util/concurrent/TimeUnit" "scale" "J" (.long 1000000)) (M_MS : Fld Z Z.heap w_MS "java/util/concurrent/TimeUnit" "maxNanos" "J" (.long 9223372036854)) (S_DR : Sta Z Z.heap "com/example/horkos/horkos/internal/Lease" "DRIFT_FLOOR_NANOS" "J" (.long 2000000)) :
    MetFree l (⟨"com/example/horkos/horkos/internal/LeaseValidityNanosPinLaw", "pickMillis", "(JI)J"⟩ : MethodName) (head1 (Jvm.Cond.code (⟨"com/example/horkos/horkos/internal/LeaseValidityNanosPinLaw", "pickMillis", "(JI)J"⟩ : MethodName) method_2_code 4 (some .long) :: ws) ({ frames := 0, cells := 0, slots := 0, locals := 0 } : Room)) (fun ar U => ar = #[(.long q), (.int pz)] ∧ Z.Warmed39 U.vm ∧ U.heap = h0) (fun _ _ _ _ _ => True) (fun _ U oc U' => ∃ v L, oc = .returned v ∧ own_pick_Q Z w_MS q pz h0 n0 v U'.heap L ∧ FrameEnd U oc U' L ({ frames := 0, cells := 0, slots := 0, locals := 0 } : Room).cells ({ frames := 0, cells := 0, slots := 0, locals := 0 } : Room).slots) := by
  refine MetFree.of_bodySF (plainFor_of_name own_pn3) hisR ?_
  intro p e s m args below meth c s₁ Bd hml0 hP hK
  obtain ⟨rfl, hZ, hh⟩ := hP
  have hx := Bd.exec
  have hby := Bd.bytes
  have hml : c.maxLocals = 4 := hml0
  have hown : s.vm.findClass "com/example/horkos/horkos/internal/LeaseValidityNanosPinLaw" = some m.cls := findClass_of_methodNamed Bd.named
  have hnm := (name_of_methodNamed Bd.named Bd.method).1
  have X0 : Stand p l e ({ frames := 0, cells := 0, slots := 0, locals := 0 } : Room) s m #[(.long q), (.int pz)] below meth c s₁ [] 0 0 := Stand.of_body Bd
  have e0 : s₁.heap = h0 := by rw [← hh, Bd.state]; rfl
  have N0 := Fr.nil n0
  have pre0 : ∀ t, Steps p.tables e below (s₁.setTop (mkF m 0 #[.val (.long q), .second, iv pz, .unset] [])) t → Steps p.tables e below (s₁.setTop (entryFrame m #[(.long q), (.int pz)] 4)) t := fun t k => castTop (own_pick_ef m q pz) k
  rcases own_mask2 pz with hk | hk | hk | hk
  · obtain ⟨fs, hr, hrun, hended, hW, hsame⟩ := X0.leave (v := some (.long ((1 : Int64) + ((q &&& (9223372036854775807 : Int64)) % (4611686018427387904 : Int64))))) (fun h => by rw [Bd.returns] at h; cases h)
    refine ⟨_, _, pre0 _ ?_, hrun, hended, _, _, rfl, ?_, ⟨_, rfl⟩, hW, hsame.mono (by decide) (by decide)⟩
    · show Steps p.tables e below (s₁.setTop (mkF m 0 #[.val (.long q), .second, iv pz, .unset] [])) _
      refine XS.iloadN X0.here hx rfl (hb hby own_d1_0) rfl ?_
      show Steps p.tables e below (s₁.setTop (mkF m 1 #[.val (.long q), .second, iv pz, .unset] [(.int pz)])) _
      refine XS.iconst X0.here hx rfl (hb hby own_d1_1) ?_
      show Steps p.tables e below (s₁.setTop (mkF m 2 #[.val (.long q), .second, iv pz, .unset] [(.int 3), (.int pz)])) _
      refine XS.iand X0.here hx rfl (hb hby own_d1_2) rfl ?_
      show Steps p.tables e below (s₁.setTop (mkF m 3 #[.val (.long q), .second, iv pz, .unset] [(.int (pz &&& (3 : Int32)))])) _
      refine own_top (v' := (.int 0)) (congrArg Value.int hk) ?_
      show Steps p.tables e below (s₁.setTop (mkF m 3 #[.val (.long q), .second, iv pz, .unset] [(.int 0)])) _
      refine XS.istoreN X0.here hx rfl (hb hby own_d1_3) rfl (l' := #[.val (.long q), .second, iv pz, iv 0]) rfl ?_
      show Steps p.tables e below (s₁.setTop (mkF m 4 #[.val (.long q), .second, iv pz, iv 0] [])) _
      refine XS.iloadN X0.here hx rfl (hb hby own_d1_4) rfl ?_
      show Steps p.tables e below (s₁.setTop (mkF m 5 #[.val (.long q), .second, iv pz, iv 0] [(.int 0)])) _
      refine XS.ifNo X0.here hx rfl (hb hby own_d1_5) rfl ((if0 _ _).trans (teq (by decide)).2) ?_
      show Steps p.tables e below (s₁.setTop (mkF m 8 #[.val (.long q), .second, iv pz, iv 0] [])) _
      refine XS.lconst X0.here hx rfl (hb hby own_d1_8) ?_
      show Steps p.tables e below (s₁.setTop (mkF m 9 #[.val (.long q), .second, iv pz, iv 0] [(.long 1)])) _
      refine XS.lloadN X0.here hx rfl (hb hby own_d1_9) rfl ?_
      show Steps p.tables e below (s₁.setTop (mkF m 10 #[.val (.long q), .second, iv pz, iv 0] [(.long q), (.long 1)])) _
      refine X0.ldc2Long hx hown (mvT hZ (hw _ (own_m 47 rfl))) (g := (mkF m 10 #[.val (.long q), .second, iv pz, iv 0] [(.long q), (.long 1)])) rfl (hb hby own_d1_10) _ ?_
      show Steps p.tables e below (s₁.setTop (mkF m 13 #[.val (.long q), .second, iv pz, iv 0] [(.long 9223372036854775807), (.long q), (.long 1)])) _
      refine XS.land X0.here hx rfl (hb hby own_d1_13) rfl ?_
      show Steps p.tables e below (s₁.setTop (mkF m 14 #[.val (.long q), .second, iv pz, iv 0] [(.long (q &&& (9223372036854775807 : Int64))), (.long 1)])) _
      refine X0.ldc2Long hx hown (mvT hZ (hw _ (own_m 48 rfl))) (g := (mkF m 14 #[.val (.long q), .second, iv pz, iv 0] [(.long (q &&& (9223372036854775807 : Int64))), (.long 1)])) rfl (hb hby own_d1_14) _ ?_
      show Steps p.tables e below (s₁.setTop (mkF m 17 #[.val (.long q), .second, iv pz, iv 0] [(.long 4611686018427387904), (.long (q &&& (9223372036854775807 : Int64))), (.long 1)])) _
      refine XS.lrem X0.here hx rfl (hb hby own_d1_17) rfl (by decide) ?_
      show Steps p.tables e below (s₁.setTop (mkF m 18 #[.val (.long q), .second, iv pz, iv 0] [(.long ((q &&& (9223372036854775807 : Int64)) - ((q &&& (9223372036854775807 : Int64)) / (4611686018427387904 : Int64)) * (4611686018427387904 : Int64))), (.long 1)])) _
      refine own_top (v' := (.long ((q &&& (9223372036854775807 : Int64)) % (4611686018427387904 : Int64)))) (congrArg Value.long (lrem_mod _ _)) ?_
      show Steps p.tables e below (s₁.setTop (mkF m 18 #[.val (.long q), .second, iv pz, iv 0] [(.long ((q &&& (9223372036854775807 : Int64)) % (4611686018427387904 : Int64))), (.long 1)])) _
      refine XS.ladd X0.here hx rfl (hb hby own_d1_18) rfl ?_
      show Steps p.tables e below (s₁.setTop (mkF m 19 #[.val (.long q), .second, iv pz, iv 0] [(.long ((1 : Int64) + ((q &&& (9223372036854775807 : Int64)) % (4611686018427387904 : Int64))))])) _
      jvm_step X0.here [X0.here.top, hx, (hb hby own_d1_19), X0.method', Bd.returns, narrow]
      first | (intro acts; rw [hr _ acts rfl rfl rfl]) | rw [hr _ _ rfl rfl rfl]
      exact Steps.refl _
    · show own_pick_Q Z w_MS q pz h0 n0 _ s₁.heap _
      rw [e0]
      exact ⟨_, rfl, own_b0 q, N0, rfl⟩
  · obtain ⟨fs, hr, hrun, hended, hW, hsame⟩ := X0.leave (v := some (.long ((9223372036854 : Int64) + (q % (8 : Int64))))) (fun h => by rw [Bd.returns] at h; cases h)
    refine ⟨_, _, pre0 _ ?_, hrun, hended, _, _, rfl, ?_, ⟨_, rfl⟩, hW, hsame.mono (by decide) (by decide)⟩
    · show Steps p.tables e below (s₁.setTop (mkF m 0 #[.val (.long q), .second, iv pz, .unset] [])) _
      refine XS.iloadN X0.here hx rfl (hb hby own_d1_0) rfl ?_
      show Steps p.tables e below (s₁.setTop (mkF m 1 #[.val (.long q), .second, iv pz, .unset] [(.int pz)])) _
      refine XS.iconst X0.here hx rfl (hb hby own_d1_1) ?_
      show Steps p.tables e below (s₁.setTop (mkF m 2 #[.val (.long q), .second, iv pz, .unset] [(.int 3), (.int pz)])) _
      refine XS.iand X0.here hx rfl (hb hby own_d1_2) rfl ?_
      show Steps p.tables e below (s₁.setTop (mkF m 3 #[.val (.long q), .second, iv pz, .unset] [(.int (pz &&& (3 : Int32)))])) _
      refine own_top (v' := (.int 1)) (congrArg Value.int hk) ?_
      show Steps p.tables e below (s₁.setTop (mkF m 3 #[.val (.long q), .second, iv pz, .unset] [(.int 1)])) _
      refine XS.istoreN X0.here hx rfl (hb hby own_d1_3) rfl (l' := #[.val (.long q), .second, iv pz, iv 1]) rfl ?_
      show Steps p.tables e below (s₁.setTop (mkF m 4 #[.val (.long q), .second, iv pz, iv 1] [])) _
      refine XS.iloadN X0.here hx rfl (hb hby own_d1_4) rfl ?_
      show Steps p.tables e below (s₁.setTop (mkF m 5 #[.val (.long q), .second, iv pz, iv 1] [(.int 1)])) _
      refine XS.ifYes X0.here hx rfl (pc0 := 5) (pc' := 20) rfl (hb hby own_d1_5) rfl ((if0 _ _).trans (feq (by decide)).2) (by decide) (by decide) ?_
      show Steps p.tables e below (s₁.setTop (mkF m 20 #[.val (.long q), .second, iv pz, iv 1] [])) _
      refine XS.iloadN X0.here hx rfl (hb hby own_d1_20) rfl ?_
      show Steps p.tables e below (s₁.setTop (mkF m 21 #[.val (.long q), .second, iv pz, iv 1] [(.int 1)])) _
      refine XS.iconst X0.here hx rfl (hb hby own_d1_21) ?_
      show Steps p.tables e below (s₁.setTop (mkF m 22 #[.val (.long q), .second, iv pz, iv 1] [(.int 1), (.int 1)])) _
      refine XS.icmpNo X0.here hx rfl (hb hby own_d1_22) rfl (teq (by decide)).2 ?_
      show Steps p.tables e below (s₁.setTop (mkF m 25 #[.val (.long q), .second, iv pz, iv 1] [])) _
      refine X0.ldc2Long hx hown (mvT hZ (hw _ (own_m 44 rfl))) (g := (mkF m 25 #[.val (.long q), .second, iv pz, iv 1] [])) rfl (hb hby own_d1_25) _ ?_
      show Steps p.tables e below (s₁.setTop (mkF m 28 #[.val (.long q), .second, iv pz, iv 1] [(.long 9223372036854)])) _
      refine XS.lloadN X0.here hx rfl (hb hby own_d1_28) rfl ?_
      show Steps p.tables e below (s₁.setTop (mkF m 29 #[.val (.long q), .second, iv pz, iv 1] [(.long q), (.long 9223372036854)])) _
      refine X0.ldc2Long hx hown (mvT hZ (hw _ (own_m 51 rfl))) (g := (mkF m 29 #[.val (.long q), .second, iv pz, iv 1] [(.long q), (.long 9223372036854)])) rfl (hb hby own_d1_29) _ ?_
      show Steps p.tables e below (s₁.setTop (mkF m 32 #[.val (.long q), .second, iv pz, iv 1] [(.long 8), (.long q), (.long 9223372036854)])) _
      refine XS.lrem X0.here hx rfl (hb hby own_d1_32) rfl (by decide) ?_
      show Steps p.tables e below (s₁.setTop (mkF m 33 #[.val (.long q), .second, iv pz, iv 1] [(.long (q - (q / (8 : Int64)) * (8 : Int64))), (.long 9223372036854)])) _
      refine own_top (v' := (.long (q % (8 : Int64)))) (congrArg Value.long (lrem_mod _ _)) ?_
      show Steps p.tables e below (s₁.setTop (mkF m 33 #[.val (.long q), .second, iv pz, iv 1] [(.long (q % (8 : Int64))), (.long 9223372036854)])) _
      refine XS.ladd X0.here hx rfl (hb hby own_d1_33) rfl ?_
      show Steps p.tables e below (s₁.setTop (mkF m 34 #[.val (.long q), .second, iv pz, iv 1] [(.long ((9223372036854 : Int64) + (q % (8 : Int64))))])) _
      jvm_step X0.here [X0.here.top, hx, (hb hby own_d1_34), X0.method', Bd.returns, narrow]
      first | (intro acts; rw [hr _ acts rfl rfl rfl]) | rw [hr _ _ rfl rfl rfl]
      exact Steps.refl _
    · show own_pick_Q Z w_MS q pz h0 n0 _ s₁.heap _
      rw [e0]
      exact ⟨_, rfl, own_b1 q, N0, rfl⟩
  · obtain ⟨fs, hr, hrun, hended, hW, hsame⟩ := X0.leave (v := some (.long ((1 : Int64) + (q &&& (65535 : Int64))))) (fun h => by rw [Bd.returns] at h; cases h)
    refine ⟨_, _, pre0 _ ?_, hrun, hended, _, _, rfl, ?_, ⟨_, rfl⟩, hW, hsame.mono (by decide) (by decide)⟩
    · show Steps p.tables e below (s₁.setTop (mkF m 0 #[.val (.long q), .second, iv pz, .unset] [])) _
      refine XS.iloadN X0.here hx rfl (hb hby own_d1_0) rfl ?_
      show Steps p.tables e below (s₁.setTop (mkF m 1 #[.val (.long q), .second, iv pz, .unset] [(.int pz)])) _
      refine XS.iconst X0.here hx rfl (hb hby own_d1_1) ?_
      show Steps p.tables e below (s₁.setTop (mkF m 2 #[.val (.long q), .second, iv pz, .unset] [(.int 3), (.int pz)])) _
      refine XS.iand X0.here hx rfl (hb hby own_d1_2) rfl ?_
      show Steps p.tables e below (s₁.setTop (mkF m 3 #[.val (.long q), .second, iv pz, .unset] [(.int (pz &&& (3 : Int32)))])) _
      refine own_top (v' := (.int 2)) (congrArg Value.int hk) ?_
      show Steps p.tables e below (s₁.setTop (mkF m 3 #[.val (.long q), .second, iv pz, .unset] [(.int 2)])) _
      refine XS.istoreN X0.here hx rfl (hb hby own_d1_3) rfl (l' := #[.val (.long q), .second, iv pz, iv 2]) rfl ?_
      show Steps p.tables e below (s₁.setTop (mkF m 4 #[.val (.long q), .second, iv pz, iv 2] [])) _
      refine XS.iloadN X0.here hx rfl (hb hby own_d1_4) rfl ?_
      show Steps p.tables e below (s₁.setTop (mkF m 5 #[.val (.long q), .second, iv pz, iv 2] [(.int 2)])) _
      refine XS.ifYes X0.here hx rfl (pc0 := 5) (pc' := 20) rfl (hb hby own_d1_5) rfl ((if0 _ _).trans (feq (by decide)).2) (by decide) (by decide) ?_
      show Steps p.tables e below (s₁.setTop (mkF m 20 #[.val (.long q), .second, iv pz, iv 2] [])) _
      refine XS.iloadN X0.here hx rfl (hb hby own_d1_20) rfl ?_
      show Steps p.tables e below (s₁.setTop (mkF m 21 #[.val (.long q), .second, iv pz, iv 2] [(.int 2)])) _
      refine XS.iconst X0.here hx rfl (hb hby own_d1_21) ?_
      show Steps p.tables e below (s₁.setTop (mkF m 22 #[.val (.long q), .second, iv pz, iv 2] [(.int 1), (.int 2)])) _
      refine XS.icmpYes X0.here hx rfl (pc0 := 22) (pc' := 35) rfl (hb hby own_d1_22) rfl (feq (by decide)).2 (by decide) (by decide) ?_
      show Steps p.tables e below (s₁.setTop (mkF m 35 #[.val (.long q), .second, iv pz, iv 2] [])) _
      refine XS.iloadN X0.here hx rfl (hb hby own_d1_35) rfl ?_
      show Steps p.tables e below (s₁.setTop (mkF m 36 #[.val (.long q), .second, iv pz, iv 2] [(.int 2)])) _
      refine XS.iconst X0.here hx rfl (hb hby own_d1_36) ?_
      show Steps p.tables e below (s₁.setTop (mkF m 37 #[.val (.long q), .second, iv pz, iv 2] [(.int 2), (.int 2)])) _
      refine XS.icmpNo X0.here hx rfl (hb hby own_d1_37) rfl (teq (by decide)).2 ?_
      show Steps p.tables e below (s₁.setTop (mkF m 40 #[.val (.long q), .second, iv pz, iv 2] [])) _
      refine XS.lconst X0.here hx rfl (hb hby own_d1_40) ?_
      show Steps p.tables e below (s₁.setTop (mkF m 41 #[.val (.long q), .second, iv pz, iv 2] [(.long 1)])) _
      refine XS.lloadN X0.here hx rfl (hb hby own_d1_41) rfl ?_
      show Steps p.tables e below (s₁.setTop (mkF m 42 #[.val (.long q), .second, iv pz, iv 2] [(.long q), (.long 1)])) _
      refine X0.ldc2Long hx hown (mvT hZ (hw _ (own_m 4 rfl))) (g := (mkF m 42 #[.val (.long q), .second, iv pz, iv 2] [(.long q), (.long 1)])) rfl (hb hby own_d1_42) _ ?_
      show Steps p.tables e below (s₁.setTop (mkF m 45 #[.val (.long q), .second, iv pz, iv 2] [(.long 65535), (.long q), (.long 1)])) _
      refine XS.land X0.here hx rfl (hb hby own_d1_45) rfl ?_
      show Steps p.tables e below (s₁.setTop (mkF m 46 #[.val (.long q), .second, iv pz, iv 2] [(.long (q &&& (65535 : Int64))), (.long 1)])) _
      refine XS.ladd X0.here hx rfl (hb hby own_d1_46) rfl ?_
      show Steps p.tables e below (s₁.setTop (mkF m 47 #[.val (.long q), .second, iv pz, iv 2] [(.long ((1 : Int64) + (q &&& (65535 : Int64))))])) _
      jvm_step X0.here [X0.here.top, hx, (hb hby own_d1_47), X0.method', Bd.returns, narrow]
      first | (intro acts; rw [hr _ acts rfl rfl rfl]) | rw [hr _ _ rfl rfl rfl]
      exact Steps.refl _
    · show own_pick_Q Z w_MS q pz h0 n0 _ s₁.heap _
      rw [e0]
      exact ⟨_, rfl, own_b2 q, N0, rfl⟩
  · obtain ⟨fs, hr, hrun, hended, hW, hsame⟩ := X0.leave (v := some (.long ((1 : Int64) + ((q &&& (9223372036854775807 : Int64)) % (9223372036854 : Int64))))) (fun h => by rw [Bd.returns] at h; cases h)
    refine ⟨_, _, pre0 _ ?_, hrun, hended, _, _, rfl, ?_, ⟨_, rfl⟩, hW, hsame.mono (by decide) (by decide)⟩
    · show Steps p.tables e below (s₁.setTop (mkF m 0 #[.val (.long q), .second, iv pz, .unset] [])) _
      refine XS.iloadN X0.here hx rfl (hb hby own_d1_0) rfl ?_
      show Steps p.tables e below (s₁.setTop (mkF m 1 #[.val (.long q), .second, iv pz, .unset] [(.int pz)])) _
      refine XS.iconst X0.here hx rfl (hb hby own_d1_1) ?_
      show Steps p.tables e below (s₁.setTop (mkF m 2 #[.val (.long q), .second, iv pz, .unset] [(.int 3), (.int pz)])) _
      refine XS.iand X0.here hx rfl (hb hby own_d1_2) rfl ?_
      show Steps p.tables e below (s₁.setTop (mkF m 3 #[.val (.long q), .second, iv pz, .unset] [(.int (pz &&& (3 : Int32)))])) _
      refine own_top (v' := (.int 3)) (congrArg Value.int hk) ?_
      show Steps p.tables e below (s₁.setTop (mkF m 3 #[.val (.long q), .second, iv pz, .unset] [(.int 3)])) _
      refine XS.istoreN X0.here hx rfl (hb hby own_d1_3) rfl (l' := #[.val (.long q), .second, iv pz, iv 3]) rfl ?_
      show Steps p.tables e below (s₁.setTop (mkF m 4 #[.val (.long q), .second, iv pz, iv 3] [])) _
      refine XS.iloadN X0.here hx rfl (hb hby own_d1_4) rfl ?_
      show Steps p.tables e below (s₁.setTop (mkF m 5 #[.val (.long q), .second, iv pz, iv 3] [(.int 3)])) _
      refine XS.ifYes X0.here hx rfl (pc0 := 5) (pc' := 20) rfl (hb hby own_d1_5) rfl ((if0 _ _).trans (feq (by decide)).2) (by decide) (by decide) ?_
      show Steps p.tables e below (s₁.setTop (mkF m 20 #[.val (.long q), .second, iv pz, iv 3] [])) _
      refine XS.iloadN X0.here hx rfl (hb hby own_d1_20) rfl ?_
      show Steps p.tables e below (s₁.setTop (mkF m 21 #[.val (.long q), .second, iv pz, iv 3] [(.int 3)])) _
      refine XS.iconst X0.here hx rfl (hb hby own_d1_21) ?_
      show Steps p.tables e below (s₁.setTop (mkF m 22 #[.val (.long q), .second, iv pz, iv 3] [(.int 1), (.int 3)])) _
      refine XS.icmpYes X0.here hx rfl (pc0 := 22) (pc' := 35) rfl (hb hby own_d1_22) rfl (feq (by decide)).2 (by decide) (by decide) ?_
      show Steps p.tables e below (s₁.setTop (mkF m 35 #[.val (.long q), .second, iv pz, iv 3] [])) _
      refine XS.iloadN X0.here hx rfl (hb hby own_d1_35) rfl ?_
      show Steps p.tables e below (s₁.setTop (mkF m 36 #[.val (.long q), .second, iv pz, iv 3] [(.int 3)])) _
      refine XS.iconst X0.here hx rfl (hb hby own_d1_36) ?_
      show Steps p.tables e below (s₁.setTop (mkF m 37 #[.val (.long q), .second, iv pz, iv 3] [(.int 2), (.int 3)])) _
      refine XS.icmpYes X0.here hx rfl (pc0 := 37) (pc' := 48) rfl (hb hby own_d1_37) rfl (feq (by decide)).2 (by decide) (by decide) ?_
      show Steps p.tables e below (s₁.setTop (mkF m 48 #[.val (.long q), .second, iv pz, iv 3] [])) _
      refine XS.lconst X0.here hx rfl (hb hby own_d1_48) ?_
      show Steps p.tables e below (s₁.setTop (mkF m 49 #[.val (.long q), .second, iv pz, iv 3] [(.long 1)])) _
      refine XS.lloadN X0.here hx rfl (hb hby own_d1_49) rfl ?_
      show Steps p.tables e below (s₁.setTop (mkF m 50 #[.val (.long q), .second, iv pz, iv 3] [(.long q), (.long 1)])) _
      refine X0.ldc2Long hx hown (mvT hZ (hw _ (own_m 47 rfl))) (g := (mkF m 50 #[.val (.long q), .second, iv pz, iv 3] [(.long q), (.long 1)])) rfl (hb hby own_d1_50) _ ?_
      show Steps p.tables e below (s₁.setTop (mkF m 53 #[.val (.long q), .second, iv pz, iv 3] [(.long 9223372036854775807), (.long q), (.long 1)])) _
      refine XS.land X0.here hx rfl (hb hby own_d1_53) rfl ?_
      show Steps p.tables e below (s₁.setTop (mkF m 54 #[.val (.long q), .second, iv pz, iv 3] [(.long (q &&& (9223372036854775807 : Int64))), (.long 1)])) _
      refine X0.ldc2Long hx hown (mvT hZ (hw _ (own_m 44 rfl))) (g := (mkF m 54 #[.val (.long q), .second, iv pz, iv 3] [(.long (q &&& (9223372036854775807 : Int64))), (.long 1)])) rfl (hb hby own_d1_54) _ ?_
      show Steps p.tables e below (s₁.setTop (mkF m 57 #[.val (.long q), .second, iv pz, iv 3] [(.long 9223372036854), (.long (q &&& (9223372036854775807 : Int64))), (.long 1)])) _
      refine XS.lrem X0.here hx rfl (hb hby own_d1_57) rfl (by decide) ?_
      show Steps p.tables e below (s₁.setTop (mkF m 58 #[.val (.long q), .second, iv pz, iv 3] [(.long ((q &&& (9223372036854775807 : Int64)) - ((q &&& (9223372036854775807 : Int64)) / (9223372036854 : Int64)) * (9223372036854 : Int64))), (.long 1)])) _
      refine own_top (v' := (.long ((q &&& (9223372036854775807 : Int64)) % (9223372036854 : Int64)))) (congrArg Value.long (lrem_mod _ _)) ?_
      show Steps p.tables e below (s₁.setTop (mkF m 58 #[.val (.long q), .second, iv pz, iv 3] [(.long ((q &&& (9223372036854775807 : Int64)) % (9223372036854 : Int64))), (.long 1)])) _
      refine XS.ladd X0.here hx rfl (hb hby own_d1_58) rfl ?_
      show Steps p.tables e below (s₁.setTop (mkF m 59 #[.val (.long q), .second, iv pz, iv 3] [(.long ((1 : Int64) + ((q &&& (9223372036854775807 : Int64)) % (9223372036854 : Int64))))])) _
      jvm_step X0.here [X0.here.top, hx, (hb hby own_d1_59), X0.method', Bd.returns, narrow]
      first | (intro acts; rw [hr _ acts rfl rfl rfl]) | rw [hr _ _ rfl rfl rfl]
      exact Steps.refl _
    · show own_pick_Q Z w_MS q pz h0 n0 _ s₁.heap _
      rw [e0]
      exact ⟨_, rfl, own_b3 q, N0, rfl⟩
theorem own_law_ef (m : MethodId) (q0 : Int64) (p0 : Int32) : entryFrame m #[(.long q0), (.int p0)] maxLocals = mkF m 0 #[.val (.long q0), .second, iv p0, .unset, .unset, .unset] [] := by first | (simp [entryFrame, mkF, argsToLocals, Value.category, maxLocals]; done) | rfl
def own_law_Q (Z : State) (w_MS : Addr) (q0 : Int64) (p0 : Int32) (h0 : Heap) (n0 : Nat) (v : Option Value) (h : Heap) (L : List Loc) : Prop := v = some (.int 1) ∧ Fr n0 L
set_option maxRecDepth 65536 in
set_option maxHeartbeats 40000000 in
theorem own_law (l : Launch) (Z : State) (a0 : Array Value) (hw : ∀ d ∈ tables_1, d.before a0 Z = true) (ws : List Jvm.Cond) (w_MS : Addr) (q0 : Int64) (p0 : Int32) (h0 : Heap) (n0 : Nat) (O0 : Old Z n0 h0) (S_MS : Sta Z Z.heap "java/util/concurrent/TimeUnit" "MILLISECONDS" "Ljava/util/concurrent/TimeUnit;" (.ref w_MS)) (E_MS : Exa Z Z.heap w_MS "java/util/concurrent/TimeUnit") (G_MS : Fld Z Z.heap w_MS "java/util/concurrent/TimeUnit" "scale" "J" (.long 1000000)) (M_MS : Fld Z Z.heap w_MS "java/util/concurrent/TimeUnit" "maxNanos" "J" (.long 9223372036854)) (S_DR : Sta Z Z.heap "com/example/horkos/horkos/internal/Lease" "DRIFT_FLOOR_NANOS" "J" (.long 2000000)) :
    MetFree l x (head1 (Jvm.Cond.code x code maxLocals ret :: ws) room_1) (fun ar U => ar = #[(.long q0), (.int p0)] ∧ Z.Warmed39 U.vm ∧ U.heap = h0) (fun _ _ _ _ _ => True) (fun _ U oc U' => ∃ v L, oc = .returned v ∧ own_law_Q Z w_MS q0 p0 h0 n0 v U'.heap L ∧ FrameEnd U oc U' L 16 128) := by
  refine MetFree.of_bodySF (plainFor_of_name own_pn3) hisR ?_
  intro p e s m args below meth c s₁ Bd hml0 hP hK
  obtain ⟨rfl, hZ, hh⟩ := hP
  have hx := Bd.exec
  have hby := Bd.bytes
  have hml : c.maxLocals = 6 := hml0
  have hown : s.vm.findClass "com/example/horkos/horkos/internal/LeaseValidityNanosPinLaw" = some m.cls := findClass_of_methodNamed Bd.named
  have hnm := (name_of_methodNamed Bd.named Bd.method).1
  have X0 : Stand p l e room_1 s m #[(.long q0), (.int p0)] below meth c s₁ [] 0 0 := Stand.of_body Bd
  have e0 : s₁.heap = h0 := by rw [← hh, Bd.state]; rfl
  have N0 := Fr.nil n0
  have pre0 : ∀ t, Steps p.tables e below (s₁.setTop (mkF m 0 #[.val (.long q0), .second, iv p0, .unset, .unset, .unset] [])) t → Steps p.tables e below (s₁.setTop (entryFrame m #[(.long q0), (.int p0)] maxLocals)) t := fun t k => castTop (own_law_ef m q0 p0) k
  obtain ⟨_, _, ⟨T1, L1, k1, n1⟩, -, X1, ⟨Lc1, hQ1, l1, y1, z1⟩, st1⟩ := Jvm.LawKit.callS X0 hx (y := (⟨"com/example/horkos/horkos/internal/LeaseValidityNanosPinLaw", "pickMillis", "(JI)J"⟩ : MethodName)) hown (mvT hZ (hw _ (own_m 0 rfl))) (mvT hZ (hw _ (own_m 1 rfl))) (mvT hZ (hw _ (own_m 2 rfl))) (mvT hZ (hw _ (own_m 3 rfl))) (by decide) (backOf (W := 0) (own_pick l Z a0 hw [] w_MS q0 p0 h0 n0 O0 S_MS E_MS G_MS M_MS S_DR ) hZ (hw _ (own_m 3 rfl)) (hw _ (own_m 2 rfl)) (by decide) (by decide)) (g := (mkF m 2 #[.val (.long q0), .second, iv p0, .unset, .unset, .unset] [(.int p0), (.long q0)])) rfl (by rw [hml]; rfl) (argsL := [(.long q0), (.int p0)]) (rest := []) (lenOf own_pd2 rfl) rfl (by show 2 * 0 + _ ≤ _; exact Nat.le_of_eq rfl) (hb hby at_2) (fun _ _ => ⟨rfl, e0, (by decide : 0 + 0 ≤ _), (by decide : 0 + 0 ≤ _)⟩)
  dsimp only [Pt.U, Pt.locs, Pt.cells, Pt.slots] at X1 l1 y1 z1 st1 hQ1
  subst l1 y1 z1
  obtain ⟨m1, rfl, ⟨hm1, hm2⟩, N1q, e1⟩ := hQ1
  have N1 := Fr.app N0 N1q
  by_cases hA : (9223372036854 : Int64) < m1
  · obtain ⟨T2, h2, X2, e2, E2, A2, D2, -, st2⟩ := newO X1 hx hZ hown (hw _ (own_m 5 rfl)) (hw _ (own_m 6 rfl)) (hw _ (own_m 7 rfl)) e1 (g := (mkF m 6 #[.val (.long q0), .second, iv p0, .val (.long m1), .second, .unset] [])) rfl (hb hby at_6) (by decide) (by decide)
    obtain ⟨b2, g2⟩ : ∃ z, z = h0.size := ⟨_, rfl⟩
    rw [← g2] at A2 D2 st2
    have gg_b2 : n0 ≤ b2 := g2 ▸ own_le O0
    have O3 := O0.ext E2
    have F_millis_b2 : Fld Z h2 b2 "com/example/horkos/horkos/internal/Lease" "millis" "J" (.long 0) := D2 (Or.inr (hw _ (own_m 21 rfl))) (ty := .long) (by decide)
    obtain ⟨_, _, ⟨T4, L4, k4, n4⟩, -, X4, ⟨Lc4, hQ4, l4, y4, z4⟩, st4⟩ := X2.specialBack hx (y := (⟨"com/example/horkos/horkos/internal/Lease", "<init>", "(J)V"⟩ : MethodName)) rfl hown (mvT hZ (hw _ (own_m 8 rfl))) (mvT hZ (hw _ (own_m 9 rfl))) (mvT hZ (hw _ (own_m 10 rfl))) (by decide) (backOf (W := 1) (own_mk l Z a0 hw [] w_MS b2 m1 h2 n0 O3 S_MS E_MS G_MS M_MS S_DR gg_b2 A2 F_millis_b2 hm1 hm2) hZ (hw _ (own_m 10 rfl)) (hw _ (own_m 7 rfl)) (by decide) (by decide)) (g := (mkF m 11 #[.val (.long q0), .second, iv p0, .val (.long m1), .second, .unset] [(.long m1), (.ref b2), (.ref b2)])) rfl (by rw [hml]; rfl) (Steps.refl _) (a := b2) (argsL := [(.long m1)]) (rest := [(.ref b2)]) (lenOf own_pd3 rfl) rfl (by show 2 * 0 + _ ≤ _; exact Nat.le_of_eq rfl) (hb hby at_11) (fun _ _ => ⟨rfl, e2, (by decide : 1 + 0 ≤ _), (by decide : 1 + 0 ≤ _)⟩)
    dsimp only [Pt.U, Pt.locs, Pt.cells, Pt.slots] at X4 l4 y4 z4 st4 hQ4
    subst l4 y4 z4
    obtain ⟨rfl, N4q, K4, q5, q6⟩ := hQ4
    have N4 := Fr.app N1 N4q
    have O7 := O3.keep K4 (allS gg_b2 all0)
    obtain ⟨cq8, kq8, q8a, q8b, q8c⟩ := isOf hZ rfl q5
    obtain ⟨_, _, ⟨T8, L8, k8, n8⟩, -, X8, ⟨Lc8, hQ8, l8, y8, z8⟩, st8⟩ := X4.virtualBack hx (y := (⟨"com/example/horkos/horkos/internal/Lease", "validityNanos", "()J"⟩ : MethodName)) (z := (⟨"com/example/horkos/horkos/internal/Lease", "validityNanos", "()J"⟩ : MethodName)) hown (mvT hZ (hw _ (own_m 22 rfl))) (mvT hZ (hw _ (own_m 23 rfl))) (notFace_of_selects (args := #[]) (mvT hZ (hw _ (own_m 25 rfl)))) (mvT hZ (hw _ (own_m 25 rfl))) (mvT hZ (hw _ (own_m 24 rfl))) (by decide) (backOf (W := 0) (own_valB l Z a0 hw [] w_MS b2 m1 T4.heap n0 O7 S_MS E_MS G_MS M_MS S_DR q6 hA) hZ (hw _ (own_m 26 rfl)) (hw _ (own_m 7 rfl)) (by decide) (by decide)) q8a q8c (g := (mkF m 18 #[.val (.long q0), .second, iv p0, .val (.long m1), .second, rv b2] [(.ref b2)])) rfl (by rw [hml]; rfl) (Steps.refl _) (argsL := []) (rest := []) (lenOf own_pd4 rfl) rfl (by show 2 * 0 + _ ≤ _; exact Nat.le_of_eq rfl) (hb hby at_18) (fun _ _ => ⟨rfl, rfl, (by decide : 1 + 0 ≤ _), (by decide : 1 + 0 ≤ _)⟩)
    dsimp only [Pt.U, Pt.locs, Pt.cells, Pt.slots] at X8 l8 y8 z8 st8 hQ8
    subst l8 y8 z8
    obtain ⟨rfl, N8q, e8⟩ := hQ8
    have N8 := Fr.app N4 N8q
    obtain ⟨_, _, ⟨T9, L9, k9, n9⟩, -, X9, ⟨Lc9, hQ9, l9, y9, z9⟩, st9⟩ := Jvm.LawKit.callS X8 hx (y := (⟨"com/example/horkos/horkos/internal/LeaseValidityNanosPinLaw", "expected", "(J)J"⟩ : MethodName)) hown (mvT hZ (hw _ (own_m 41 rfl))) (mvT hZ (hw _ (own_m 42 rfl))) (mvT hZ (hw _ (own_m 2 rfl))) (mvT hZ (hw _ (own_m 43 rfl))) (by decide) (backOf (W := 2) (own_expB l Z a0 hw [] w_MS m1 T4.heap n0 O7 S_MS E_MS G_MS M_MS S_DR hA) hZ (hw _ (own_m 43 rfl)) (hw _ (own_m 2 rfl)) (by decide) (by decide)) (g := (mkF m 22 #[.val (.long q0), .second, iv p0, .val (.long m1), .second, rv b2] [(.long m1), (.long 9131138316484228049)])) rfl (by rw [hml]; rfl) (argsL := [(.long m1)]) (rest := [(.long 9131138316484228049)]) (lenOf own_pd1 rfl) rfl (by show 2 * 0 + _ ≤ _; exact Nat.le_of_eq rfl) (hb hby at_22) (fun _ _ => ⟨rfl, e8, (by decide : 1 + 0 ≤ _), (by decide : 1 + 0 ≤ _)⟩)
    dsimp only [Pt.U, Pt.locs, Pt.cells, Pt.slots] at X9 l9 y9 z9 st9 hQ9
    subst l9 y9 z9
    obtain ⟨rfl, N9q, e9⟩ := hQ9
    have N9 := Fr.app N8 N9q
    obtain ⟨fs, hr, hrun, hended, hW, hsame⟩ := X9.leave (v := some (.int 1)) (fun h => by rw [Bd.returns] at h; cases h)
    refine ⟨_, _, pre0 _ ?_, hrun, hended, _, _, rfl, ?_, ⟨_, rfl⟩, hW, hsame.mono (by decide) (by decide)⟩
    · show Steps p.tables e below (s₁.setTop (mkF m 0 #[.val (.long q0), .second, iv p0, .unset, .unset, .unset] [])) _
      refine XS.lloadN X0.here hx rfl (hb hby at_0) rfl ?_
      show Steps p.tables e below (s₁.setTop (mkF m 1 #[.val (.long q0), .second, iv p0, .unset, .unset, .unset] [(.long q0)])) _
      refine XS.iloadN X0.here hx rfl (hb hby at_1) rfl ?_
      show Steps p.tables e below (s₁.setTop (mkF m 2 #[.val (.long q0), .second, iv p0, .unset, .unset, .unset] [(.int p0), (.long q0)])) _
      refine st1 _ ?_
      show Steps p.tables e below (T1.setTop (mkF m 5 #[.val (.long q0), .second, iv p0, .unset, .unset, .unset] [(.long m1)])) _
      refine XS.lstoreN X1.here hx rfl (hb hby at_5) rfl (l' := #[.val (.long q0), .second, iv p0, .val (.long m1), .second, .unset]) rfl ?_
      show Steps p.tables e below (T1.setTop (mkF m 6 #[.val (.long q0), .second, iv p0, .val (.long m1), .second, .unset] [])) _
      refine st2 _ ?_
      show Steps p.tables e below (T2.setTop (mkF m 9 #[.val (.long q0), .second, iv p0, .val (.long m1), .second, .unset] [(.ref b2)])) _
      refine XS.dup X2.here hx rfl (hb hby at_9) rfl rfl ?_
      show Steps p.tables e below (T2.setTop (mkF m 10 #[.val (.long q0), .second, iv p0, .val (.long m1), .second, .unset] [(.ref b2), (.ref b2)])) _
      refine XS.lloadN X2.here hx rfl (hb hby at_10) rfl ?_
      show Steps p.tables e below (T2.setTop (mkF m 11 #[.val (.long q0), .second, iv p0, .val (.long m1), .second, .unset] [(.long m1), (.ref b2), (.ref b2)])) _
      refine st4.trans ?_
      show Steps p.tables e below (T4.setTop (mkF m 14 #[.val (.long q0), .second, iv p0, .val (.long m1), .second, .unset] [(.ref b2)])) _
      refine XS.astore X4.here hx rfl (hb hby at_14) rfl rfl (l' := #[.val (.long q0), .second, iv p0, .val (.long m1), .second, rv b2]) rfl ?_
      show Steps p.tables e below (T4.setTop (mkF m 16 #[.val (.long q0), .second, iv p0, .val (.long m1), .second, rv b2] [])) _
      refine XS.aload X4.here hx rfl (hb hby at_16) rfl rfl ?_
      show Steps p.tables e below (T4.setTop (mkF m 18 #[.val (.long q0), .second, iv p0, .val (.long m1), .second, rv b2] [(.ref b2)])) _
      refine st8.trans ?_
      show Steps p.tables e below (T8.setTop (mkF m 21 #[.val (.long q0), .second, iv p0, .val (.long m1), .second, rv b2] [(.long 9131138316484228049)])) _
      refine XS.lloadN X8.here hx rfl (hb hby at_21) rfl ?_
      show Steps p.tables e below (T8.setTop (mkF m 22 #[.val (.long q0), .second, iv p0, .val (.long m1), .second, rv b2] [(.long m1), (.long 9131138316484228049)])) _
      refine st9 _ ?_
      show Steps p.tables e below (T9.setTop (mkF m 25 #[.val (.long q0), .second, iv p0, .val (.long m1), .second, rv b2] [(.long 9131138316484228049), (.long 9131138316484228049)])) _
      refine XS.lcmp X9.here hx rfl (hb hby at_25) rfl ?_
      show Steps p.tables e below (T9.setTop (mkF m 26 #[.val (.long q0), .second, iv p0, .val (.long m1), .second, rv b2] [(.int (lcmpW (9131138316484228049 : Int64) (9131138316484228049 : Int64)))])) _
      refine XS.ifNo X9.here hx rfl (hb hby at_26) rfl ((if0 _ _).trans (teq ((lw_eq _ _).mpr (show ((9131138316484228049 : Int64) = (9131138316484228049 : Int64)) from by decide))).2) ?_
      show Steps p.tables e below (T9.setTop (mkF m 29 #[.val (.long q0), .second, iv p0, .val (.long m1), .second, rv b2] [])) _
      refine XS.iconst X9.here hx rfl (hb hby at_29) ?_
      show Steps p.tables e below (T9.setTop (mkF m 30 #[.val (.long q0), .second, iv p0, .val (.long m1), .second, rv b2] [(.int 1)])) _
      refine XS.goto X9.here hx rfl (pc0 := 30) (pc' := 34) rfl (hb hby at_30) (by decide) (by decide) ?_
      show Steps p.tables e below (T9.setTop (mkF m 34 #[.val (.long q0), .second, iv p0, .val (.long m1), .second, rv b2] [(.int 1)])) _
      exact retN X9 hx (t := .boolean) Bd.returns (by simp) (hb hby at_34) hr
    · show own_law_Q Z w_MS q0 p0 h0 n0 _ T9.heap _
      rw [e9]
      exact ⟨rfl, N9⟩
  · obtain ⟨T10, h10, X10, e10, E10, A10, D10, -, st10⟩ := newO X1 hx hZ hown (hw _ (own_m 5 rfl)) (hw _ (own_m 6 rfl)) (hw _ (own_m 7 rfl)) e1 (g := (mkF m 6 #[.val (.long q0), .second, iv p0, .val (.long m1), .second, .unset] [])) rfl (hb hby at_6) (by decide) (by decide)
    obtain ⟨b10, g10⟩ : ∃ z, z = h0.size := ⟨_, rfl⟩
    rw [← g10] at A10 D10 st10
    have gg_b10 : n0 ≤ b10 := g10 ▸ own_le O0
    have O11 := O0.ext E10
    have F_millis_b10 : Fld Z h10 b10 "com/example/horkos/horkos/internal/Lease" "millis" "J" (.long 0) := D10 (Or.inr (hw _ (own_m 21 rfl))) (ty := .long) (by decide)
    obtain ⟨_, _, ⟨T12, L12, k12, n12⟩, -, X12, ⟨Lc12, hQ12, l12, y12, z12⟩, st12⟩ := X10.specialBack hx (y := (⟨"com/example/horkos/horkos/internal/Lease", "<init>", "(J)V"⟩ : MethodName)) rfl hown (mvT hZ (hw _ (own_m 8 rfl))) (mvT hZ (hw _ (own_m 9 rfl))) (mvT hZ (hw _ (own_m 10 rfl))) (by decide) (backOf (W := 1) (own_mk l Z a0 hw [] w_MS b10 m1 h10 n0 O11 S_MS E_MS G_MS M_MS S_DR gg_b10 A10 F_millis_b10 hm1 hm2) hZ (hw _ (own_m 10 rfl)) (hw _ (own_m 7 rfl)) (by decide) (by decide)) (g := (mkF m 11 #[.val (.long q0), .second, iv p0, .val (.long m1), .second, .unset] [(.long m1), (.ref b10), (.ref b10)])) rfl (by rw [hml]; rfl) (Steps.refl _) (a := b10) (argsL := [(.long m1)]) (rest := [(.ref b10)]) (lenOf own_pd3 rfl) rfl (by show 2 * 0 + _ ≤ _; exact Nat.le_of_eq rfl) (hb hby at_11) (fun _ _ => ⟨rfl, e10, (by decide : 1 + 0 ≤ _), (by decide : 1 + 0 ≤ _)⟩)
    dsimp only [Pt.U, Pt.locs, Pt.cells, Pt.slots] at X12 l12 y12 z12 st12 hQ12
    subst l12 y12 z12
    obtain ⟨rfl, N12q, K12, q13, q14⟩ := hQ12
    have N12 := Fr.app N1 N12q
    have O15 := O11.keep K12 (allS gg_b10 all0)
    obtain ⟨cq16, kq16, q16a, q16b, q16c⟩ := isOf hZ rfl q13
    obtain ⟨_, _, ⟨T16, L16, k16, n16⟩, -, X16, ⟨Lc16, hQ16, l16, y16, z16⟩, st16⟩ := X12.virtualBack hx (y := (⟨"com/example/horkos/horkos/internal/Lease", "validityNanos", "()J"⟩ : MethodName)) (z := (⟨"com/example/horkos/horkos/internal/Lease", "validityNanos", "()J"⟩ : MethodName)) hown (mvT hZ (hw _ (own_m 22 rfl))) (mvT hZ (hw _ (own_m 23 rfl))) (notFace_of_selects (args := #[]) (mvT hZ (hw _ (own_m 25 rfl)))) (mvT hZ (hw _ (own_m 25 rfl))) (mvT hZ (hw _ (own_m 24 rfl))) (by decide) (backOf (W := 0) (own_valA l Z a0 hw [] w_MS b10 m1 T12.heap n0 O15 S_MS E_MS G_MS M_MS S_DR q14 hm1 hA) hZ (hw _ (own_m 26 rfl)) (hw _ (own_m 7 rfl)) (by decide) (by decide)) q16a q16c (g := (mkF m 18 #[.val (.long q0), .second, iv p0, .val (.long m1), .second, rv b10] [(.ref b10)])) rfl (by rw [hml]; rfl) (Steps.refl _) (argsL := []) (rest := []) (lenOf own_pd4 rfl) rfl (by show 2 * 0 + _ ≤ _; exact Nat.le_of_eq rfl) (hb hby at_18) (fun _ _ => ⟨rfl, rfl, (by decide : 1 + 0 ≤ _), (by decide : 1 + 0 ≤ _)⟩)
    dsimp only [Pt.U, Pt.locs, Pt.cells, Pt.slots] at X16 l16 y16 z16 st16 hQ16
    subst l16 y16 z16
    obtain ⟨rfl, N16q, e16⟩ := hQ16
    have N16 := Fr.app N12 N16q
    obtain ⟨_, _, ⟨T17, L17, k17, n17⟩, -, X17, ⟨Lc17, hQ17, l17, y17, z17⟩, st17⟩ := Jvm.LawKit.callS X16 hx (y := (⟨"com/example/horkos/horkos/internal/LeaseValidityNanosPinLaw", "expected", "(J)J"⟩ : MethodName)) hown (mvT hZ (hw _ (own_m 41 rfl))) (mvT hZ (hw _ (own_m 42 rfl))) (mvT hZ (hw _ (own_m 2 rfl))) (mvT hZ (hw _ (own_m 43 rfl))) (by decide) (backOf (W := 2) (own_expA l Z a0 hw [] w_MS m1 T12.heap n0 O15 S_MS E_MS G_MS M_MS S_DR hm1 hA) hZ (hw _ (own_m 43 rfl)) (hw _ (own_m 2 rfl)) (by decide) (by decide)) (g := (mkF m 22 #[.val (.long q0), .second, iv p0, .val (.long m1), .second, rv b10] [(.long m1), (.long ((m1 * (1000000 : Int64)) - (((m1 * (1000000 : Int64)) / (100 : Int64)) + (2000000 : Int64))))])) rfl (by rw [hml]; rfl) (argsL := [(.long m1)]) (rest := [(.long ((m1 * (1000000 : Int64)) - (((m1 * (1000000 : Int64)) / (100 : Int64)) + (2000000 : Int64))))]) (lenOf own_pd1 rfl) rfl (by show 2 * 0 + _ ≤ _; exact Nat.le_of_eq rfl) (hb hby at_22) (fun _ _ => ⟨rfl, e16, (by decide : 1 + 0 ≤ _), (by decide : 1 + 0 ≤ _)⟩)
    dsimp only [Pt.U, Pt.locs, Pt.cells, Pt.slots] at X17 l17 y17 z17 st17 hQ17
    subst l17 y17 z17
    obtain ⟨rfl, N17q, e17⟩ := hQ17
    have N17 := Fr.app N16 N17q
    obtain ⟨fs, hr, hrun, hended, hW, hsame⟩ := X17.leave (v := some (.int 1)) (fun h => by rw [Bd.returns] at h; cases h)
    refine ⟨_, _, pre0 _ ?_, hrun, hended, _, _, rfl, ?_, ⟨_, rfl⟩, hW, hsame.mono (by decide) (by decide)⟩
    · show Steps p.tables e below (s₁.setTop (mkF m 0 #[.val (.long q0), .second, iv p0, .unset, .unset, .unset] [])) _
      refine XS.lloadN X0.here hx rfl (hb hby at_0) rfl ?_
      show Steps p.tables e below (s₁.setTop (mkF m 1 #[.val (.long q0), .second, iv p0, .unset, .unset, .unset] [(.long q0)])) _
      refine XS.iloadN X0.here hx rfl (hb hby at_1) rfl ?_
      show Steps p.tables e below (s₁.setTop (mkF m 2 #[.val (.long q0), .second, iv p0, .unset, .unset, .unset] [(.int p0), (.long q0)])) _
      refine st1 _ ?_
      show Steps p.tables e below (T1.setTop (mkF m 5 #[.val (.long q0), .second, iv p0, .unset, .unset, .unset] [(.long m1)])) _
      refine XS.lstoreN X1.here hx rfl (hb hby at_5) rfl (l' := #[.val (.long q0), .second, iv p0, .val (.long m1), .second, .unset]) rfl ?_
      show Steps p.tables e below (T1.setTop (mkF m 6 #[.val (.long q0), .second, iv p0, .val (.long m1), .second, .unset] [])) _
      refine st10 _ ?_
      show Steps p.tables e below (T10.setTop (mkF m 9 #[.val (.long q0), .second, iv p0, .val (.long m1), .second, .unset] [(.ref b10)])) _
      refine XS.dup X10.here hx rfl (hb hby at_9) rfl rfl ?_
      show Steps p.tables e below (T10.setTop (mkF m 10 #[.val (.long q0), .second, iv p0, .val (.long m1), .second, .unset] [(.ref b10), (.ref b10)])) _
      refine XS.lloadN X10.here hx rfl (hb hby at_10) rfl ?_
      show Steps p.tables e below (T10.setTop (mkF m 11 #[.val (.long q0), .second, iv p0, .val (.long m1), .second, .unset] [(.long m1), (.ref b10), (.ref b10)])) _
      refine st12.trans ?_
      show Steps p.tables e below (T12.setTop (mkF m 14 #[.val (.long q0), .second, iv p0, .val (.long m1), .second, .unset] [(.ref b10)])) _
      refine XS.astore X12.here hx rfl (hb hby at_14) rfl rfl (l' := #[.val (.long q0), .second, iv p0, .val (.long m1), .second, rv b10]) rfl ?_
      show Steps p.tables e below (T12.setTop (mkF m 16 #[.val (.long q0), .second, iv p0, .val (.long m1), .second, rv b10] [])) _
      refine XS.aload X12.here hx rfl (hb hby at_16) rfl rfl ?_
      show Steps p.tables e below (T12.setTop (mkF m 18 #[.val (.long q0), .second, iv p0, .val (.long m1), .second, rv b10] [(.ref b10)])) _
      refine st16.trans ?_
      show Steps p.tables e below (T16.setTop (mkF m 21 #[.val (.long q0), .second, iv p0, .val (.long m1), .second, rv b10] [(.long ((m1 * (1000000 : Int64)) - (((m1 * (1000000 : Int64)) / (100 : Int64)) + (2000000 : Int64))))])) _
      refine XS.lloadN X16.here hx rfl (hb hby at_21) rfl ?_
      show Steps p.tables e below (T16.setTop (mkF m 22 #[.val (.long q0), .second, iv p0, .val (.long m1), .second, rv b10] [(.long m1), (.long ((m1 * (1000000 : Int64)) - (((m1 * (1000000 : Int64)) / (100 : Int64)) + (2000000 : Int64))))])) _
      refine st17 _ ?_
      show Steps p.tables e below (T17.setTop (mkF m 25 #[.val (.long q0), .second, iv p0, .val (.long m1), .second, rv b10] [(.long ((m1 * (990000 : Int64)) - (2000000 : Int64))), (.long ((m1 * (1000000 : Int64)) - (((m1 * (1000000 : Int64)) / (100 : Int64)) + (2000000 : Int64))))])) _
      refine XS.lcmp X17.here hx rfl (hb hby at_25) rfl ?_
      show Steps p.tables e below (T17.setTop (mkF m 26 #[.val (.long q0), .second, iv p0, .val (.long m1), .second, rv b10] [(.int (lcmpW ((m1 * (1000000 : Int64)) - (((m1 * (1000000 : Int64)) / (100 : Int64)) + (2000000 : Int64))) ((m1 * (990000 : Int64)) - (2000000 : Int64))))])) _
      refine XS.ifNo X17.here hx rfl (hb hby at_26) rfl ((if0 _ _).trans (teq ((lw_eq _ _).mpr (own_same hm1 hA))).2) ?_
      show Steps p.tables e below (T17.setTop (mkF m 29 #[.val (.long q0), .second, iv p0, .val (.long m1), .second, rv b10] [])) _
      refine XS.iconst X17.here hx rfl (hb hby at_29) ?_
      show Steps p.tables e below (T17.setTop (mkF m 30 #[.val (.long q0), .second, iv p0, .val (.long m1), .second, rv b10] [(.int 1)])) _
      refine XS.goto X17.here hx rfl (pc0 := 30) (pc' := 34) rfl (hb hby at_30) (by decide) (by decide) ?_
      show Steps p.tables e below (T17.setTop (mkF m 34 #[.val (.long q0), .second, iv p0, .val (.long m1), .second, rv b10] [(.int 1)])) _
      exact retN X17 hx (t := .boolean) Bd.returns (by simp) (hb hby at_34) hr
    · show own_law_Q Z w_MS q0 p0 h0 n0 _ T17.heap _
      rw [e17]
      exact ⟨rfl, N17⟩
set_option maxRecDepth 65536 in
set_option maxHeartbeats 40000000 in
theorem comes_1 {Post : Tables → Env → Array Value → State → Outcome → State → Prop} (hpost : ∀ tb e args s v u, (limb_1_1.after args s (.returned v) u = true ∧ limb_1_2.after args s (.returned v) u = true ∧ True) → FrameEnd s (.returned v) u (Jvm.fieldLocs frame_1_writes args s ++ Jvm.arrayLocs frame_1_arrays args s ++ Jvm.staticLocs frame_1_statics s) 16 128 → Post tb e args s (.returned v) u) :
    ArmFor flags0 classFile x code maxLocals ret World_1 tables_1 room_1 Calls_1 rest_1 Pre_1 Post := by
  intro l hfl _ _ p e ha hc hk s m args below hf hA hF happ hP
  obtain ⟨hcalls, hrest, hpre⟩ := hP
  obtain ⟨-, -, -, hnamed, -, -, -, hat⟩ := (Spec.applies_iff hf).mp happ
  obtain ⟨hg, hn⟩ := and_e (Cond.before_iff.mp (show (Jvm.Cond.and given_1 narrow_1).before args s = true from hpre))
  obtain ⟨hq1, hq2⟩ := and_e hg
  obtain ⟨hq3, hq4⟩ := and_e hq2
  obtain ⟨w0, w1, rfl⟩ : ∃ w0 w1 : Value, args = #[w0, w1] := by
    have hs : args.size = 2 := by simpa [Cond.value, given_1] using hq1
    obtain ⟨L⟩ := args
    match L, hs with
    | [w0, w1], _ => exact ⟨w0, w1, rfl⟩
  have hw := fun d (hd : d ∈ tables_1) => atoms_spec (ws := Jvm.Cond.code x code maxLocals ret :: tables_1) hat d (List.mem_cons_of_mem _ hd)
  have hfit : Fit s := fun {y c} hc i hi => by
    obtain ⟨ha, rfl⟩ := Array.getElem?_eq_some_iff.mp hc
    have q := List.all_eq_true.mp ((Array.all_eq_true_iff_forall_mem.mp hF) _ (Array.getElem_mem ha)) i (List.mem_range.mpr hi)
    simpa [Array.getElem?_eq_getElem hi] using q
  obtain ⟨hsets, hown0⟩ := atoms_of _ (rest_1_c_eq ▸ (show rest_1_c.before _ s = true from hrest))
  obtain ⟨i0, ei0⟩ := isL_v hq3
  obtain rfl : w0 = (.long i0) := Option.some.inj ei0
  obtain ⟨i1, ei1⟩ := is_v hq4
  obtain rfl : w1 = (.int i1) := Option.some.inj ei1
  have S_DR : Sta s s.heap "com/example/horkos/horkos/internal/Lease" "DRIFT_FLOOR_NANOS" "J" (.long (2000000 : Int64)) := Sta.start (own_eqJ hn) (Or.inr ⟨(hw _ (own_m 7 rfl)), (hw _ (own_m 40 rfl))⟩)
  obtain ⟨w_MS, ev_MS⟩ := exa_v (Cond.before_iff.mp (hsets _ (own_m 2 rfl)))
  have S_MS : Sta s s.heap "java/util/concurrent/TimeUnit" "MILLISECONDS" "Ljava/util/concurrent/TimeUnit;" (.ref w_MS) := Sta.start ev_MS (Or.inl (hsets _ (own_m 1 rfl)))
  have E_MS : Exa s s.heap w_MS "java/util/concurrent/TimeUnit" := Exa.start ev_MS (Cond.before_iff.mp (hsets _ (own_m 2 rfl)))
  have G_MS : Fld s s.heap w_MS "java/util/concurrent/TimeUnit" "scale" "J" (.long (1000000 : Int64)) := Fld.start ((fld_at ev_MS).symm.trans (own_eqJ (Cond.before_iff.mp (hsets _ (own_m 5 rfl)))))
  have M_MS : Fld s s.heap w_MS "java/util/concurrent/TimeUnit" "maxNanos" "J" (.long (9223372036854 : Int64)) := Fld.start ((fld_at ev_MS).symm.trans (own_eqJ (Cond.before_iff.mp (hsets _ (own_m 6 rfl)))))
  obtain ⟨n, o, h1, h2, h3, _, L, rfl, ⟨rfl, N⟩, hq⟩ := own_law l s _ hw tables_1 w_MS i0 i1 s.heap s.heap.size (Old.start s) S_MS E_MS G_MS M_MS S_DR p e ha hc hk s m _ below hf ((Spec.applies_iff_loose hf).mp happ).1 ⟨rfl, State.Warmed39.refl s, rfl⟩ trivial
  refine ⟨n, _, h1, h2, h3, hpost _ _ _ _ _ _ ⟨Cond.after_iff.mpr rfl, Cond.after_iff.mpr (eq_i res_at (Term.int_eval (1)) rfl), trivial⟩ ⟨hq.1, hq.2.1, (hq.2.2.sift fun y hy => Or.inr (N y hy)).mono (by decide) (by decide)⟩⟩
theorem main_1_1 : Claimed_1_1 := comes_1 fun _ _ _ _ _ _ h hF => ⟨h.1, hF⟩
theorem main_1_2 : Claimed_1_2 := comes_1 fun _ _ _ _ _ _ h hF => ⟨h.2.1, hF⟩
end Jvm.Pilot.@@N@@
namespace Jvm.Pilot.@@N@@
open Jvm Jvm.ClassFile Sem Op Lib Jvm.Free Jvm.Stand Jvm.Pilot.@@N@@.Jvm.D
/-! MADE BY PROGRAM (witnessworld.py) out of the Statement's table words and the real class files: 15 classes; the members and pool entries that the words name. The judged class is class 1, her method 3. -/
namespace start1
open Jvm.ClassFile
def u (s : String) : CpInfo := .utf8 (stringToUtf16 s)
/-- a pool by its gaps: so many unusable entries, then the entry; so many at the end -/
def gap : Nat → List CpInfo → List CpInfo
  | 0, r => r
  | n + 1, r => .unusable :: gap n r
def poolList (es : List (Nat × CpInfo)) (last : Nat) : List CpInfo := es.foldr (fun e r => gap e.1 (e.2 :: r)) (gap last [])
def pool (es : List (Nat × CpInfo)) (last : Nat) : Array CpInfo := ⟨poolList es last⟩
def fileOf (pool : Array CpInfo) (this : Nat) (attrs : Array Attribute := #[]) (ms : Array MethodInfo := #[]) (fl : Nat := 33) (sup : Nat := 0) (ifs : Array Nat := #[]) (fds : Array FieldInfo := #[]) : ClassFile where
  minorVersion := 0
  majorVersion := 65
  constantPool := pool
  accessFlags := fl
  thisClass := this
  superClass := sup
  interfaces := ifs
  fields := fds
  methods := ms
  attributes := attrs
def plain (name : String) (sup : Option ClassId) : Class where
  name := name
  kind := .ordinary
  loader := none
  accessFlags := 33
  super := sup
  interfaces := #[]
  cf := none
  fields := #[]
  methods := #[]
  instanceTypes := #[]
  staticTypes := #[]
  resolved := #[]
  callSites := []
  init := .initialized
  statics := none
  mirror := none

def pool0 : Array CpInfo := pool [(5, u "<init>"), (0, u "()V"), (1, .class_ 10), (1, u "java/lang/Object")] 113

def k0c0 : Code := { maxStack := 0, maxLocals := 1, code := object_method_1_code, exceptionTable := #[], attributes := #[] }
def k0m0 : Method := { name := "<init>", desc := "()V", sig := { parameters := [], returnType := none }, accessFlags := 1, code := some k0c0 }
/-- java/lang/Object -/
def k0 : Class := { plain "java/lang/Object" none with
  accessFlags := 33
  interfaces := #[]
  cf := some (fileOf pool0 8 #[] #[{ accessFlags := 1, nameIndex := 5, descriptorIndex := 6, attributes := #[] }] 33 0 #[] #[])
  fields := #[]
  methods := #[k0m0]
  instanceTypes := #[]
  staticTypes := #[]
  resolved := Array.replicate 124 none
  statics := none }

def pool1 : Array CpInfo := pool [(2, .class_ 4), (1, u "java/lang/Object"), (0, u "<init>"), (0, u "()V"), (2, .long 9223372036854775807), (1, .long 4611686018427387904), (1, .class_ 14), (0, u "com/example/horkos/horkos/internal/LeaseValidityNanosPinLaw"), (0, .long 9223372036854), (1, .long 8), (1, .long 65535), (1, .long 990000), (1, .long 2000000), (1, .long 9131138316484228049), (1, .methodref 13 28), (0, .nameAndType 29 30), (0, u "pickMillis"), (0, u "(JI)J"), (0, .class_ 32), (0, u "com/example/horkos/horkos/internal/Lease"), (0, .methodref 31 34), (0, .nameAndType 5 35), (0, u "(J)V"), (0, .methodref 31 37), (0, .nameAndType 38 39), (0, u "validityNanos"), (0, u "()J"), (0, .methodref 13 41), (0, .nameAndType 42 43), (0, u "expected"), (0, u "(J)J"), (0, u "LAST_EXACT"), (0, u "J"), (4, u "law"), (0, u "(JI)Z")] 2

def k1m0 : Method := { name := "<init>", desc := "()V", sig := { parameters := [], returnType := none }, accessFlags := 1, code := none }
def k1c1 : Code := { maxStack := 6, maxLocals := 4, code := method_2_code, exceptionTable := #[], attributes := #[] }
def k1m1 : Method := { name := "pickMillis", desc := "(JI)J", sig := { parameters := [.long, .int], returnType := some .long }, accessFlags := 10, code := some k1c1 }
def k1c2 : Code := { maxStack := 4, maxLocals := 2, code := method_3_code, exceptionTable := #[], attributes := #[] }
def k1m2 : Method := { name := "expected", desc := "(J)J", sig := { parameters := [.long], returnType := some .long }, accessFlags := 10, code := some k1c2 }
def k1c3 : Code := { maxStack := 4, maxLocals := 6, code := code, exceptionTable := #[], attributes := #[] }
def k1m3 : Method := { name := "law", desc := "(JI)Z", sig := { parameters := [.long, .int], returnType := some .boolean }, accessFlags := 9, code := some k1c3 }
/-- com/example/horkos/horkos/internal/LeaseValidityNanosPinLaw -/
def k1 : Class := { plain "com/example/horkos/horkos/internal/LeaseValidityNanosPinLaw" (some 0) with
  accessFlags := 49
  interfaces := #[]
  cf := some (fileOf pool1 13 #[] #[{ accessFlags := 1, nameIndex := 5, descriptorIndex := 6, attributes := #[] }, { accessFlags := 10, nameIndex := 29, descriptorIndex := 30, attributes := #[] }, { accessFlags := 10, nameIndex := 42, descriptorIndex := 43, attributes := #[] }, { accessFlags := 9, nameIndex := 50, descriptorIndex := 51, attributes := #[] }] 49 2 #[] #[{ accessFlags := 26, nameIndex := 44, descriptorIndex := 45, attributes := #[] }])
  fields := #[{ name := "LAST_EXACT", type := .long, accessFlags := 26, slot := 0, constantValue := 0 }]
  methods := #[k1m0, k1m1, k1m2, k1m3]
  instanceTypes := #[]
  staticTypes := #[.long]
  resolved := Array.replicate 54 none
  statics := none }

def pool2 : Array CpInfo := pool [(1, .methodref 2 3), (0, .class_ 4), (0, .nameAndType 5 6), (0, u "java/lang/Object"), (0, u "<init>"), (0, u "()V"), (0, .class_ 8), (0, u "java/lang/Record")] 13

def k2c0 : Code := { maxStack := 1, maxLocals := 1, code := jdk_30_method_1_code, exceptionTable := #[], attributes := #[] }
def k2m0 : Method := { name := "<init>", desc := "()V", sig := { parameters := [], returnType := none }, accessFlags := 4, code := some k2c0 }
/-- java/lang/Record -/
def k2 : Class := { plain "java/lang/Record" (some 0) with
  accessFlags := 1057
  interfaces := #[]
  cf := some (fileOf pool2 7 #[] #[{ accessFlags := 4, nameIndex := 5, descriptorIndex := 6, attributes := #[] }] 1057 2 #[] #[])
  fields := #[]
  methods := #[k2m0]
  instanceTypes := #[]
  staticTypes := #[]
  resolved := Array.replicate 22 none
  statics := none }

def pool3 : Array CpInfo := pool [(1, .methodref 2 3), (0, .class_ 4), (0, .nameAndType 5 6), (0, u "java/lang/Record"), (0, u "<init>"), (0, u "()V"), (0, .class_ 8), (0, u "com/example/horkos/horkos/internal/Lease"), (0, .long 4611686018427387904), (9, .fieldref 7 20), (0, .nameAndType 21 22), (0, u "millis"), (0, u "J"), (25, u "()J"), (2, u "(J)V"), (0, .fieldref 53 54), (0, .class_ 55), (0, .nameAndType 56 57), (0, u "java/util/concurrent/TimeUnit"), (0, u "MILLISECONDS"), (0, u "Ljava/util/concurrent/TimeUnit;"), (0, .methodref 53 59), (0, .nameAndType 60 61), (0, u "toNanos"), (0, u "(J)J"), (2, .long 100), (1, .fieldref 7 67), (0, .nameAndType 68 22), (0, u "DRIFT_FLOOR_NANOS"), (21, u "MAX_MILLIS"), (8, u "validityNanos")] 32

def k3c0 : Code := { maxStack := 4, maxLocals := 3, code := prog_5_method_1_code, exceptionTable := #[], attributes := #[] }
def k3m0 : Method := { name := "<init>", desc := "(J)V", sig := { parameters := [.long], returnType := none }, accessFlags := 1, code := some k3c0 }
def k3c1 : Code := { maxStack := 4, maxLocals := 5, code := prog_5_method_4_code, exceptionTable := #[], attributes := #[] }
def k3m1 : Method := { name := "validityNanos", desc := "()J", sig := { parameters := [], returnType := some .long }, accessFlags := 1, code := some k3c1 }
/-- com/example/horkos/horkos/internal/Lease -/
def k3 : Class := { plain "com/example/horkos/horkos/internal/Lease" (some 2) with
  accessFlags := 49
  interfaces := #[]
  cf := some (fileOf pool3 7 #[] #[{ accessFlags := 1, nameIndex := 5, descriptorIndex := 51, attributes := #[] }, { accessFlags := 1, nameIndex := 99, descriptorIndex := 48, attributes := #[] }] 49 2 #[] #[{ accessFlags := 18, nameIndex := 21, descriptorIndex := 22, attributes := #[] }, { accessFlags := 26, nameIndex := 90, descriptorIndex := 22, attributes := #[] }, { accessFlags := 26, nameIndex := 68, descriptorIndex := 22, attributes := #[] }])
  fields := #[{ name := "millis", type := .long, accessFlags := 18, slot := 0, constantValue := 0 }, { name := "MAX_MILLIS", type := .long, accessFlags := 26, slot := 0, constantValue := 0 }, { name := "DRIFT_FLOOR_NANOS", type := .long, accessFlags := 26, slot := 1, constantValue := 0 }]
  methods := #[k3m0, k3m1]
  instanceTypes := #[.long]
  staticTypes := #[.long, .long]
  resolved := Array.replicate 132 none
  statics := some 0 }

def pool4 : Array CpInfo := pool [(1, .class_ 2), (0, u "java/lang/constant/Constable"), (0, .class_ 4), (0, u "java/lang/Object")] 6

/-- java/lang/constant/Constable -/
def k4 : Class := { plain "java/lang/constant/Constable" (some 0) with
  accessFlags := 1537
  interfaces := #[]
  cf := some (fileOf pool4 1 #[] #[] 1537 3 #[] #[])
  fields := #[]
  methods := #[]
  instanceTypes := #[]
  staticTypes := #[]
  resolved := Array.replicate 11 none
  statics := none }

def pool5 : Array CpInfo := pool [(1, .class_ 2), (0, u "java/lang/Comparable"), (0, .class_ 4), (0, u "java/lang/Object")] 7

/-- java/lang/Comparable -/
def k5 : Class := { plain "java/lang/Comparable" (some 0) with
  accessFlags := 1537
  interfaces := #[]
  cf := some (fileOf pool5 1 #[] #[] 1537 3 #[] #[])
  fields := #[]
  methods := #[]
  instanceTypes := #[]
  staticTypes := #[]
  resolved := Array.replicate 12 none
  statics := none }

def pool6 : Array CpInfo := pool [(1, .class_ 2), (0, u "java/io/Serializable"), (0, .class_ 4), (0, u "java/lang/Object")] 2

/-- java/io/Serializable -/
def k6 : Class := { plain "java/io/Serializable" (some 0) with
  accessFlags := 1537
  interfaces := #[]
  cf := some (fileOf pool6 1 #[] #[] 1537 3 #[] #[])
  fields := #[]
  methods := #[]
  instanceTypes := #[]
  staticTypes := #[]
  resolved := Array.replicate 7 none
  statics := none }

def pool7 : Array CpInfo := pool [(2, .class_ 4), (1, u "java/lang/Enum"), (0, u "name"), (0, u "Ljava/lang/String;"), (2, u "ordinal"), (0, u "I"), (1, .class_ 14), (1, u "java/lang/Object"), (4, u "hash"), (86, .class_ 108), (1, u "java/lang/Enum$EnumDesc"), (2, .class_ 112), (0, u "java/lang/constant/Constable"), (0, .class_ 114), (0, u "java/lang/Comparable"), (0, .class_ 116), (0, u "java/io/Serializable")] 87

/-- java/lang/Enum -/
def k7 : Class := { plain "java/lang/Enum" (some 0) with
  accessFlags := 1057
  interfaces := #[4, 5, 6]
  cf := some (fileOf pool7 2 #[.nestMembers #[106]] #[] 1057 12 #[111, 113, 115] #[{ accessFlags := 18, nameIndex := 5, descriptorIndex := 6, attributes := #[] }, { accessFlags := 18, nameIndex := 9, descriptorIndex := 10, attributes := #[] }, { accessFlags := 2, nameIndex := 19, descriptorIndex := 10, attributes := #[] }])
  fields := #[{ name := "name", type := (.object "java/lang/String"), accessFlags := 18, slot := 0, constantValue := 0 }, { name := "ordinal", type := .int, accessFlags := 18, slot := 1, constantValue := 0 }, { name := "hash", type := .int, accessFlags := 2, slot := 2, constantValue := 0 }]
  methods := #[]
  instanceTypes := #[(.object "java/lang/String"), .int, .int]
  staticTypes := #[]
  resolved := Array.replicate 204 none
  statics := none }

def pool8 : Array CpInfo := pool [(1, .class_ 2), (0, u "java/util/concurrent/TimeUnit"), (2, u "NANOSECONDS"), (0, u "Ljava/util/concurrent/TimeUnit;"), (2, u "MICROSECONDS"), (2, u "MILLISECONDS"), (2, u "SECONDS"), (2, u "MINUTES"), (2, u "HOURS"), (2, u "DAYS"), (2, u "$VALUES"), (0, u "[Ljava/util/concurrent/TimeUnit;"), (6, .class_ 37), (1, u "java/lang/Enum"), (6, .fieldref 1 45), (0, .nameAndType 46 47), (0, u "scale"), (0, u "J"), (2, .long 9223372036854775807), (1, .fieldref 1 53), (0, .nameAndType 54 47), (0, u "maxNanos"), (4, u "microRatio"), (2, u "maxMicros"), (4, u "milliRatio"), (0, u "I"), (2, u "maxMillis"), (4, u "secRatio"), (2, u "maxSecs"), (8, u "toNanos"), (0, u "(J)J"), (73, .class_ 165), (1, u "java/util/concurrent/TimeUnit$1"), (46, u "NANO_SCALE"), (3, u "MICRO_SCALE"), (0, u "MILLI_SCALE"), (0, u "SECOND_SCALE"), (0, u "MINUTE_SCALE"), (0, u "HOUR_SCALE"), (0, u "DAY_SCALE")] 61

def k8c0 : Code := { maxStack := 6, maxLocals := 7, code := jdk_2799_method_7_code, exceptionTable := #[], attributes := #[] }
def k8m0 : Method := { name := "toNanos", desc := "(J)J", sig := { parameters := [.long], returnType := some .long }, accessFlags := 1, code := some k8c0 }
/-- java/util/concurrent/TimeUnit -/
def k8 : Class := { plain "java/util/concurrent/TimeUnit" (some 7) with
  accessFlags := 16433
  interfaces := #[]
  cf := some (fileOf pool8 1 #[.nestMembers #[163]] #[{ accessFlags := 1, nameIndex := 88, descriptorIndex := 89, attributes := #[] }] 16433 35 #[] #[{ accessFlags := 16409, nameIndex := 5, descriptorIndex := 6, attributes := #[] }, { accessFlags := 16409, nameIndex := 9, descriptorIndex := 6, attributes := #[] }, { accessFlags := 16409, nameIndex := 12, descriptorIndex := 6, attributes := #[] }, { accessFlags := 16409, nameIndex := 15, descriptorIndex := 6, attributes := #[] }, { accessFlags := 16409, nameIndex := 18, descriptorIndex := 6, attributes := #[] }, { accessFlags := 16409, nameIndex := 21, descriptorIndex := 6, attributes := #[] }, { accessFlags := 16409, nameIndex := 24, descriptorIndex := 6, attributes := #[] }, { accessFlags := 26, nameIndex := 212, descriptorIndex := 47, attributes := #[] }, { accessFlags := 26, nameIndex := 216, descriptorIndex := 47, attributes := #[] }, { accessFlags := 26, nameIndex := 217, descriptorIndex := 47, attributes := #[] }, { accessFlags := 26, nameIndex := 218, descriptorIndex := 47, attributes := #[] }, { accessFlags := 26, nameIndex := 219, descriptorIndex := 47, attributes := #[] }, { accessFlags := 26, nameIndex := 220, descriptorIndex := 47, attributes := #[] }, { accessFlags := 26, nameIndex := 221, descriptorIndex := 47, attributes := #[] }, { accessFlags := 18, nameIndex := 46, descriptorIndex := 47, attributes := #[] }, { accessFlags := 18, nameIndex := 54, descriptorIndex := 47, attributes := #[] }, { accessFlags := 18, nameIndex := 62, descriptorIndex := 47, attributes := #[] }, { accessFlags := 18, nameIndex := 71, descriptorIndex := 47, attributes := #[] }, { accessFlags := 18, nameIndex := 79, descriptorIndex := 47, attributes := #[] }, { accessFlags := 18, nameIndex := 59, descriptorIndex := 47, attributes := #[] }, { accessFlags := 18, nameIndex := 67, descriptorIndex := 68, attributes := #[] }, { accessFlags := 18, nameIndex := 76, descriptorIndex := 68, attributes := #[] }, { accessFlags := 4122, nameIndex := 27, descriptorIndex := 28, attributes := #[] }])
  fields := #[{ name := "NANOSECONDS", type := (.object "java/util/concurrent/TimeUnit"), accessFlags := 16409, slot := 0, constantValue := 0 }, { name := "MICROSECONDS", type := (.object "java/util/concurrent/TimeUnit"), accessFlags := 16409, slot := 1, constantValue := 0 }, { name := "MILLISECONDS", type := (.object "java/util/concurrent/TimeUnit"), accessFlags := 16409, slot := 2, constantValue := 0 }, { name := "SECONDS", type := (.object "java/util/concurrent/TimeUnit"), accessFlags := 16409, slot := 3, constantValue := 0 }, { name := "MINUTES", type := (.object "java/util/concurrent/TimeUnit"), accessFlags := 16409, slot := 4, constantValue := 0 }, { name := "HOURS", type := (.object "java/util/concurrent/TimeUnit"), accessFlags := 16409, slot := 5, constantValue := 0 }, { name := "DAYS", type := (.object "java/util/concurrent/TimeUnit"), accessFlags := 16409, slot := 6, constantValue := 0 }, { name := "NANO_SCALE", type := .long, accessFlags := 26, slot := 7, constantValue := 0 }, { name := "MICRO_SCALE", type := .long, accessFlags := 26, slot := 8, constantValue := 0 }, { name := "MILLI_SCALE", type := .long, accessFlags := 26, slot := 9, constantValue := 0 }, { name := "SECOND_SCALE", type := .long, accessFlags := 26, slot := 10, constantValue := 0 }, { name := "MINUTE_SCALE", type := .long, accessFlags := 26, slot := 11, constantValue := 0 }, { name := "HOUR_SCALE", type := .long, accessFlags := 26, slot := 12, constantValue := 0 }, { name := "DAY_SCALE", type := .long, accessFlags := 26, slot := 13, constantValue := 0 }, { name := "scale", type := .long, accessFlags := 18, slot := 3, constantValue := 0 }, { name := "maxNanos", type := .long, accessFlags := 18, slot := 4, constantValue := 0 }, { name := "maxMicros", type := .long, accessFlags := 18, slot := 5, constantValue := 0 }, { name := "maxMillis", type := .long, accessFlags := 18, slot := 6, constantValue := 0 }, { name := "maxSecs", type := .long, accessFlags := 18, slot := 7, constantValue := 0 }, { name := "microRatio", type := .long, accessFlags := 18, slot := 8, constantValue := 0 }, { name := "milliRatio", type := .int, accessFlags := 18, slot := 9, constantValue := 0 }, { name := "secRatio", type := .int, accessFlags := 18, slot := 10, constantValue := 0 }, { name := "$VALUES", type := (.array (.object "java/util/concurrent/TimeUnit")), accessFlags := 4122, slot := 14, constantValue := 0 }]
  methods := #[k8m0]
  instanceTypes := #[(.object "java/lang/String"), .int, .int, .long, .long, .long, .long, .long, .long, .int, .int]
  staticTypes := #[(.object "java/util/concurrent/TimeUnit"), (.object "java/util/concurrent/TimeUnit"), (.object "java/util/concurrent/TimeUnit"), (.object "java/util/concurrent/TimeUnit"), (.object "java/util/concurrent/TimeUnit"), (.object "java/util/concurrent/TimeUnit"), (.object "java/util/concurrent/TimeUnit"), .long, .long, .long, .long, .long, .long, .long, (.array (.object "java/util/concurrent/TimeUnit"))]
  resolved := Array.replicate 283 none
  statics := some 1 }

def pool9 : Array CpInfo := pool [(2, .class_ 4), (1, u "java/lang/CharSequence"), (42, .class_ 48), (0, u "java/lang/CharSequence$1CodePointIterator"), (10, .class_ 60), (0, u "java/lang/CharSequence$1CharIterator"), (5, .class_ 67), (0, u "java/lang/Object")] 63

/-- java/lang/CharSequence -/
def k9 : Class := { plain "java/lang/CharSequence" (some 0) with
  accessFlags := 1537
  interfaces := #[]
  cf := some (fileOf pool9 2 #[.nestMembers #[47, 59]] #[] 1537 66 #[] #[])
  fields := #[]
  methods := #[]
  instanceTypes := #[]
  staticTypes := #[]
  resolved := Array.replicate 131 none
  statics := none }

def pool10 : Array CpInfo := pool [(1, .class_ 2), (0, u "java/lang/constant/ConstantDesc"), (0, .class_ 4), (0, u "java/lang/Object")] 32

/-- java/lang/constant/ConstantDesc -/
def k10 : Class := { plain "java/lang/constant/ConstantDesc" (some 0) with
  accessFlags := 1537
  interfaces := #[]
  cf := some (fileOf pool10 1 #[] #[] 1537 3 #[] #[])
  fields := #[]
  methods := #[]
  instanceTypes := #[]
  staticTypes := #[]
  resolved := Array.replicate 37 none
  statics := none }

def pool11 : Array CpInfo := pool [(2, .class_ 4), (1, u "java/lang/Object"), (0, u "<init>"), (0, u "()V"), (3, .class_ 12), (1, u "java/lang/String"), (0, u "value"), (0, u "[B"), (2, u "coder"), (0, u "B"), (2, u "hash"), (0, u "I"), (2, u "hashIsZero"), (0, u "Z"), (13, u "COMPACT_STRINGS"), (534, .class_ 576), (0, u "java/lang/CharSequence"), (22, u "CASE_INSENSITIVE_ORDER"), (0, u "Ljava/util/Comparator;"), (500, u "serialPersistentFields"), (0, u "[Ljava/io/ObjectStreamField;"), (0, .class_ 1104), (0, u "java/lang/String$CaseInsensitiveComparator"), (1, .class_ 1107), (0, u "java/io/Serializable"), (0, .class_ 1109), (0, u "java/lang/Comparable"), (0, .class_ 1111), (0, u "java/lang/constant/Constable"), (0, .class_ 1113), (0, u "java/lang/constant/ConstantDesc"), (2, u "serialVersionUID"), (0, u "J"), (3, u "REPL"), (0, u "C"), (2, u "LATIN1"), (1, u "UTF16")] 323

def k11m0 : Method := { name := "<init>", desc := "()V", sig := { parameters := [], returnType := none }, accessFlags := 1, code := none }
/-- java/lang/String -/
def k11 : Class := { plain "java/lang/String" (some 0) with
  accessFlags := 49
  interfaces := #[6, 5, 9, 4, 10]
  cf := some (fileOf pool11 10 #[.nestMembers #[1103]] #[{ accessFlags := 1, nameIndex := 5, descriptorIndex := 6, attributes := #[] }] 49 2 #[1106, 1108, 575, 1110, 1112] #[{ accessFlags := 18, nameIndex := 13, descriptorIndex := 14, attributes := #[] }, { accessFlags := 18, nameIndex := 17, descriptorIndex := 18, attributes := #[] }, { accessFlags := 2, nameIndex := 21, descriptorIndex := 22, attributes := #[] }, { accessFlags := 2, nameIndex := 25, descriptorIndex := 26, attributes := #[] }, { accessFlags := 26, nameIndex := 1116, descriptorIndex := 1117, attributes := #[] }, { accessFlags := 24, nameIndex := 40, descriptorIndex := 26, attributes := #[] }, { accessFlags := 26, nameIndex := 1101, descriptorIndex := 1102, attributes := #[] }, { accessFlags := 26, nameIndex := 1121, descriptorIndex := 1122, attributes := #[] }, { accessFlags := 25, nameIndex := 599, descriptorIndex := 600, attributes := #[] }, { accessFlags := 24, nameIndex := 1125, descriptorIndex := 18, attributes := #[] }, { accessFlags := 24, nameIndex := 1127, descriptorIndex := 18, attributes := #[] }])
  fields := #[{ name := "value", type := (.array .byte), accessFlags := 18, slot := 0, constantValue := 0 }, { name := "coder", type := .byte, accessFlags := 18, slot := 1, constantValue := 0 }, { name := "hash", type := .int, accessFlags := 2, slot := 2, constantValue := 0 }, { name := "hashIsZero", type := .boolean, accessFlags := 2, slot := 3, constantValue := 0 }, { name := "serialVersionUID", type := .long, accessFlags := 26, slot := 0, constantValue := 0 }, { name := "COMPACT_STRINGS", type := .boolean, accessFlags := 24, slot := 1, constantValue := 0 }, { name := "serialPersistentFields", type := (.array (.object "java/io/ObjectStreamField")), accessFlags := 26, slot := 2, constantValue := 0 }, { name := "REPL", type := .char, accessFlags := 26, slot := 3, constantValue := 0 }, { name := "CASE_INSENSITIVE_ORDER", type := (.object "java/util/Comparator"), accessFlags := 25, slot := 4, constantValue := 0 }, { name := "LATIN1", type := .byte, accessFlags := 24, slot := 5, constantValue := 0 }, { name := "UTF16", type := .byte, accessFlags := 24, slot := 6, constantValue := 0 }]
  methods := #[k11m0]
  instanceTypes := #[(.array .byte), .byte, .int, .boolean]
  staticTypes := #[.long, .boolean, (.array (.object "java/io/ObjectStreamField")), .char, (.object "java/util/Comparator"), .byte, .byte]
  resolved := Array.replicate 1451 none
  statics := none }

def pool12 : Array CpInfo := pool [(1, u "java/lang/Cloneable"), (0, .class_ 1), (0, u "java/lang/Object"), (0, .class_ 3)] 3

/-- java/lang/Cloneable -/
def k12 : Class := { plain "java/lang/Cloneable" (some 0) with
  accessFlags := 1537
  interfaces := #[]
  cf := some (fileOf pool12 2 #[] #[] 1537 4 #[] #[])
  fields := #[]
  methods := #[]
  instanceTypes := #[]
  staticTypes := #[]
  resolved := Array.replicate 8 none
  statics := none }

/-- the primitive byte -/
def k13 : Class := { plain "byte" none with kind := .primitive 'B', accessFlags := 0x411 }
/-- [B -/
def k14 : Class := { plain "[B" (some 0) with kind := .array 13 .byte, interfaces := #[12, 6], accessFlags := 1041 }

def heap : Heap := #[{ cls := 3, slots := #[.long 0, .long 2000000], vm := .statics 3 },
  { cls := 8, slots := #[.null, .null, .ref 3, .null, .null, .null, .null, .long 0, .long 0, .long 0, .long 0, .long 0, .long 0, .long 0, .null], vm := .statics 8 },
  { cls := 11, slots := #[.null, .int 0, .int 0, .int 0], vm := .none },
  { cls := 8, slots := #[.ref 2, .int 2, .int 0, .long 1000000, .long 9223372036854, .long 9223372036854775, .long 9223372036854775807, .long 9223372036854775, .long 1000, .int 1, .int 1000], vm := .none }]
def classes : Array Class := #[k0, k1, k2, k3, k4, k5, k6, k7, k8, k9, k10, k11, k12, k13, k14]
def interned : List (Array UInt16 × Addr) := []
def slotsUsed : Nat := 32
def theMethod : MethodId := ⟨1, 3⟩
def args0 : Array Value := #[.long 5, .int 6]
def aboutOver (below : List Frame) : State where
  vm := { classes := classes, interned := interned.toArray }
  heap := heap
  slotsUsed := slotsUsed
  threads := #[{ frames := .invoking theMethod args0 :: below }]
def below0 : List Frame := [.native { method := ⟨0, 0⟩, args := #[] }]
def about1 : State := aboutOver below0
def p0 : Program := .bare "" "" ""
def e0 : Env := launch0.env 0 0 0
theorem w_frames : about1.frames = Frame.invoking theMethod args0 :: below0 := rfl
set_option maxRecDepth 65536 in
theorem w_args : argsFit about1.vm theMethod args0 = true := by decide +kernel
set_option maxRecDepth 65536 in
theorem w_heap : heapFits about1 = true := by decide +kernel
set_option maxRecDepth 65536 in
theorem w_runnable : about1.curStatus? = some .runnable := by decide +kernel
set_option maxRecDepth 65536 in
theorem w_alone : about1.alone = true := by decide +kernel
set_option maxRecDepth 65536 in
theorem w_named : about1.methodNamed? x = some theMethod := by decide +kernel
set_option maxRecDepth 65536 in
theorem w_hears : about1.hears theMethod below0 = true := by decide +kernel
set_option maxRecDepth 65536 in
theorem w_ripe : about1.ripe theMethod args0 below0 = true := by decide +kernel
theorem w_running : about1.status = .running := rfl
set_option maxRecDepth 65536 in
theorem w_room : about1.hasRoom e0.platform room_1 = true :=
  launch0.hasRoom_least _ room_1 (by decide +kernel) (by decide +kernel) (by decide +kernel) (by decide +kernel) (by decide +kernel) (by decide +kernel)
theorem allAtoms_all (ts : List Jvm.Cond) (a : Array Jvm.Value) (st : Jvm.State) : (allAtoms ts).before a st = ts.all (fun c => c.before a st) := by
  induction ts with
  | nil => rfl
  | cons c t ih =>
    show (Jvm.Cond.and c (allAtoms t)).before a st = _
    rw [Jvm.Cond.before_and, ih, List.all_cons]
def words1 : List Jvm.Cond := Jvm.Cond.code x code maxLocals ret :: tables_1
/-- a 'code' word, met by the world's own term for the bytes: nothing is compared byte by byte -/
theorem code_word {y : MethodName} {bytes : ByteArray} {mx : Nat} {rt : Option FieldType} {a : Array Value} {s : State} {m : MethodId} {meth : Method} {c : Code} (h1 : s.methodNamed? y = some m) (h2 : s.vm.method? m = some meth) (h3 : meth.code = some c) (h4 : c.code = bytes)
    (h5 : (c.maxLocals == mx && c.exceptionTable.isEmpty && decide (c.maxStack ≤ mostOperands) && decide (meth.sig.returnType = rt) && !meth.locks && decide (parseMethodDescriptor y.desc = some meth.sig)) = true) : (Jvm.Cond.code y bytes mx rt).before a s = true := by
  simp only [Bool.and_eq_true, beq_iff_eq, Bool.not_eq_true', decide_eq_true_eq] at h5
  obtain ⟨⟨⟨⟨⟨g1, g2⟩, g3⟩, g4⟩, g5⟩, g6⟩ := h5
  simp [Cond.before, Cond.holds, Cond.value, h1, h2, h3, h4, g1, g2, g3, g4, g5, g6]
def isCode : Jvm.Cond → Bool
  | .code _ _ _ _ => true
  | _ => false
theorem all_split {L : List Jvm.Cond} {P : Jvm.Cond → Bool} (h1 : L.all (fun c => isCode c || P c) = true) (h2 : ∀ c ∈ L.filter isCode, P c = true) : L.all P = true := by
  refine List.all_eq_true.mpr fun c hc => ?_
  have h := List.all_eq_true.mp h1 c hc
  rcases Bool.eq_false_or_eq_true (isCode c) with hi | hi
  · exact h2 c (List.mem_filter.mpr ⟨hc, hi⟩)
  · simpa [hi] using h
set_option maxRecDepth 65536 in
theorem w_c0 : (Jvm.Cond.code x code maxLocals ret).before args0 about1 = true := code_word (m := ⟨1, 3⟩) (meth := k1m3) (c := k1c3) (by decide +kernel) rfl rfl rfl (by decide +kernel)
set_option maxRecDepth 65536 in
theorem w_c1 : (Jvm.Cond.code ({ cls := "com/example/horkos/horkos/internal/LeaseValidityNanosPinLaw", name := "pickMillis", desc := "(JI)J" } : Jvm.MethodName) method_2_code (4 : Nat) (Option.some Jvm.ClassFile.FieldType.long)).before args0 about1 = true := code_word (m := ⟨1, 1⟩) (meth := k1m1) (c := k1c1) (by decide +kernel) rfl rfl rfl (by decide +kernel)
set_option maxRecDepth 65536 in
theorem w_c2 : (Jvm.Cond.code ({ cls := "com/example/horkos/horkos/internal/Lease", name := "<init>", desc := "(J)V" } : Jvm.MethodName) prog_5_method_1_code (3 : Nat) (Option.none : Option Jvm.ClassFile.FieldType)).before args0 about1 = true := code_word (m := ⟨3, 0⟩) (meth := k3m0) (c := k3c0) (by decide +kernel) rfl rfl rfl (by decide +kernel)
set_option maxRecDepth 65536 in
theorem w_c3 : (Jvm.Cond.code ({ cls := "java/lang/Record", name := "<init>", desc := "()V" } : Jvm.MethodName) jdk_30_method_1_code (1 : Nat) (Option.none : Option Jvm.ClassFile.FieldType)).before args0 about1 = true := code_word (m := ⟨2, 0⟩) (meth := k2m0) (c := k2c0) (by decide +kernel) rfl rfl rfl (by decide +kernel)
set_option maxRecDepth 65536 in
theorem w_c4 : (Jvm.Cond.code ({ cls := "java/lang/Object", name := "<init>", desc := "()V" } : Jvm.MethodName) object_method_1_code (1 : Nat) (Option.none : Option Jvm.ClassFile.FieldType)).before args0 about1 = true := code_word (m := ⟨0, 0⟩) (meth := k0m0) (c := k0c0) (by decide +kernel) rfl rfl rfl (by decide +kernel)
set_option maxRecDepth 65536 in
theorem w_c5 : (Jvm.Cond.code ({ cls := "com/example/horkos/horkos/internal/Lease", name := "validityNanos", desc := "()J" } : Jvm.MethodName) prog_5_method_4_code (5 : Nat) (Option.some Jvm.ClassFile.FieldType.long)).before args0 about1 = true := code_word (m := ⟨3, 1⟩) (meth := k3m1) (c := k3c1) (by decide +kernel) rfl rfl rfl (by decide +kernel)
set_option maxRecDepth 65536 in
theorem w_c6 : (Jvm.Cond.code ({ cls := "java/util/concurrent/TimeUnit", name := "toNanos", desc := "(J)J" } : Jvm.MethodName) jdk_2799_method_7_code (7 : Nat) (Option.some Jvm.ClassFile.FieldType.long)).before args0 about1 = true := code_word (m := ⟨8, 0⟩) (meth := k8m0) (c := k8c0) (by decide +kernel) rfl rfl rfl (by decide +kernel)
set_option maxRecDepth 65536 in
theorem w_c7 : (Jvm.Cond.code ({ cls := "com/example/horkos/horkos/internal/LeaseValidityNanosPinLaw", name := "expected", desc := "(J)J" } : Jvm.MethodName) method_3_code (2 : Nat) (Option.some Jvm.ClassFile.FieldType.long)).before args0 about1 = true := code_word (m := ⟨1, 2⟩) (meth := k1m2) (c := k1c2) (by decide +kernel) rfl rfl rfl (by decide +kernel)
def codes1 : List Jvm.Cond := [Jvm.Cond.code x code maxLocals ret, Jvm.Cond.code ({ cls := "com/example/horkos/horkos/internal/LeaseValidityNanosPinLaw", name := "pickMillis", desc := "(JI)J" } : Jvm.MethodName) method_2_code (4 : Nat) (Option.some Jvm.ClassFile.FieldType.long), Jvm.Cond.code ({ cls := "com/example/horkos/horkos/internal/Lease", name := "<init>", desc := "(J)V" } : Jvm.MethodName) prog_5_method_1_code (3 : Nat) (Option.none : Option Jvm.ClassFile.FieldType), Jvm.Cond.code ({ cls := "java/lang/Record", name := "<init>", desc := "()V" } : Jvm.MethodName) jdk_30_method_1_code (1 : Nat) (Option.none : Option Jvm.ClassFile.FieldType), Jvm.Cond.code ({ cls := "java/lang/Object", name := "<init>", desc := "()V" } : Jvm.MethodName) object_method_1_code (1 : Nat) (Option.none : Option Jvm.ClassFile.FieldType), Jvm.Cond.code ({ cls := "com/example/horkos/horkos/internal/Lease", name := "validityNanos", desc := "()J" } : Jvm.MethodName) prog_5_method_4_code (5 : Nat) (Option.some Jvm.ClassFile.FieldType.long), Jvm.Cond.code ({ cls := "java/util/concurrent/TimeUnit", name := "toNanos", desc := "(J)J" } : Jvm.MethodName) jdk_2799_method_7_code (7 : Nat) (Option.some Jvm.ClassFile.FieldType.long), Jvm.Cond.code ({ cls := "com/example/horkos/horkos/internal/LeaseValidityNanosPinLaw", name := "expected", desc := "(J)J" } : Jvm.MethodName) method_3_code (2 : Nat) (Option.some Jvm.ClassFile.FieldType.long)]
set_option maxRecDepth 65536 in
theorem codes_eq : words1.filter isCode = codes1 := rfl
theorem w_codes : ∀ c ∈ words1.filter isCode, c.before args0 about1 = true := by
  rw [codes_eq]
  intro c hc
  simp only [codes1, List.mem_cons, List.not_mem_nil, or_false] at hc
  rcases hc with rfl | rfl | rfl | rfl | rfl | rfl | rfl | rfl
  · exact w_c0
  · exact w_c1
  · exact w_c2
  · exact w_c3
  · exact w_c4
  · exact w_c5
  · exact w_c6
  · exact w_c7
set_option maxRecDepth 65536 in
theorem w_t1 : (words1.take 24).all (fun c => isCode c || c.before args0 about1) = true := by decide +kernel
set_option maxRecDepth 65536 in
theorem w_t2 : ((words1.drop 24).take 24).all (fun c => isCode c || c.before args0 about1) = true := by decide +kernel
set_option maxRecDepth 65536 in
theorem w_t3 : ((words1.drop 24).drop 24).all (fun c => isCode c || c.before args0 about1) = true := by decide +kernel
theorem w_tables : (allAtoms (Jvm.Cond.code x code maxLocals ret :: tables_1)).before args0 about1 = true := by
  rw [allAtoms_all]
  show words1.all (fun c => c.before args0 about1) = true
  refine all_split ?_ w_codes
  rw [← List.take_append_drop 24 words1, List.all_append, w_t1, ← List.take_append_drop 24 (words1.drop 24), List.all_append, w_t2, w_t3]
  rfl
set_option maxRecDepth 65536 in
theorem w_rest : rest_1_c.before args0 about1 = true := by decide +kernel
set_option maxRecDepth 65536 in
theorem w_case : (Jvm.Cond.and given_1 narrow_1).before args0 about1 = true := by decide +kernel
theorem w_applies : (headSpec (Jvm.Cond.code x code maxLocals ret :: tables_1) room_1).applies x e0.platform about1 = true :=
  (Spec.applies_iff w_frames).mpr ⟨w_running, w_runnable, w_alone, w_named, w_hears, w_ripe, w_room, w_tables⟩
theorem atStart : AtStart classFile x code maxLocals ret World_1 tables_1 room_1 Calls_1 rest_1 Pre_1 launch0 p0 e0 about1 theMethod args0 below0 :=
  ⟨lists_1, trivial, launch0.admits_env _ _ _, launch0.least_env, fairChoices_fair.cas, fairChoices_fair.clock, w_frames, w_args, w_heap, w_applies, trivial, w_rest, w_case⟩
end start1
theorem witness_1 : WitnessClaimed_1 := ⟨start1.p0, start1.e0, start1.about1, start1.theMethod, start1.args0, start1.below0, start1.atStart⟩
end Jvm.Pilot.@@N@@
