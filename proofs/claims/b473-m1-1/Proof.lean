import JvmDerived
import JvmDerived.Pilot.@@N@@Statement
import JvmDerived.Pilot.@@N@@Code
set_option linter.unusedVariables false
set_option linter.unusedSimpArgs false
namespace Jvm.RoadKit
open Sem ClassFile Op Lib Jvm.Stand Jvm.Free Jvm.LawKit
section New
variable {p : Program} {l : Launch} {e : Env} {R : Room} {s : State} {m : MethodId} {args : Array Value} {below : List Frame} {meth : Method} {c : Code} {T : State} {locs : List Loc} {cells slots : Nat}
theorem retI (X : Stand p l e R s m args below meth c T locs cells slots) (hx : p.tables.exec = Jvm.exec) {pc : Nat} {Ls : Array Slot} {z : Int32} {rest : List Value} (hret : meth.sig.returnType = some .int) (hd : decode c.code pc = .ok (.ireturn, 1)) {fs : List Frame}
    (hl : ∀ (f : JFrame) (acts : List Action), f.method = m → f.locked = none → f.entered = [] → (doReturn e (T.setTop f) acts (some (.int z))).1 = T.setFrames fs) : Steps p.tables e below (T.setTop (mkF m pc Ls (.int z :: rest))) (T.setFrames fs) := by
  have hm' : T.vm.method? m = some meth := X.method'
  have hn : narrow .int (.int z) = .int z := rfl
  show Steps p.tables e below (T.setTop { method := m, pc := pc, locals := Ls, stack := _ :: rest, locked := none }) _
  jvm_step X.here [X.here.top, hx, hd, hm', hret, hn]
  first | (intro acts; rw [hl _ acts rfl rfl rfl]) | rw [hl _ _ rfl rfl rfl]
  exact Steps.refl _
end New
end Jvm.RoadKit
namespace Jvm.Pilot.@@N@@
open Jvm Jvm.ClassFile Sem Op Lib Jvm.Free Jvm.Stand Jvm.LawKit Jvm.RoadKit Bundle Jvm.Pilot.@@N@@.Jvm.D
theorem own_m {α : Type} {L : List α} {x : α} (i : Nat) (h : L[i]? = some x) : x ∈ L := List.mem_of_getElem? h
theorem own_top {tb : Tables} {e : Env} {below : List Frame} {T t : State} {m : MethodId} {pc : Nat} {Ls : Array Slot} {v v' : Value} {rest : List Value} (q : v = v') (k : Steps tb e below (T.setTop (mkF m pc Ls (v' :: rest))) t) : Steps tb e below (T.setTop (mkF m pc Ls (v :: rest))) t := q ▸ k
theorem own_le {Z : State} {n0 : Nat} {h : Heap} (O : Old Z n0 h) : n0 ≤ h.size := O.1 ▸ O.2.1
theorem own_eqI {args : Array Value} {first s : State} {o : Option Outcome} {idx : List Nat} {t : Term} {k : Int32} (h : (Jvm.Cond.eq t (.int k)).value args first o s idx = some true) : t.eval args first o idx s = some (.int k) := by
  cases ht : t.eval args first o idx s with
  | none => simp [Cond.value, Term.eval, ht] at h
  | some x => cases x <;> simp [Cond.value, Term.eval, ht] at h ⊢; exact h
theorem own_eqJ {args : Array Value} {first s : State} {o : Option Outcome} {idx : List Nat} {t : Term} {k : Int64} (h : (Jvm.Cond.eq t (.long k)).value args first o s idx = some true) : t.eval args first o idx s = some (.long k) := by
  cases ht : t.eval args first o idx s with
  | none => simp [Cond.value, Term.eval, ht] at h
  | some x => cases x <;> simp [Cond.value, Term.eval, ht] at h ⊢; exact h
theorem own_eqR {args : Array Value} {first s : State} {o : Option Outcome} {idx : List Nat} {t u : Term} {b : Addr} (h : (Jvm.Cond.eq t u).value args first o s idx = some true) (hu : u.eval args first o idx s = some (.ref b)) : t.eval args first o idx s = some (.ref b) := by
  cases ht : t.eval args first o idx s with
  | none => simp [Cond.value, ht] at h
  | some x => cases x <;> simp [Cond.value, ht, hu] at h ⊢; exact h
def own_En (Z : State) (h : Heap) (C f d : String) (w : Addr) (k : Int32) : Prop := Sta Z h C f d (.ref w) ∧ Exa Z h w C ∧ Fld Z h w "java/lang/Enum" "ordinal" "I" (.int k)
theorem own_d1_0 : decode method_2_code 0 = .ok (.iload_n 0, 1) := by decide +kernel
theorem own_d1_1 : decode method_2_code 1 = .ok (.iconst 3, 1) := by decide +kernel
theorem own_d1_2 : decode method_2_code 2 = .ok (.iand, 1) := by decide +kernel
theorem own_d1_3 : decode method_2_code 3 = .ok (.istore_n 1, 1) := by decide +kernel
theorem own_d1_4 : decode method_2_code 4 = .ok (.iload_n 0, 1) := by decide +kernel
theorem own_d1_5 : decode method_2_code 5 = .ok (.iconst 2, 1) := by decide +kernel
theorem own_d1_6 : decode method_2_code 6 = .ok (.iushr, 1) := by decide +kernel
theorem own_d1_7 : decode method_2_code 7 = .ok (.sipush 255, 3) := by decide +kernel
theorem own_d1_10 : decode method_2_code 10 = .ok (.iand, 1) := by decide +kernel
theorem own_d1_11 : decode method_2_code 11 = .ok (.i2c, 1) := by decide +kernel
theorem own_d1_12 : decode method_2_code 12 = .ok (.istore_n 2, 1) := by decide +kernel
theorem own_d1_13 : decode method_2_code 13 = .ok (.iload_n 0, 1) := by decide +kernel
theorem own_d1_14 : decode method_2_code 14 = .ok (.bipush 10, 2) := by decide +kernel
theorem own_d1_16 : decode method_2_code 16 = .ok (.iushr, 1) := by decide +kernel
theorem own_d1_17 : decode method_2_code 17 = .ok (.sipush 255, 3) := by decide +kernel
theorem own_d1_20 : decode method_2_code 20 = .ok (.iand, 1) := by decide +kernel
theorem own_d1_21 : decode method_2_code 21 = .ok (.i2c, 1) := by decide +kernel
theorem own_d1_22 : decode method_2_code 22 = .ok (.istore_n 3, 1) := by decide +kernel
theorem own_d1_23 : decode method_2_code 23 = .ok (.iload_n 1, 1) := by decide +kernel
theorem own_d1_24 : decode method_2_code 24 = .ok (.ifCond .ne 14, 3) := by decide +kernel
theorem own_d1_27 : decode method_2_code 27 = .ok (.new 7, 3) := by decide +kernel
theorem own_d1_30 : decode method_2_code 30 = .ok (.dup, 1) := by decide +kernel
theorem own_d1_31 : decode method_2_code 31 = .ok (.iconst 0, 1) := by decide +kernel
theorem own_d1_32 : decode method_2_code 32 = .ok (.newarray .char, 2) := by decide +kernel
theorem own_d1_34 : decode method_2_code 34 = .ok (.invokespecial 9, 3) := by decide +kernel
theorem own_d1_37 : decode method_2_code 37 = .ok (.areturn, 1) := by decide +kernel
theorem own_d1_38 : decode method_2_code 38 = .ok (.iload_n 1, 1) := by decide +kernel
theorem own_d1_39 : decode method_2_code 39 = .ok (.iconst 1, 1) := by decide +kernel
theorem own_d1_40 : decode method_2_code 40 = .ok (.if_icmp .ne 8, 3) := by decide +kernel
theorem own_d1_43 : decode method_2_code 43 = .ok (.iload_n 2, 1) := by decide +kernel
theorem own_d1_44 : decode method_2_code 44 = .ok (.invokestatic 12, 3) := by decide +kernel
theorem own_d1_47 : decode method_2_code 47 = .ok (.areturn, 1) := by decide +kernel
theorem own_d1_48 : decode method_2_code 48 = .ok (.new 7, 3) := by decide +kernel
theorem own_d1_51 : decode method_2_code 51 = .ok (.dup, 1) := by decide +kernel
theorem own_d1_52 : decode method_2_code 52 = .ok (.iconst 2, 1) := by decide +kernel
theorem own_d1_53 : decode method_2_code 53 = .ok (.newarray .char, 2) := by decide +kernel
theorem own_d1_55 : decode method_2_code 55 = .ok (.dup, 1) := by decide +kernel
theorem own_d1_56 : decode method_2_code 56 = .ok (.iconst 0, 1) := by decide +kernel
theorem own_d1_57 : decode method_2_code 57 = .ok (.iload_n 2, 1) := by decide +kernel
theorem own_d1_58 : decode method_2_code 58 = .ok (.castore, 1) := by decide +kernel
theorem own_d1_59 : decode method_2_code 59 = .ok (.dup, 1) := by decide +kernel
theorem own_d1_60 : decode method_2_code 60 = .ok (.iconst 1, 1) := by decide +kernel
theorem own_d1_61 : decode method_2_code 61 = .ok (.iload_n 3, 1) := by decide +kernel
theorem own_d1_62 : decode method_2_code 62 = .ok (.castore, 1) := by decide +kernel
theorem own_d1_63 : decode method_2_code 63 = .ok (.invokespecial 9, 3) := by decide +kernel
theorem own_d1_66 : decode method_2_code 66 = .ok (.areturn, 1) := by decide +kernel
theorem own_d2_0 : decode jdk_42_method_3_code 0 = .ok (.aload_n 0, 1) := by decide +kernel
theorem own_d2_1 : decode jdk_42_method_3_code 1 = .ok (.aload_n 1, 1) := by decide +kernel
theorem own_d2_2 : decode jdk_42_method_3_code 2 = .ok (.iconst 0, 1) := by decide +kernel
theorem own_d2_3 : decode jdk_42_method_3_code 3 = .ok (.aload_n 1, 1) := by decide +kernel
theorem own_d2_4 : decode jdk_42_method_3_code 4 = .ok (.arraylength, 1) := by decide +kernel
theorem own_d2_5 : decode jdk_42_method_3_code 5 = .ok (.aconst_null, 1) := by decide +kernel
theorem own_d2_6 : decode jdk_42_method_3_code 6 = .ok (.invokespecial 27, 3) := by decide +kernel
theorem own_d2_9 : decode jdk_42_method_3_code 9 = .ok (.return_, 1) := by decide +kernel
theorem own_d3_0 : decode jdk_42_method_149_code 0 = .ok (.aload_n 0, 1) := by decide +kernel
theorem own_d3_1 : decode jdk_42_method_149_code 1 = .ok (.invokespecial 1, 3) := by decide +kernel
theorem own_d3_4 : decode jdk_42_method_149_code 4 = .ok (.iload_n 3, 1) := by decide +kernel
theorem own_d3_5 : decode jdk_42_method_149_code 5 = .ok (.ifCond .ne 22, 3) := by decide +kernel
theorem own_d3_8 : decode jdk_42_method_149_code 8 = .ok (.aload_n 0, 1) := by decide +kernel
theorem own_d3_9 : decode jdk_42_method_149_code 9 = .ok (.ldc 7, 2) := by decide +kernel
theorem own_d3_11 : decode jdk_42_method_149_code 11 = .ok (.getfield 9, 3) := by decide +kernel
theorem own_d3_14 : decode jdk_42_method_149_code 14 = .ok (.putfield 9, 3) := by decide +kernel
theorem own_d3_17 : decode jdk_42_method_149_code 17 = .ok (.aload_n 0, 1) := by decide +kernel
theorem own_d3_18 : decode jdk_42_method_149_code 18 = .ok (.ldc 7, 2) := by decide +kernel
theorem own_d3_20 : decode jdk_42_method_149_code 20 = .ok (.getfield 15, 3) := by decide +kernel
theorem own_d3_23 : decode jdk_42_method_149_code 23 = .ok (.putfield 15, 3) := by decide +kernel
theorem own_d3_26 : decode jdk_42_method_149_code 26 = .ok (.return_, 1) := by decide +kernel
theorem own_d3_27 : decode jdk_42_method_149_code 27 = .ok (.getstatic 38, 3) := by decide +kernel
theorem own_d3_30 : decode jdk_42_method_149_code 30 = .ok (.ifCond .eq 28, 3) := by decide +kernel
theorem own_d3_33 : decode jdk_42_method_149_code 33 = .ok (.aload_n 1, 1) := by decide +kernel
theorem own_d3_34 : decode jdk_42_method_149_code 34 = .ok (.iload_n 2, 1) := by decide +kernel
theorem own_d3_35 : decode jdk_42_method_149_code 35 = .ok (.iload_n 3, 1) := by decide +kernel
theorem own_d3_36 : decode jdk_42_method_149_code 36 = .ok (.invokestatic 177, 3) := by decide +kernel
theorem own_d3_39 : decode jdk_42_method_149_code 39 = .ok (.astore 5, 2) := by decide +kernel
theorem own_d3_41 : decode jdk_42_method_149_code 41 = .ok (.aload_n 0, 1) := by decide +kernel
theorem own_d3_42 : decode jdk_42_method_149_code 42 = .ok (.aload 5, 2) := by decide +kernel
theorem own_d3_44 : decode jdk_42_method_149_code 44 = .ok (.iload_n 3, 1) := by decide +kernel
theorem own_d3_45 : decode jdk_42_method_149_code 45 = .ok (.invokestatic 47, 3) := by decide +kernel
theorem own_d3_48 : decode jdk_42_method_149_code 48 = .ok (.putfield 15, 3) := by decide +kernel
theorem own_d3_51 : decode jdk_42_method_149_code 51 = .ok (.aload_n 0, 1) := by decide +kernel
theorem own_d3_52 : decode jdk_42_method_149_code 52 = .ok (.aload 5, 2) := by decide +kernel
theorem own_d3_54 : decode jdk_42_method_149_code 54 = .ok (.putfield 9, 3) := by decide +kernel
theorem own_d3_57 : decode jdk_42_method_149_code 57 = .ok (.return_, 1) := by decide +kernel
theorem own_d5_0 : decode jdk_52_method_16_code 0 = .ok (.iload_n 2, 1) := by decide +kernel
theorem own_d5_1 : decode jdk_52_method_16_code 1 = .ok (.newarray .byte, 2) := by decide +kernel
theorem own_d5_3 : decode jdk_52_method_16_code 3 = .ok (.astore_n 3, 1) := by decide +kernel
theorem own_d5_4 : decode jdk_52_method_16_code 4 = .ok (.aload_n 0, 1) := by decide +kernel
theorem own_d5_5 : decode jdk_52_method_16_code 5 = .ok (.iload_n 1, 1) := by decide +kernel
theorem own_d5_6 : decode jdk_52_method_16_code 6 = .ok (.aload_n 3, 1) := by decide +kernel
theorem own_d5_7 : decode jdk_52_method_16_code 7 = .ok (.iconst 0, 1) := by decide +kernel
theorem own_d5_8 : decode jdk_52_method_16_code 8 = .ok (.iload_n 2, 1) := by decide +kernel
theorem own_d5_9 : decode jdk_52_method_16_code 9 = .ok (.invokestatic 115, 3) := by decide +kernel
theorem own_d5_12 : decode jdk_52_method_16_code 12 = .ok (.istore 4, 2) := by decide +kernel
theorem own_d5_14 : decode jdk_52_method_16_code 14 = .ok (.iload 4, 2) := by decide +kernel
theorem own_d5_16 : decode jdk_52_method_16_code 16 = .ok (.iload_n 2, 1) := by decide +kernel
theorem own_d5_17 : decode jdk_52_method_16_code 17 = .ok (.if_icmp .eq 40, 3) := by decide +kernel
theorem own_d5_57 : decode jdk_52_method_16_code 57 = .ok (.aload_n 3, 1) := by decide +kernel
theorem own_d5_58 : decode jdk_52_method_16_code 58 = .ok (.areturn, 1) := by decide +kernel
theorem own_d6_0 : decode jdk_52_method_21_code 0 = .ok (.iconst 0, 1) := by decide +kernel
theorem own_d6_1 : decode jdk_52_method_21_code 1 = .ok (.istore 5, 2) := by decide +kernel
theorem own_d6_3 : decode jdk_52_method_21_code 3 = .ok (.iload 5, 2) := by decide +kernel
theorem own_d6_5 : decode jdk_52_method_21_code 5 = .ok (.iload 4, 2) := by decide +kernel
theorem own_d6_7 : decode jdk_52_method_21_code 7 = .ok (.if_icmp .ge 37, 3) := by decide +kernel
theorem own_d6_10 : decode jdk_52_method_21_code 10 = .ok (.aload_n 0, 1) := by decide +kernel
theorem own_d6_11 : decode jdk_52_method_21_code 11 = .ok (.iload_n 1, 1) := by decide +kernel
theorem own_d6_12 : decode jdk_52_method_21_code 12 = .ok (.caload, 1) := by decide +kernel
theorem own_d6_13 : decode jdk_52_method_21_code 13 = .ok (.istore 6, 2) := by decide +kernel
theorem own_d6_15 : decode jdk_52_method_21_code 15 = .ok (.iload 6, 2) := by decide +kernel
theorem own_d6_17 : decode jdk_52_method_21_code 17 = .ok (.sipush 255, 3) := by decide +kernel
theorem own_d6_20 : decode jdk_52_method_21_code 20 = .ok (.if_icmp .le 6, 3) := by decide +kernel
theorem own_d6_26 : decode jdk_52_method_21_code 26 = .ok (.aload_n 2, 1) := by decide +kernel
theorem own_d6_27 : decode jdk_52_method_21_code 27 = .ok (.iload_n 3, 1) := by decide +kernel
theorem own_d6_28 : decode jdk_52_method_21_code 28 = .ok (.iload 6, 2) := by decide +kernel
theorem own_d6_30 : decode jdk_52_method_21_code 30 = .ok (.i2b, 1) := by decide +kernel
theorem own_d6_31 : decode jdk_52_method_21_code 31 = .ok (.bastore, 1) := by decide +kernel
theorem own_d6_32 : decode jdk_52_method_21_code 32 = .ok (.iinc 1 1, 3) := by decide +kernel
theorem own_d6_35 : decode jdk_52_method_21_code 35 = .ok (.iinc 3 1, 3) := by decide +kernel
theorem own_d6_38 : decode jdk_52_method_21_code 38 = .ok (.iinc 5 1, 3) := by decide +kernel
theorem own_d6_41 : decode jdk_52_method_21_code 41 = .ok (.goto (-38), 3) := by decide +kernel
theorem own_d6_44 : decode jdk_52_method_21_code 44 = .ok (.iload 4, 2) := by decide +kernel
theorem own_d6_46 : decode jdk_52_method_21_code 46 = .ok (.ireturn, 1) := by decide +kernel
theorem own_d7_0 : decode jdk_52_method_15_code 0 = .ok (.iload_n 1, 1) := by decide +kernel
theorem own_d7_1 : decode jdk_52_method_15_code 1 = .ok (.aload_n 0, 1) := by decide +kernel
theorem own_d7_2 : decode jdk_52_method_15_code 2 = .ok (.arraylength, 1) := by decide +kernel
theorem own_d7_3 : decode jdk_52_method_15_code 3 = .ok (.isub, 1) := by decide +kernel
theorem own_d7_4 : decode jdk_52_method_15_code 4 = .ok (.bipush 31, 2) := by decide +kernel
theorem own_d7_6 : decode jdk_52_method_15_code 6 = .ok (.iushr, 1) := by decide +kernel
theorem own_d7_7 : decode jdk_52_method_15_code 7 = .ok (.i2b, 1) := by decide +kernel
theorem own_d7_8 : decode jdk_52_method_15_code 8 = .ok (.ireturn, 1) := by decide +kernel
theorem own_d8_0 : decode prog_139_method_1_code 0 = .ok (.aload_n 0, 1) := by decide +kernel
theorem own_d8_1 : decode prog_139_method_1_code 1 = .ok (.invokespecial 1, 3) := by decide +kernel
theorem own_d8_4 : decode prog_139_method_1_code 4 = .ok (.aload_n 0, 1) := by decide +kernel
theorem own_d8_5 : decode prog_139_method_1_code 5 = .ok (.aload_n 1, 1) := by decide +kernel
theorem own_d8_6 : decode prog_139_method_1_code 6 = .ok (.putfield 7, 3) := by decide +kernel
theorem own_d8_9 : decode prog_139_method_1_code 9 = .ok (.aload_n 0, 1) := by decide +kernel
theorem own_d8_10 : decode prog_139_method_1_code 10 = .ok (.aload_n 2, 1) := by decide +kernel
theorem own_d8_11 : decode prog_139_method_1_code 11 = .ok (.putfield 13, 3) := by decide +kernel
theorem own_d8_14 : decode prog_139_method_1_code 14 = .ok (.aload_n 0, 1) := by decide +kernel
theorem own_d8_15 : decode prog_139_method_1_code 15 = .ok (.aload_n 3, 1) := by decide +kernel
theorem own_d8_16 : decode prog_139_method_1_code 16 = .ok (.putfield 16, 3) := by decide +kernel
theorem own_d8_19 : decode prog_139_method_1_code 19 = .ok (.return_, 1) := by decide +kernel
theorem own_d9_0 : decode jdk_30_method_1_code 0 = .ok (.aload_n 0, 1) := by decide +kernel
theorem own_d9_1 : decode jdk_30_method_1_code 1 = .ok (.invokespecial 1, 3) := by decide +kernel
theorem own_d9_4 : decode jdk_30_method_1_code 4 = .ok (.return_, 1) := by decide +kernel
theorem own_d10_0 : decode prog_139_method_5_code 0 = .ok (.iconst 5, 1) := by decide +kernel
theorem own_d10_1 : decode prog_139_method_5_code 1 = .ok (.anewarray 20, 3) := by decide +kernel
theorem own_d10_4 : decode prog_139_method_5_code 4 = .ok (.dup, 1) := by decide +kernel
theorem own_d10_5 : decode prog_139_method_5_code 5 = .ok (.iconst 0, 1) := by decide +kernel
theorem own_d10_6 : decode prog_139_method_5_code 6 = .ok (.aload_n 0, 1) := by decide +kernel
theorem own_d10_7 : decode prog_139_method_5_code 7 = .ok (.getfield 7, 3) := by decide +kernel
theorem own_d10_10 : decode prog_139_method_5_code 10 = .ok (.aastore, 1) := by decide +kernel
theorem own_d10_11 : decode prog_139_method_5_code 11 = .ok (.dup, 1) := by decide +kernel
theorem own_d10_12 : decode prog_139_method_5_code 12 = .ok (.iconst 1, 1) := by decide +kernel
theorem own_d10_13 : decode prog_139_method_5_code 13 = .ok (.ldc 25, 2) := by decide +kernel
theorem own_d10_15 : decode prog_139_method_5_code 15 = .ok (.aastore, 1) := by decide +kernel
theorem own_d10_16 : decode prog_139_method_5_code 16 = .ok (.dup, 1) := by decide +kernel
theorem own_d10_17 : decode prog_139_method_5_code 17 = .ok (.iconst 2, 1) := by decide +kernel
theorem own_d10_18 : decode prog_139_method_5_code 18 = .ok (.ldc 25, 2) := by decide +kernel
theorem own_d10_20 : decode prog_139_method_5_code 20 = .ok (.aastore, 1) := by decide +kernel
theorem own_d10_21 : decode prog_139_method_5_code 21 = .ok (.dup, 1) := by decide +kernel
theorem own_d10_22 : decode prog_139_method_5_code 22 = .ok (.iconst 3, 1) := by decide +kernel
theorem own_d10_23 : decode prog_139_method_5_code 23 = .ok (.aload_n 0, 1) := by decide +kernel
theorem own_d10_24 : decode prog_139_method_5_code 24 = .ok (.getfield 13, 3) := by decide +kernel
theorem own_d10_27 : decode prog_139_method_5_code 27 = .ok (.aastore, 1) := by decide +kernel
theorem own_d10_28 : decode prog_139_method_5_code 28 = .ok (.dup, 1) := by decide +kernel
theorem own_d10_29 : decode prog_139_method_5_code 29 = .ok (.iconst 4, 1) := by decide +kernel
theorem own_d10_30 : decode prog_139_method_5_code 30 = .ok (.aload_n 0, 1) := by decide +kernel
theorem own_d10_31 : decode prog_139_method_5_code 31 = .ok (.getfield 16, 3) := by decide +kernel
theorem own_d10_34 : decode prog_139_method_5_code 34 = .ok (.aastore, 1) := by decide +kernel
theorem own_d10_35 : decode prog_139_method_5_code 35 = .ok (.areturn, 1) := by decide +kernel
theorem own_d11_0 : decode jdk_42_method_66_code 0 = .ok (.aload_n 0, 1) := by decide +kernel
theorem own_d11_1 : decode jdk_42_method_66_code 1 = .ok (.aload_n 1, 1) := by decide +kernel
theorem own_d11_2 : decode jdk_42_method_66_code 2 = .ok (.if_acmp .ne 5, 3) := by decide +kernel
theorem own_d11_5 : decode jdk_42_method_66_code 5 = .ok (.iconst 1, 1) := by decide +kernel
theorem own_d11_6 : decode jdk_42_method_66_code 6 = .ok (.ireturn, 1) := by decide +kernel
theorem own_d12_0 : decode jdk_42_method_55_code 0 = .ok (.aload_n 0, 1) := by decide +kernel
theorem own_d12_1 : decode jdk_42_method_55_code 1 = .ok (.getfield 9, 3) := by decide +kernel
theorem own_d12_4 : decode jdk_42_method_55_code 4 = .ok (.arraylength, 1) := by decide +kernel
theorem own_d12_5 : decode jdk_42_method_55_code 5 = .ok (.ifCond .ne 7, 3) := by decide +kernel
theorem own_d12_8 : decode jdk_42_method_55_code 8 = .ok (.iconst 1, 1) := by decide +kernel
theorem own_d12_9 : decode jdk_42_method_55_code 9 = .ok (.goto 4, 3) := by decide +kernel
theorem own_d12_13 : decode jdk_42_method_55_code 13 = .ok (.ireturn, 1) := by decide +kernel
theorem own_d13_0 : decode jdk_42_method_139_code 0 = .ok (.getstatic 38, 3) := by decide +kernel
theorem own_d13_3 : decode jdk_42_method_139_code 3 = .ok (.ifCond .eq 23, 3) := by decide +kernel
theorem own_d13_6 : decode jdk_42_method_139_code 6 = .ok (.iload_n 0, 1) := by decide +kernel
theorem own_d13_7 : decode jdk_42_method_139_code 7 = .ok (.invokestatic 1015, 3) := by decide +kernel
theorem own_d13_10 : decode jdk_42_method_139_code 10 = .ok (.ifCond .eq 16, 3) := by decide +kernel
theorem own_d13_13 : decode jdk_42_method_139_code 13 = .ok (.new 10, 3) := by decide +kernel
theorem own_d13_16 : decode jdk_42_method_139_code 16 = .ok (.dup, 1) := by decide +kernel
theorem own_d13_17 : decode jdk_42_method_139_code 17 = .ok (.iload_n 0, 1) := by decide +kernel
theorem own_d13_18 : decode jdk_42_method_139_code 18 = .ok (.invokestatic 1018, 3) := by decide +kernel
theorem own_d13_21 : decode jdk_42_method_139_code 21 = .ok (.iconst 0, 1) := by decide +kernel
theorem own_d13_22 : decode jdk_42_method_139_code 22 = .ok (.invokespecial 209, 3) := by decide +kernel
theorem own_d13_25 : decode jdk_42_method_139_code 25 = .ok (.areturn, 1) := by decide +kernel
theorem own_d14_0 : decode jdk_43_method_3_code 0 = .ok (.iload_n 0, 1) := by decide +kernel
theorem own_d14_1 : decode jdk_43_method_3_code 1 = .ok (.sipush 255, 3) := by decide +kernel
theorem own_d14_4 : decode jdk_43_method_3_code 4 = .ok (.if_icmp .gt 7, 3) := by decide +kernel
theorem own_d14_7 : decode jdk_43_method_3_code 7 = .ok (.iconst 1, 1) := by decide +kernel
theorem own_d14_8 : decode jdk_43_method_3_code 8 = .ok (.goto 4, 3) := by decide +kernel
theorem own_d14_12 : decode jdk_43_method_3_code 12 = .ok (.ireturn, 1) := by decide +kernel
theorem own_d15_0 : decode jdk_43_method_46_code 0 = .ok (.iconst 1, 1) := by decide +kernel
theorem own_d15_1 : decode jdk_43_method_46_code 1 = .ok (.newarray .byte, 2) := by decide +kernel
theorem own_d15_3 : decode jdk_43_method_46_code 3 = .ok (.dup, 1) := by decide +kernel
theorem own_d15_4 : decode jdk_43_method_46_code 4 = .ok (.iconst 0, 1) := by decide +kernel
theorem own_d15_5 : decode jdk_43_method_46_code 5 = .ok (.iload_n 0, 1) := by decide +kernel
theorem own_d15_6 : decode jdk_43_method_46_code 6 = .ok (.i2b, 1) := by decide +kernel
theorem own_d15_7 : decode jdk_43_method_46_code 7 = .ok (.bastore, 1) := by decide +kernel
theorem own_d15_8 : decode jdk_43_method_46_code 8 = .ok (.areturn, 1) := by decide +kernel
theorem own_d16_0 : decode jdk_42_method_151_code 0 = .ok (.aload_n 0, 1) := by decide +kernel
theorem own_d16_1 : decode jdk_42_method_151_code 1 = .ok (.invokespecial 1, 3) := by decide +kernel
theorem own_d16_4 : decode jdk_42_method_151_code 4 = .ok (.aload_n 0, 1) := by decide +kernel
theorem own_d16_5 : decode jdk_42_method_151_code 5 = .ok (.aload_n 1, 1) := by decide +kernel
theorem own_d16_6 : decode jdk_42_method_151_code 6 = .ok (.putfield 9, 3) := by decide +kernel
theorem own_d16_9 : decode jdk_42_method_151_code 9 = .ok (.aload_n 0, 1) := by decide +kernel
theorem own_d16_10 : decode jdk_42_method_151_code 10 = .ok (.iload_n 2, 1) := by decide +kernel
theorem own_d16_11 : decode jdk_42_method_151_code 11 = .ok (.putfield 15, 3) := by decide +kernel
theorem own_d16_14 : decode jdk_42_method_151_code 14 = .ok (.return_, 1) := by decide +kernel
theorem own_pn0 : plainName "java/lang/StringUTF16" = true := by first | (simp [plainName, overriddenIn]; done) | decide +kernel
theorem own_pn1 : plainName "java/lang/String" = true := by first | (simp [plainName, overriddenIn]; done) | decide +kernel
theorem own_pn2 : plainName "java/lang/StringLatin1" = true := by first | (simp [plainName, overriddenIn]; done) | decide +kernel
theorem own_pn3 : plainName "com/example/vaxwire/vaxwire/model/PatientIdentifierComponentsPinLaw" = true := by first | (simp [plainName, overriddenIn]; done) | decide +kernel
theorem own_pn4 : plainName "java/lang/Record" = true := by first | (simp [plainName, overriddenIn]; done) | decide +kernel
theorem own_pn5 : plainName "com/example/vaxwire/vaxwire/model/PatientIdentifier" = true := by first | (simp [plainName, overriddenIn]; done) | decide +kernel
theorem own_pd0 : parseMethodDescriptor "([CI[BII)I" = some ⟨[(.array .char), .int, (.array .byte), .int, .int], some .int⟩ := by decide +kernel
theorem own_pd1 : parseMethodDescriptor "([CII)[B" = some ⟨[(.array .char), .int, .int], some (.array .byte)⟩ := by decide +kernel
theorem own_pd2 : parseMethodDescriptor "([BI)B" = some ⟨[(.array .byte), .int], some .byte⟩ := by decide +kernel
theorem own_pd3 : parseMethodDescriptor "([CIILjava/lang/Void;)V" = some ⟨[(.array .char), .int, .int, (.object "java/lang/Void")], none⟩ := by decide +kernel
theorem own_pd4 : parseMethodDescriptor "(C)Z" = some ⟨[.char], some .boolean⟩ := by decide +kernel
theorem own_pd5 : parseMethodDescriptor "(C)[B" = some ⟨[.char], some (.array .byte)⟩ := by decide +kernel
theorem own_pd6 : parseMethodDescriptor "([BB)V" = some ⟨[(.array .byte), .byte], none⟩ := by decide +kernel
theorem own_pd7 : parseMethodDescriptor "([C)V" = some ⟨[(.array .char)], none⟩ := by decide +kernel
theorem own_pd8 : parseMethodDescriptor "(C)Ljava/lang/String;" = some ⟨[.char], some (.object "java/lang/String")⟩ := by decide +kernel
theorem own_pd9 : parseMethodDescriptor "()V" = some ⟨[], none⟩ := by decide +kernel
theorem own_pd10 : parseMethodDescriptor "(I)Ljava/lang/String;" = some ⟨[.int], some (.object "java/lang/String")⟩ := by decide +kernel
theorem own_pd11 : parseMethodDescriptor "(Ljava/lang/String;Ljava/lang/String;Ljava/lang/String;)V" = some ⟨[(.object "java/lang/String"), (.object "java/lang/String"), (.object "java/lang/String")], none⟩ := by decide +kernel
theorem own_pd12 : parseMethodDescriptor "()[Ljava/lang/String;" = some ⟨[], some (.array (.object "java/lang/String"))⟩ := by decide +kernel
theorem own_pd13 : parseMethodDescriptor "(Ljava/lang/Object;)Z" = some ⟨[(.object "java/lang/Object")], some .boolean⟩ := by decide +kernel
theorem own_pd14 : parseMethodDescriptor "()Z" = some ⟨[], some .boolean⟩ := by decide +kernel
def own_EL : List (String × Nat) := [("com/example/vaxwire/vaxwire/model/PatientIdentifier", 25), ("java/lang/String", 7)]
theorem own_ws {Z : State} {a0 : Array Value} (hw : ∀ d ∈ tables_1, d.before a0 Z = true) : ∀ a ∈ Bundle.stringAtoms, a.before a0 Z = true := by
  intro a ha
  simp only [Bundle.stringAtoms, List.mem_cons, List.not_mem_nil, or_false] at ha
  rcases ha with rfl | rfl | rfl | rfl | rfl | rfl | rfl
  · exact hw _ (own_m 6 rfl)
  · exact hw _ (own_m 5 rfl)
  · exact hw _ (own_m 19 rfl)
  · exact hw _ (own_m 20 rfl)
  · exact hw _ (own_m 21 rfl)
  · exact hw _ (own_m 22 rfl)
  · exact hw _ (own_m 23 rfl)
theorem own_ew {Z : State} {a0 : Array Value} (hw : ∀ d ∈ tables_1, d.before a0 Z = true) : EW Z a0 own_EL :=
  EW.cons (hw _ (own_m 62 rfl)) (by decide) (EW.cons (hw _ (own_m 18 rfl)) (by decide) EW.nil)
theorem own_safe {Z : State} {L : List (String × Nat)} {vm : Vm} {h : Heap} {a : Addr} (hal : Z.vm.Alike vm) (E : Exa Z h a "java/lang/String") (F : Fld Z h a "java/lang/String" "value" "[B" .null) : Safe Z L vm h a := fun B => by
  obtain ⟨p, -, u, b, -, q, -, S, e | e⟩ := B
  · have ha := S.ha
    obtain ⟨cS, ⟨⟨-, -, -, ⟨c1, k1, i1, f1, -⟩, -, -, -, v1, -⟩, -⟩, -⟩ := S
    obtain ⟨cell, cf, k, i, f, g1, g2, -, -, -, -, g7⟩ := F
    subst e
    cases g1.symm.trans ha
    obtain ⟨k', e3, -⟩ := State.fieldFound?_setVm (s := Z) hal g2
    have e4 := (show (Wst Z vm h).fieldFound? _ _ _ = _ from e3).symm.trans f1
    simp only [Option.some.injEq, Prod.mk.injEq] at e4
    rw [e4.2.2.2, v1] at g7
    cases g7
  · have hd := S.hd
    obtain ⟨cS, -, -, s4, -⟩ := S
    obtain ⟨cell, k, g1, g2, -⟩ := E
    subst e
    cases g1.symm.trans hd
    have s5 : vm.findClass "[B" = some q.SA.cls := s4
    rw [hal.findClass] at s5
    exact ids_ne g2 s5 (by decide) rfl
theorem own_c (x : Int32) : ¬ (255 : Int32) < ((x &&& (255 : Int32)).toUInt32.toUInt16.toUInt32.toInt32) := by
  rw [i2c_mask]
  have h1 : (x &&& (255 : Int32)).toInt = x.toInt % (2 ^ 8 : Nat) := c_mask x 255 8 (by decide) (by decide)
  have e1 : (255 : Int32).toInt = 255 := by decide
  rw [Int32.lt_iff_toInt_lt]; omega
theorem own_nc (x : Int32) : ¬ (255 : Int32) < (nar .char ((x &&& (255 : Int32)).toUInt32.toUInt16.toUInt32.toInt32)) := by
  show ¬ (255 : Int32) < (((x &&& (255 : Int32)).toUInt32.toUInt16.toUInt32.toInt32).toUInt32.toUInt16.toUInt32.toInt32)
  rw [i2c_mask, i2c_mask]
  have h1 : (x &&& (255 : Int32)).toInt = x.toInt % (2 ^ 8 : Nat) := c_mask x 255 8 (by decide) (by decide)
  have e1 : (255 : Int32).toInt = 255 := by decide
  rw [Int32.lt_iff_toInt_lt]; omega

theorem own_cfa_ef (m : MethodId) (b : Addr) : entryFrame m #[(.ref b), (.int 2)] 2 = mkF m 0 #[rv b, iv 2] [] := by first | (simp [entryFrame, mkF, argsToLocals, Value.category]; done) | rfl
def own_cfa_Q (Z : State) (cz : Int32) (b : Addr) (kb : ClassId) (u1 : Int32) (u2 : Int32) (h0 : Heap) (n0 : Nat) (v : Option Value) (h : Heap) (L : List Loc) : Prop := v = some (.int 0) ∧ Fr n0 L ∧ h = h0
set_option maxRecDepth 65536 in
set_option maxHeartbeats 40000000 in
theorem own_cfa (l : Launch) (Z : State) (a0 : Array Value) (hw : ∀ d ∈ tables_1, d.before a0 Z = true) (ws : List Jvm.Cond) (cz : Int32) (b : Addr) (kb : ClassId) (u1 : Int32) (u2 : Int32) (h0 : Heap) (n0 : Nat) (O0 : Old Z n0 h0) (S_CZ : Sta Z Z.heap "java/lang/String" "COMPACT_STRINGS" "Z" (.int cz)) (hcz : ¬ cz = (0 : Int32)) (V_b : Arv Z h0 b kb .byte (2 : Int32) [(.int u1), (.int u2)] (.int 0)) :
    MetFree l (⟨"java/lang/StringUTF16", "coderFromArrayLen", "([BI)B"⟩ : MethodName) (head1 (Jvm.Cond.code (⟨"java/lang/StringUTF16", "coderFromArrayLen", "([BI)B"⟩ : MethodName) jdk_52_method_15_code 2 (some .byte) :: ws) ({ frames := 0, cells := 0, slots := 0, locals := 0 } : Room)) (fun ar U => ar = #[(.ref b), (.int 2)] ∧ Z.Warmed39 U.vm ∧ U.heap = h0) (fun _ _ _ _ _ => True) (fun _ U oc U' => ∃ v L, oc = .returned v ∧ own_cfa_Q Z cz b kb u1 u2 h0 n0 v U'.heap L ∧ FrameEnd U oc U' L ({ frames := 0, cells := 0, slots := 0, locals := 0 } : Room).cells ({ frames := 0, cells := 0, slots := 0, locals := 0 } : Room).slots) := by
  refine MetFree.of_bodySF (plainFor_of_name own_pn0) hisR ?_
  intro p e s m args below meth c s₁ Bd hml0 hP hK
  obtain ⟨rfl, hZ, hh⟩ := hP
  have hx := Bd.exec
  have hby := Bd.bytes
  have hml : c.maxLocals = 2 := hml0
  have hown : s.vm.findClass "java/lang/StringUTF16" = some m.cls := findClass_of_methodNamed Bd.named
  have hnm := (name_of_methodNamed Bd.named Bd.method).1
  have X0 : Stand p l e ({ frames := 0, cells := 0, slots := 0, locals := 0 } : Room) s m #[(.ref b), (.int 2)] below meth c s₁ [] 0 0 := Stand.of_body Bd
  have e0 : s₁.heap = h0 := by rw [← hh, Bd.state]; rfl
  have N0 := Fr.nil n0
  have pre0 : ∀ t, Steps p.tables e below (s₁.setTop (mkF m 0 #[rv b, iv 2] [])) t → Steps p.tables e below (s₁.setTop (entryFrame m #[(.ref b), (.int 2)] 2)) t := fun t k => castTop (own_cfa_ef m b) k
  obtain ⟨c1, c1A, c1q, c1S, c1N, c1H, c1G⟩ := id V_b
  obtain ⟨fs, hr, hrun, hended, hW, hsame⟩ := X0.leave (v := some (.int 0)) (fun h => by rw [Bd.returns] at h; cases h)
  refine ⟨_, _, pre0 _ ?_, hrun, hended, _, _, rfl, ?_, ⟨_, rfl⟩, hW, hsame.mono (by decide) (by decide)⟩
  · show Steps p.tables e below (s₁.setTop (mkF m 0 #[rv b, iv 2] [])) _
    refine XS.iloadN X0.here hx rfl (hb hby own_d7_0) rfl ?_
    show Steps p.tables e below (s₁.setTop (mkF m 1 #[rv b, iv 2] [(.int 2)])) _
    refine XS.aloadN X0.here hx rfl (hb hby own_d7_1) rfl rfl ?_
    show Steps p.tables e below (s₁.setTop (mkF m 2 #[rv b, iv 2] [(.ref b), (.int 2)])) _
    refine X0.arraylength hx (by rw [e0]; exact c1A.1) (State.isArrayOf_alike hZ.alike c1A.2.1) (g := (mkF m 2 #[rv b, iv 2] [(.ref b), (.int 2)])) rfl rfl (hb hby own_d7_2) _ ?_
    rw [len_of c1S c1N]
    show Steps p.tables e below (s₁.setTop (mkF m 3 #[rv b, iv 2] [(.int 2), (.int 2)])) _
    refine XS.isub X0.here hx rfl (hb hby own_d7_3) rfl ?_
    show Steps p.tables e below (s₁.setTop (mkF m 4 #[rv b, iv 2] [(.int ((2 : Int32) - (2 : Int32)))])) _
    refine own_top (v' := (.int 0)) (congrArg Value.int (by decide)) ?_
    show Steps p.tables e below (s₁.setTop (mkF m 4 #[rv b, iv 2] [(.int 0)])) _
    refine XS.bipush X0.here hx rfl (hb hby own_d7_4) ?_
    show Steps p.tables e below (s₁.setTop (mkF m 6 #[rv b, iv 2] [(.int 31), (.int 0)])) _
    refine XS.iushr X0.here hx rfl (hb hby own_d7_6) rfl ?_
    show Steps p.tables e below (s₁.setTop (mkF m 7 #[rv b, iv 2] [(.int (((0 : Int32).toUInt32 >>> ((31 : Int32) &&& 31).toUInt32).toInt32))])) _
    refine own_top (v' := (.int 0)) (congrArg Value.int (by decide)) ?_
    show Steps p.tables e below (s₁.setTop (mkF m 7 #[rv b, iv 2] [(.int 0)])) _
    refine XS.i2b X0.here hx rfl (hb hby own_d7_7) rfl ?_
    show Steps p.tables e below (s₁.setTop (mkF m 8 #[rv b, iv 2] [(.int ((0 : Int32).toInt8.toInt32))])) _
    refine own_top (v' := (.int 0)) (congrArg Value.int (by decide)) ?_
    show Steps p.tables e below (s₁.setTop (mkF m 8 #[rv b, iv 2] [(.int 0)])) _
    exact retN X0 hx (t := .byte) Bd.returns (by simp) (hb hby own_d7_8) hr
  · show own_cfa_Q Z cz b kb u1 u2 h0 n0 _ s₁.heap _
    rw [e0]
    exact ⟨rfl, N0, rfl⟩
theorem own_cmp2_ef (m : MethodId) (s_ : Addr) (b : Addr) : entryFrame m #[(.ref s_), (.int 0), (.ref b), (.int 0), (.int 2)] 7 = mkF m 0 #[rv s_, iv 0, rv b, iv 0, iv 2, .unset, .unset] [] := by first | (simp [entryFrame, mkF, argsToLocals, Value.category]; done) | rfl
def own_cmp2_Q (Z : State) (cz : Int32) (s_ : Addr) (ks : ClassId) (x1 : Int32) (x2 : Int32) (b : Addr) (kb : ClassId) (h0 : Heap) (n0 : Nat) (v : Option Value) (h : Heap) (L : List Loc) : Prop := v = some (.int 2) ∧ Fr n0 L ∧ Keep h0 h [b] ∧ Arv Z h b kb .byte (2 : Int32) [(.int (nar .byte ((nar .char x1).toInt8.toInt32))), (.int (nar .byte ((nar .char x2).toInt8.toInt32)))] (.int 0)
set_option maxRecDepth 65536 in
set_option maxHeartbeats 40000000 in
theorem own_cmp2 (l : Launch) (Z : State) (a0 : Array Value) (hw : ∀ d ∈ tables_1, d.before a0 Z = true) (ws : List Jvm.Cond) (cz : Int32) (s_ : Addr) (ks : ClassId) (x1 : Int32) (x2 : Int32) (b : Addr) (kb : ClassId) (h0 : Heap) (n0 : Nat) (O0 : Old Z n0 h0) (S_CZ : Sta Z Z.heap "java/lang/String" "COMPACT_STRINGS" "Z" (.int cz)) (hcz : ¬ cz = (0 : Int32)) (V_s : Arv Z h0 s_ ks .char (2 : Int32) [(.int (nar .char x1)), (.int (nar .char x2))] (.int 0)) (hx1 : ¬ (255 : Int32) < (nar .char x1)) (hx2 : ¬ (255 : Int32) < (nar .char x2)) (g_b : n0 ≤ b) (nbs : b ≠ s_) (V_b : Arv Z h0 b kb .byte (2 : Int32) [(.int 0), (.int 0)] (.int 0)) :
    MetFree l (⟨"java/lang/StringUTF16", "compress", "([CI[BII)I"⟩ : MethodName) (head1 (Jvm.Cond.code (⟨"java/lang/StringUTF16", "compress", "([CI[BII)I"⟩ : MethodName) jdk_52_method_21_code 7 (some .int) :: ws) ({ frames := 0, cells := 0, slots := 0, locals := 0 } : Room)) (fun ar U => ar = #[(.ref s_), (.int 0), (.ref b), (.int 0), (.int 2)] ∧ Z.Warmed39 U.vm ∧ U.heap = h0) (fun _ _ _ _ _ => True) (fun _ U oc U' => ∃ v L, oc = .returned v ∧ own_cmp2_Q Z cz s_ ks x1 x2 b kb h0 n0 v U'.heap L ∧ FrameEnd U oc U' L ({ frames := 0, cells := 0, slots := 0, locals := 0 } : Room).cells ({ frames := 0, cells := 0, slots := 0, locals := 0 } : Room).slots) := by
  refine MetFree.of_bodySF (plainFor_of_name own_pn0) hisR ?_
  intro p e s m args below meth c s₁ Bd hml0 hP hK
  obtain ⟨rfl, hZ, hh⟩ := hP
  have hx := Bd.exec
  have hby := Bd.bytes
  have hml : c.maxLocals = 7 := hml0
  have hown : s.vm.findClass "java/lang/StringUTF16" = some m.cls := findClass_of_methodNamed Bd.named
  have hnm := (name_of_methodNamed Bd.named Bd.method).1
  have X0 : Stand p l e ({ frames := 0, cells := 0, slots := 0, locals := 0 } : Room) s m #[(.ref s_), (.int 0), (.ref b), (.int 0), (.int 2)] below meth c s₁ [] 0 0 := Stand.of_body Bd
  have e0 : s₁.heap = h0 := by rw [← hh, Bd.state]; rfl
  have N0 := Fr.nil n0
  have pre0 : ∀ t, Steps p.tables e below (s₁.setTop (mkF m 0 #[rv s_, iv 0, rv b, iv 0, iv 2, .unset, .unset] [])) t → Steps p.tables e below (s₁.setTop (entryFrame m #[(.ref s_), (.int 0), (.ref b), (.int 0), (.int 2)] 7)) t := fun t k => castTop (own_cmp2_ef m s_ b) k
  have kp0 := Keep.refl h0 ([b] : List Addr)
  obtain ⟨c1, c1A, c1q, c1S, c1N, c1H, c1G⟩ := id V_s
  have c1in : ¬ ((0 : Int32) < 0 ∨ c1.slots.size ≤ ((0 : Int32)).toNatClampNeg) := inb_of c1S ⟨by decide, by decide⟩
  have c1at : c1.slots[((0 : Int32)).toNatClampNeg]? = some (.int (nar .char x1)) := Has.at c1H c1in rfl
  obtain ⟨c2, c2A, c2q, c2S, c2N, c2H, c2G⟩ := id V_b
  have c2in : ¬ ((0 : Int32) < 0 ∨ c2.slots.size ≤ ((0 : Int32)).toNatClampNeg) := inb_of c2S ⟨by decide, by decide⟩
  obtain ⟨T3, h3, X3, e3, W3, st3⟩ := stB X0 hx hZ e0 c2A (j := (0 : Int32)) c2in (g := (mkF m 31 #[rv s_, iv 0, rv b, iv 0, iv 2, iv 0, .val (.int (nar .char x1))] [(.int ((nar .char x1).toInt8.toInt32)), (.int 0), (.ref b)])) rfl rfl (hb hby own_d6_31)
  have V3 : Arv Z h3 b kb .byte (2 : Int32) [(.int (nar .byte ((nar .char x1).toInt8.toInt32))), (.int 0)] (.int 0) := Arv.set c2A c2q c2S c2N c2H c2G (fits_nar_byte _) W3 0 rfl (Nat.le_of_ble_eq_true rfl)
  have O4 := O0.wr W3 g_b
  have kp5 := kp0.wr W3 (Or.inl (own_m 0 rfl))
  have N3 := Fr.snoc X3 N0 g_b
  have f6 := (V_s.other W3 (Ne.symm nbs))
  obtain ⟨c7, c7A, c7q, c7S, c7N, c7H, c7G⟩ := id f6
  have c7in : ¬ ((1 : Int32) < 0 ∨ c7.slots.size ≤ ((1 : Int32)).toNatClampNeg) := inb_of c7S ⟨by decide, by decide⟩
  have c7at : c7.slots[((1 : Int32)).toNatClampNeg]? = some (.int (nar .char x2)) := Has.at c7H c7in rfl
  obtain ⟨c8, c8A, c8q, c8S, c8N, c8H, c8G⟩ := id V3
  have c8in : ¬ ((1 : Int32) < 0 ∨ c8.slots.size ≤ ((1 : Int32)).toNatClampNeg) := inb_of c8S ⟨by decide, by decide⟩
  obtain ⟨T9, h9, X9, e9, W9, st9⟩ := stB X3 hx hZ e3 c8A (j := (1 : Int32)) c8in (g := (mkF m 31 #[rv s_, iv 1, rv b, iv 1, iv 2, iv 1, .val (.int (nar .char x2))] [(.int ((nar .char x2).toInt8.toInt32)), (.int 1), (.ref b)])) rfl rfl (hb hby own_d6_31)
  have V9 : Arv Z h9 b kb .byte (2 : Int32) [(.int (nar .byte ((nar .char x1).toInt8.toInt32))), (.int (nar .byte ((nar .char x2).toInt8.toInt32)))] (.int 0) := Arv.set c8A c8q c8S c8N c8H c8G (fits_nar_byte _) W9 1 rfl (Nat.le_of_ble_eq_true rfl)
  have O10 := O4.wr W9 g_b
  have kp11 := kp5.wr W9 (Or.inl (own_m 0 rfl))
  have N9 := Fr.snoc X9 N3 g_b
  obtain ⟨fs, hr, hrun, hended, hW, hsame⟩ := X9.leave (v := some (.int 2)) (fun h => by rw [Bd.returns] at h; cases h)
  refine ⟨_, _, pre0 _ ?_, hrun, hended, _, _, rfl, ?_, ⟨_, rfl⟩, hW, hsame.mono (by decide) (by decide)⟩
  · show Steps p.tables e below (s₁.setTop (mkF m 0 #[rv s_, iv 0, rv b, iv 0, iv 2, .unset, .unset] [])) _
    refine XS.iconst X0.here hx rfl (hb hby own_d6_0) ?_
    show Steps p.tables e below (s₁.setTop (mkF m 1 #[rv s_, iv 0, rv b, iv 0, iv 2, .unset, .unset] [(.int 0)])) _
    refine XS.istore X0.here hx rfl (hb hby own_d6_1) rfl (l' := #[rv s_, iv 0, rv b, iv 0, iv 2, iv 0, .unset]) rfl ?_
    show Steps p.tables e below (s₁.setTop (mkF m 3 #[rv s_, iv 0, rv b, iv 0, iv 2, iv 0, .unset] [])) _
    refine XS.iload X0.here hx rfl (hb hby own_d6_3) rfl ?_
    show Steps p.tables e below (s₁.setTop (mkF m 5 #[rv s_, iv 0, rv b, iv 0, iv 2, iv 0, .unset] [(.int 0)])) _
    refine XS.iload X0.here hx rfl (hb hby own_d6_5) rfl ?_
    show Steps p.tables e below (s₁.setTop (mkF m 7 #[rv s_, iv 0, rv b, iv 0, iv 2, iv 0, .unset] [(.int 2), (.int 0)])) _
    refine XS.icmpNo X0.here hx rfl (hb hby own_d6_7) rfl (tlt (by decide)).2.1 ?_
    show Steps p.tables e below (s₁.setTop (mkF m 10 #[rv s_, iv 0, rv b, iv 0, iv 2, iv 0, .unset] [])) _
    refine XS.aloadN X0.here hx rfl (hb hby own_d6_10) rfl rfl ?_
    show Steps p.tables e below (s₁.setTop (mkF m 11 #[rv s_, iv 0, rv b, iv 0, iv 2, iv 0, .unset] [(.ref s_)])) _
    refine XS.iloadN X0.here hx rfl (hb hby own_d6_11) rfl ?_
    show Steps p.tables e below (s₁.setTop (mkF m 12 #[rv s_, iv 0, rv b, iv 0, iv 2, iv 0, .unset] [(.int 0), (.ref s_)])) _
    refine X0.caload hx (j := (0 : Int32)) (v := (.int (nar .char x1))) (by rw [e0]; exact c1A.1) (State.isArrayOf_alike hZ.alike c1A.2.1) c1A.2.2 c1in c1at (g := (mkF m 12 #[rv s_, iv 0, rv b, iv 0, iv 2, iv 0, .unset] [(.int 0), (.ref s_)])) rfl rfl (hb hby own_d6_12) _ ?_
    show Steps p.tables e below (s₁.setTop (mkF m 13 #[rv s_, iv 0, rv b, iv 0, iv 2, iv 0, .unset] [(.int (nar .char x1))])) _
    refine XS.istore X0.here hx rfl (hb hby own_d6_13) rfl (l' := #[rv s_, iv 0, rv b, iv 0, iv 2, iv 0, .val (.int (nar .char x1))]) rfl ?_
    show Steps p.tables e below (s₁.setTop (mkF m 15 #[rv s_, iv 0, rv b, iv 0, iv 2, iv 0, .val (.int (nar .char x1))] [])) _
    refine XS.iload X0.here hx rfl (hb hby own_d6_15) rfl ?_
    show Steps p.tables e below (s₁.setTop (mkF m 17 #[rv s_, iv 0, rv b, iv 0, iv 2, iv 0, .val (.int (nar .char x1))] [(.int (nar .char x1))])) _
    refine XS.sipush X0.here hx rfl (hb hby own_d6_17) ?_
    show Steps p.tables e below (s₁.setTop (mkF m 20 #[rv s_, iv 0, rv b, iv 0, iv 2, iv 0, .val (.int (nar .char x1))] [(.int 255), (.int (nar .char x1))])) _
    refine XS.icmpYes X0.here hx rfl (pc0 := 20) (pc' := 26) rfl (hb hby own_d6_20) rfl (flt hx1).2.2.2 (by decide) (by decide) ?_
    show Steps p.tables e below (s₁.setTop (mkF m 26 #[rv s_, iv 0, rv b, iv 0, iv 2, iv 0, .val (.int (nar .char x1))] [])) _
    refine XS.aloadN X0.here hx rfl (hb hby own_d6_26) rfl rfl ?_
    show Steps p.tables e below (s₁.setTop (mkF m 27 #[rv s_, iv 0, rv b, iv 0, iv 2, iv 0, .val (.int (nar .char x1))] [(.ref b)])) _
    refine XS.iloadN X0.here hx rfl (hb hby own_d6_27) rfl ?_
    show Steps p.tables e below (s₁.setTop (mkF m 28 #[rv s_, iv 0, rv b, iv 0, iv 2, iv 0, .val (.int (nar .char x1))] [(.int 0), (.ref b)])) _
    refine XS.iload X0.here hx rfl (hb hby own_d6_28) rfl ?_
    show Steps p.tables e below (s₁.setTop (mkF m 30 #[rv s_, iv 0, rv b, iv 0, iv 2, iv 0, .val (.int (nar .char x1))] [(.int (nar .char x1)), (.int 0), (.ref b)])) _
    refine XS.i2b X0.here hx rfl (hb hby own_d6_30) rfl ?_
    show Steps p.tables e below (s₁.setTop (mkF m 31 #[rv s_, iv 0, rv b, iv 0, iv 2, iv 0, .val (.int (nar .char x1))] [(.int ((nar .char x1).toInt8.toInt32)), (.int 0), (.ref b)])) _
    refine st3 _ ?_
    show Steps p.tables e below (T3.setTop (mkF m 32 #[rv s_, iv 0, rv b, iv 0, iv 2, iv 0, .val (.int (nar .char x1))] [])) _
    refine XS.iinc X3.here hx rfl (hb hby own_d6_32) rfl (l' := #[rv s_, .val (.int ((0 : Int32) + (1 : Int32))), rv b, iv 0, iv 2, iv 0, .val (.int (nar .char x1))]) rfl ?_
    show Steps p.tables e below (T3.setTop (mkF m 35 #[rv s_, .val (.int ((0 : Int32) + (1 : Int32))), rv b, iv 0, iv 2, iv 0, .val (.int (nar .char x1))] [])) _
    refine castTop (congrArg (fun zz : Int32 => (mkF m 35 #[rv s_, iv zz, rv b, iv 0, iv 2, iv 0, .val (.int (nar .char x1))] [])) (by decide : ((0 : Int32) + (1 : Int32)) = (1 : Int32))) ?_
    show Steps p.tables e below (T3.setTop (mkF m 35 #[rv s_, iv 1, rv b, iv 0, iv 2, iv 0, .val (.int (nar .char x1))] [])) _
    refine XS.iinc X3.here hx rfl (hb hby own_d6_35) rfl (l' := #[rv s_, iv 1, rv b, .val (.int ((0 : Int32) + (1 : Int32))), iv 2, iv 0, .val (.int (nar .char x1))]) rfl ?_
    show Steps p.tables e below (T3.setTop (mkF m 38 #[rv s_, iv 1, rv b, .val (.int ((0 : Int32) + (1 : Int32))), iv 2, iv 0, .val (.int (nar .char x1))] [])) _
    refine castTop (congrArg (fun zz : Int32 => (mkF m 38 #[rv s_, iv 1, rv b, iv zz, iv 2, iv 0, .val (.int (nar .char x1))] [])) (by decide : ((0 : Int32) + (1 : Int32)) = (1 : Int32))) ?_
    show Steps p.tables e below (T3.setTop (mkF m 38 #[rv s_, iv 1, rv b, iv 1, iv 2, iv 0, .val (.int (nar .char x1))] [])) _
    refine XS.iinc X3.here hx rfl (hb hby own_d6_38) rfl (l' := #[rv s_, iv 1, rv b, iv 1, iv 2, .val (.int ((0 : Int32) + (1 : Int32))), .val (.int (nar .char x1))]) rfl ?_
    show Steps p.tables e below (T3.setTop (mkF m 41 #[rv s_, iv 1, rv b, iv 1, iv 2, .val (.int ((0 : Int32) + (1 : Int32))), .val (.int (nar .char x1))] [])) _
    refine castTop (congrArg (fun zz : Int32 => (mkF m 41 #[rv s_, iv 1, rv b, iv 1, iv 2, iv zz, .val (.int (nar .char x1))] [])) (by decide : ((0 : Int32) + (1 : Int32)) = (1 : Int32))) ?_
    show Steps p.tables e below (T3.setTop (mkF m 41 #[rv s_, iv 1, rv b, iv 1, iv 2, iv 1, .val (.int (nar .char x1))] [])) _
    refine XS.goto X3.here hx rfl (pc0 := 41) (pc' := 3) rfl (hb hby own_d6_41) (by decide) (by decide) ?_
    show Steps p.tables e below (T3.setTop (mkF m 3 #[rv s_, iv 1, rv b, iv 1, iv 2, iv 1, .val (.int (nar .char x1))] [])) _
    refine XS.iload X3.here hx rfl (hb hby own_d6_3) rfl ?_
    show Steps p.tables e below (T3.setTop (mkF m 5 #[rv s_, iv 1, rv b, iv 1, iv 2, iv 1, .val (.int (nar .char x1))] [(.int 1)])) _
    refine XS.iload X3.here hx rfl (hb hby own_d6_5) rfl ?_
    show Steps p.tables e below (T3.setTop (mkF m 7 #[rv s_, iv 1, rv b, iv 1, iv 2, iv 1, .val (.int (nar .char x1))] [(.int 2), (.int 1)])) _
    refine XS.icmpNo X3.here hx rfl (hb hby own_d6_7) rfl (tlt (by decide)).2.1 ?_
    show Steps p.tables e below (T3.setTop (mkF m 10 #[rv s_, iv 1, rv b, iv 1, iv 2, iv 1, .val (.int (nar .char x1))] [])) _
    refine XS.aloadN X3.here hx rfl (hb hby own_d6_10) rfl rfl ?_
    show Steps p.tables e below (T3.setTop (mkF m 11 #[rv s_, iv 1, rv b, iv 1, iv 2, iv 1, .val (.int (nar .char x1))] [(.ref s_)])) _
    refine XS.iloadN X3.here hx rfl (hb hby own_d6_11) rfl ?_
    show Steps p.tables e below (T3.setTop (mkF m 12 #[rv s_, iv 1, rv b, iv 1, iv 2, iv 1, .val (.int (nar .char x1))] [(.int 1), (.ref s_)])) _
    refine X3.caload hx (j := (1 : Int32)) (v := (.int (nar .char x2))) (by rw [e3]; exact c7A.1) (State.isArrayOf_alike hZ.alike c7A.2.1) c7A.2.2 c7in c7at (g := (mkF m 12 #[rv s_, iv 1, rv b, iv 1, iv 2, iv 1, .val (.int (nar .char x1))] [(.int 1), (.ref s_)])) rfl rfl (hb hby own_d6_12) _ ?_
    show Steps p.tables e below (T3.setTop (mkF m 13 #[rv s_, iv 1, rv b, iv 1, iv 2, iv 1, .val (.int (nar .char x1))] [(.int (nar .char x2))])) _
    refine XS.istore X3.here hx rfl (hb hby own_d6_13) rfl (l' := #[rv s_, iv 1, rv b, iv 1, iv 2, iv 1, .val (.int (nar .char x2))]) rfl ?_
    show Steps p.tables e below (T3.setTop (mkF m 15 #[rv s_, iv 1, rv b, iv 1, iv 2, iv 1, .val (.int (nar .char x2))] [])) _
    refine XS.iload X3.here hx rfl (hb hby own_d6_15) rfl ?_
    show Steps p.tables e below (T3.setTop (mkF m 17 #[rv s_, iv 1, rv b, iv 1, iv 2, iv 1, .val (.int (nar .char x2))] [(.int (nar .char x2))])) _
    refine XS.sipush X3.here hx rfl (hb hby own_d6_17) ?_
    show Steps p.tables e below (T3.setTop (mkF m 20 #[rv s_, iv 1, rv b, iv 1, iv 2, iv 1, .val (.int (nar .char x2))] [(.int 255), (.int (nar .char x2))])) _
    refine XS.icmpYes X3.here hx rfl (pc0 := 20) (pc' := 26) rfl (hb hby own_d6_20) rfl (flt hx2).2.2.2 (by decide) (by decide) ?_
    show Steps p.tables e below (T3.setTop (mkF m 26 #[rv s_, iv 1, rv b, iv 1, iv 2, iv 1, .val (.int (nar .char x2))] [])) _
    refine XS.aloadN X3.here hx rfl (hb hby own_d6_26) rfl rfl ?_
    show Steps p.tables e below (T3.setTop (mkF m 27 #[rv s_, iv 1, rv b, iv 1, iv 2, iv 1, .val (.int (nar .char x2))] [(.ref b)])) _
    refine XS.iloadN X3.here hx rfl (hb hby own_d6_27) rfl ?_
    show Steps p.tables e below (T3.setTop (mkF m 28 #[rv s_, iv 1, rv b, iv 1, iv 2, iv 1, .val (.int (nar .char x2))] [(.int 1), (.ref b)])) _
    refine XS.iload X3.here hx rfl (hb hby own_d6_28) rfl ?_
    show Steps p.tables e below (T3.setTop (mkF m 30 #[rv s_, iv 1, rv b, iv 1, iv 2, iv 1, .val (.int (nar .char x2))] [(.int (nar .char x2)), (.int 1), (.ref b)])) _
    refine XS.i2b X3.here hx rfl (hb hby own_d6_30) rfl ?_
    show Steps p.tables e below (T3.setTop (mkF m 31 #[rv s_, iv 1, rv b, iv 1, iv 2, iv 1, .val (.int (nar .char x2))] [(.int ((nar .char x2).toInt8.toInt32)), (.int 1), (.ref b)])) _
    refine st9 _ ?_
    show Steps p.tables e below (T9.setTop (mkF m 32 #[rv s_, iv 1, rv b, iv 1, iv 2, iv 1, .val (.int (nar .char x2))] [])) _
    refine XS.iinc X9.here hx rfl (hb hby own_d6_32) rfl (l' := #[rv s_, .val (.int ((1 : Int32) + (1 : Int32))), rv b, iv 1, iv 2, iv 1, .val (.int (nar .char x2))]) rfl ?_
    show Steps p.tables e below (T9.setTop (mkF m 35 #[rv s_, .val (.int ((1 : Int32) + (1 : Int32))), rv b, iv 1, iv 2, iv 1, .val (.int (nar .char x2))] [])) _
    refine castTop (congrArg (fun zz : Int32 => (mkF m 35 #[rv s_, iv zz, rv b, iv 1, iv 2, iv 1, .val (.int (nar .char x2))] [])) (by decide : ((1 : Int32) + (1 : Int32)) = (2 : Int32))) ?_
    show Steps p.tables e below (T9.setTop (mkF m 35 #[rv s_, iv 2, rv b, iv 1, iv 2, iv 1, .val (.int (nar .char x2))] [])) _
    refine XS.iinc X9.here hx rfl (hb hby own_d6_35) rfl (l' := #[rv s_, iv 2, rv b, .val (.int ((1 : Int32) + (1 : Int32))), iv 2, iv 1, .val (.int (nar .char x2))]) rfl ?_
    show Steps p.tables e below (T9.setTop (mkF m 38 #[rv s_, iv 2, rv b, .val (.int ((1 : Int32) + (1 : Int32))), iv 2, iv 1, .val (.int (nar .char x2))] [])) _
    refine castTop (congrArg (fun zz : Int32 => (mkF m 38 #[rv s_, iv 2, rv b, iv zz, iv 2, iv 1, .val (.int (nar .char x2))] [])) (by decide : ((1 : Int32) + (1 : Int32)) = (2 : Int32))) ?_
    show Steps p.tables e below (T9.setTop (mkF m 38 #[rv s_, iv 2, rv b, iv 2, iv 2, iv 1, .val (.int (nar .char x2))] [])) _
    refine XS.iinc X9.here hx rfl (hb hby own_d6_38) rfl (l' := #[rv s_, iv 2, rv b, iv 2, iv 2, .val (.int ((1 : Int32) + (1 : Int32))), .val (.int (nar .char x2))]) rfl ?_
    show Steps p.tables e below (T9.setTop (mkF m 41 #[rv s_, iv 2, rv b, iv 2, iv 2, .val (.int ((1 : Int32) + (1 : Int32))), .val (.int (nar .char x2))] [])) _
    refine castTop (congrArg (fun zz : Int32 => (mkF m 41 #[rv s_, iv 2, rv b, iv 2, iv 2, iv zz, .val (.int (nar .char x2))] [])) (by decide : ((1 : Int32) + (1 : Int32)) = (2 : Int32))) ?_
    show Steps p.tables e below (T9.setTop (mkF m 41 #[rv s_, iv 2, rv b, iv 2, iv 2, iv 2, .val (.int (nar .char x2))] [])) _
    refine XS.goto X9.here hx rfl (pc0 := 41) (pc' := 3) rfl (hb hby own_d6_41) (by decide) (by decide) ?_
    show Steps p.tables e below (T9.setTop (mkF m 3 #[rv s_, iv 2, rv b, iv 2, iv 2, iv 2, .val (.int (nar .char x2))] [])) _
    refine XS.iload X9.here hx rfl (hb hby own_d6_3) rfl ?_
    show Steps p.tables e below (T9.setTop (mkF m 5 #[rv s_, iv 2, rv b, iv 2, iv 2, iv 2, .val (.int (nar .char x2))] [(.int 2)])) _
    refine XS.iload X9.here hx rfl (hb hby own_d6_5) rfl ?_
    show Steps p.tables e below (T9.setTop (mkF m 7 #[rv s_, iv 2, rv b, iv 2, iv 2, iv 2, .val (.int (nar .char x2))] [(.int 2), (.int 2)])) _
    refine XS.icmpYes X9.here hx rfl (pc0 := 7) (pc' := 44) rfl (hb hby own_d6_7) rfl (flt (by decide)).2.1 (by decide) (by decide) ?_
    show Steps p.tables e below (T9.setTop (mkF m 44 #[rv s_, iv 2, rv b, iv 2, iv 2, iv 2, .val (.int (nar .char x2))] [])) _
    refine XS.iload X9.here hx rfl (hb hby own_d6_44) rfl ?_
    show Steps p.tables e below (T9.setTop (mkF m 46 #[rv s_, iv 2, rv b, iv 2, iv 2, iv 2, .val (.int (nar .char x2))] [(.int 2)])) _
    exact retI X9 hx Bd.returns (hb hby own_d6_46) hr
  · show own_cmp2_Q Z cz s_ ks x1 x2 b kb h0 n0 _ T9.heap _
    rw [e9]
    exact ⟨rfl, N9, kp11, V9⟩
theorem own_cmp1_ef (m : MethodId) (s_ : Addr) : entryFrame m #[(.ref s_), (.int 0), (.int 2)] 6 = mkF m 0 #[rv s_, iv 0, iv 2, .unset, .unset, .unset] [] := by first | (simp [entryFrame, mkF, argsToLocals, Value.category]; done) | rfl
def own_cmp1_Q (Z : State) (cz : Int32) (s_ : Addr) (ks : ClassId) (x1 : Int32) (x2 : Int32) (h0 : Heap) (n0 : Nat) (v : Option Value) (h : Heap) (L : List Loc) : Prop := ∃ (b : Addr) (kb : ClassId), v = some (.ref b) ∧ Fr n0 L ∧ Keep h0 h [] ∧ h0.size ≤ b ∧ Arv Z h b kb .byte (2 : Int32) [(.int (nar .byte ((nar .char x1).toInt8.toInt32))), (.int (nar .byte ((nar .char x2).toInt8.toInt32)))] (.int 0)
set_option maxRecDepth 65536 in
set_option maxHeartbeats 40000000 in
theorem own_cmp1 (l : Launch) (Z : State) (a0 : Array Value) (hw : ∀ d ∈ tables_1, d.before a0 Z = true) (ws : List Jvm.Cond) (cz : Int32) (s_ : Addr) (ks : ClassId) (x1 : Int32) (x2 : Int32) (h0 : Heap) (n0 : Nat) (O0 : Old Z n0 h0) (S_CZ : Sta Z Z.heap "java/lang/String" "COMPACT_STRINGS" "Z" (.int cz)) (hcz : ¬ cz = (0 : Int32)) (V_s : Arv Z h0 s_ ks .char (2 : Int32) [(.int (nar .char x1)), (.int (nar .char x2))] (.int 0)) (hx1 : ¬ (255 : Int32) < (nar .char x1)) (hx2 : ¬ (255 : Int32) < (nar .char x2)) :
    MetFree l (⟨"java/lang/StringUTF16", "compress", "([CII)[B"⟩ : MethodName) (head1 (Jvm.Cond.code (⟨"java/lang/StringUTF16", "compress", "([CII)[B"⟩ : MethodName) jdk_52_method_16_code 6 (some (.array .byte)) :: ws) ({ frames := 1, cells := 1, slots := 2, locals := 18 } : Room)) (fun ar U => ar = #[(.ref s_), (.int 0), (.int 2)] ∧ Z.Warmed39 U.vm ∧ U.heap = h0) (fun _ _ _ _ _ => True) (fun _ U oc U' => ∃ v L, oc = .returned v ∧ own_cmp1_Q Z cz s_ ks x1 x2 h0 n0 v U'.heap L ∧ FrameEnd U oc U' L ({ frames := 1, cells := 1, slots := 2, locals := 18 } : Room).cells ({ frames := 1, cells := 1, slots := 2, locals := 18 } : Room).slots) := by
  refine MetFree.of_bodySF (plainFor_of_name own_pn0) hisR ?_
  intro p e s m args below meth c s₁ Bd hml0 hP hK
  obtain ⟨rfl, hZ, hh⟩ := hP
  have hx := Bd.exec
  have hby := Bd.bytes
  have hml : c.maxLocals = 6 := hml0
  have hown : s.vm.findClass "java/lang/StringUTF16" = some m.cls := findClass_of_methodNamed Bd.named
  have hnm := (name_of_methodNamed Bd.named Bd.method).1
  have X0 : Stand p l e ({ frames := 1, cells := 1, slots := 2, locals := 18 } : Room) s m #[(.ref s_), (.int 0), (.int 2)] below meth c s₁ [] 0 0 := Stand.of_body Bd
  have e0 : s₁.heap = h0 := by rw [← hh, Bd.state]; rfl
  have N0 := Fr.nil n0
  have pre0 : ∀ t, Steps p.tables e below (s₁.setTop (mkF m 0 #[rv s_, iv 0, iv 2, .unset, .unset, .unset] [])) t → Steps p.tables e below (s₁.setTop (entryFrame m #[(.ref s_), (.int 0), (.int 2)] 6)) t := fun t k => castTop (own_cmp1_ef m s_) k
  have kp0 := Keep.refl h0 ([] : List Addr)
  obtain ⟨T1, h1, k1, X1, e1, E1, A1, st1⟩ := newP X0 hx hZ (hw _ (own_m 19 rfl)) e0 (g := (mkF m 1 #[rv s_, iv 0, iv 2, .unset, .unset, .unset] [(.int 2)])) rfl (hb hby own_d5_1) rfl (by decide) (cap := 2) (by decide) (by decide) (by decide) (by decide)
  obtain ⟨b1, g1⟩ : ∃ z, z = h0.size := ⟨_, rfl⟩
  rw [← g1] at A1  st1
  have ne_s__b1 : s_ ≠ b1 := Nat.ne_of_lt (g1 ▸ V_s.lt)
  have gg_b1 : n0 ≤ b1 := g1 ▸ own_le O0
  have sz_b1 : h0.size ≤ b1 := g1 ▸ kp0.1
  have O2 := O0.ext E1
  have kp3 := kp0.ext E1
  have V_b1 : Arv Z h1 b1 k1 .byte (2 : Int32) [(.int 0), (.int 0)] (.int 0) := (Arv.new A1 (by decide)).pad (pad_rep [] (.int 0) 2)
  have f4 := (V_s.ext E1)
  obtain ⟨_, _, ⟨T5, L5, k5, n5⟩, -, X5, ⟨Lc5, hQ5, l5, y5, z5⟩, st5⟩ := Jvm.LawKit.callS X1 hx (y := (⟨"java/lang/StringUTF16", "compress", "([CI[BII)I"⟩ : MethodName)) hown (mvT hZ (hw _ (own_m 31 rfl))) (mvT hZ (hw _ (own_m 32 rfl))) (mvT hZ (hw _ (own_m 29 rfl))) (mvT hZ (hw _ (own_m 33 rfl))) (by decide) (backOf (W := 0) (own_cmp2 l Z a0 hw [] cz s_ ks x1 x2 b1 k1 h1 n0 O2 S_CZ hcz f4 hx1 hx2 gg_b1 (Ne.symm ne_s__b1) V_b1) hZ (hw _ (own_m 33 rfl)) (hw _ (own_m 29 rfl)) (by decide) (by decide)) (g := (mkF m 9 #[rv s_, iv 0, iv 2, rv b1, .unset, .unset] [(.int 2), (.int 0), (.ref b1), (.int 0), (.ref s_)])) rfl (by rw [hml]; rfl) (argsL := [(.ref s_), (.int 0), (.ref b1), (.int 0), (.int 2)]) (rest := []) (lenOf own_pd0 rfl) rfl (by show 2 * 0 + _ ≤ _; exact Nat.le_of_eq rfl) (hb hby own_d5_9) (fun _ _ => ⟨rfl, e1, (by decide : 1 + 0 ≤ _), (by decide : 2 + 0 ≤ _)⟩)
  dsimp only [Pt.U, Pt.locs, Pt.cells, Pt.slots] at X5 l5 y5 z5 st5 hQ5
  subst l5 y5 z5
  obtain ⟨rfl, N5q, K5, q6⟩ := hQ5
  have N5 := Fr.app N0 N5q
  have O7 := O2.keep K5 (allS gg_b1 all0)
  have kp8 := kp3.trans K5 ((allS (P := fun x => x ∈ ([] : List Addr) ∨ h0.size ≤ x) (Or.inr sz_b1) all0))
  obtain ⟨fs, hr, hrun, hended, hW, hsame⟩ := X5.leave (v := some (.ref b1)) (fun h => by rw [Bd.returns] at h; cases h)
  refine ⟨_, _, pre0 _ ?_, hrun, hended, _, _, rfl, ?_, ⟨_, rfl⟩, hW, hsame.mono (by decide) (by decide)⟩
  · show Steps p.tables e below (s₁.setTop (mkF m 0 #[rv s_, iv 0, iv 2, .unset, .unset, .unset] [])) _
    refine XS.iloadN X0.here hx rfl (hb hby own_d5_0) rfl ?_
    show Steps p.tables e below (s₁.setTop (mkF m 1 #[rv s_, iv 0, iv 2, .unset, .unset, .unset] [(.int 2)])) _
    refine st1 _ ?_
    show Steps p.tables e below (T1.setTop (mkF m 3 #[rv s_, iv 0, iv 2, .unset, .unset, .unset] [(.ref b1)])) _
    refine XS.astoreN X1.here hx rfl (hb hby own_d5_3) rfl rfl (l' := #[rv s_, iv 0, iv 2, rv b1, .unset, .unset]) rfl ?_
    show Steps p.tables e below (T1.setTop (mkF m 4 #[rv s_, iv 0, iv 2, rv b1, .unset, .unset] [])) _
    refine XS.aloadN X1.here hx rfl (hb hby own_d5_4) rfl rfl ?_
    show Steps p.tables e below (T1.setTop (mkF m 5 #[rv s_, iv 0, iv 2, rv b1, .unset, .unset] [(.ref s_)])) _
    refine XS.iloadN X1.here hx rfl (hb hby own_d5_5) rfl ?_
    show Steps p.tables e below (T1.setTop (mkF m 6 #[rv s_, iv 0, iv 2, rv b1, .unset, .unset] [(.int 0), (.ref s_)])) _
    refine XS.aloadN X1.here hx rfl (hb hby own_d5_6) rfl rfl ?_
    show Steps p.tables e below (T1.setTop (mkF m 7 #[rv s_, iv 0, iv 2, rv b1, .unset, .unset] [(.ref b1), (.int 0), (.ref s_)])) _
    refine XS.iconst X1.here hx rfl (hb hby own_d5_7) ?_
    show Steps p.tables e below (T1.setTop (mkF m 8 #[rv s_, iv 0, iv 2, rv b1, .unset, .unset] [(.int 0), (.ref b1), (.int 0), (.ref s_)])) _
    refine XS.iloadN X1.here hx rfl (hb hby own_d5_8) rfl ?_
    show Steps p.tables e below (T1.setTop (mkF m 9 #[rv s_, iv 0, iv 2, rv b1, .unset, .unset] [(.int 2), (.int 0), (.ref b1), (.int 0), (.ref s_)])) _
    refine st5 _ ?_
    show Steps p.tables e below (T5.setTop (mkF m 12 #[rv s_, iv 0, iv 2, rv b1, .unset, .unset] [(.int 2)])) _
    refine XS.istore X5.here hx rfl (hb hby own_d5_12) rfl (l' := #[rv s_, iv 0, iv 2, rv b1, iv 2, .unset]) rfl ?_
    show Steps p.tables e below (T5.setTop (mkF m 14 #[rv s_, iv 0, iv 2, rv b1, iv 2, .unset] [])) _
    refine XS.iload X5.here hx rfl (hb hby own_d5_14) rfl ?_
    show Steps p.tables e below (T5.setTop (mkF m 16 #[rv s_, iv 0, iv 2, rv b1, iv 2, .unset] [(.int 2)])) _
    refine XS.iloadN X5.here hx rfl (hb hby own_d5_16) rfl ?_
    show Steps p.tables e below (T5.setTop (mkF m 17 #[rv s_, iv 0, iv 2, rv b1, iv 2, .unset] [(.int 2), (.int 2)])) _
    refine XS.icmpYes X5.here hx rfl (pc0 := 17) (pc' := 57) rfl (hb hby own_d5_17) rfl (teq (by decide)).1 (by decide) (by decide) ?_
    show Steps p.tables e below (T5.setTop (mkF m 57 #[rv s_, iv 0, iv 2, rv b1, iv 2, .unset] [])) _
    refine XS.aloadN X5.here hx rfl (hb hby own_d5_57) rfl rfl ?_
    show Steps p.tables e below (T5.setTop (mkF m 58 #[rv s_, iv 0, iv 2, rv b1, iv 2, .unset] [(.ref b1)])) _
    jvm_step X5.here [X5.here.top, hx, (hb hby own_d5_58), X5.method', Bd.returns, Value.isRef, FieldType.isReference]
    first | (intro acts; rw [hr _ acts rfl rfl rfl]) | rw [hr _ _ rfl rfl rfl]
    exact Steps.refl _
  · show own_cmp1_Q Z cz s_ ks x1 x2 h0 n0 _ T5.heap _
    exact ⟨b1, k1, rfl, N5, kp8, sz_b1, q6⟩
theorem own_si2_ef (m : MethodId) (a : Addr) (s_ : Addr) : entryFrame m #[(.ref a), (.ref s_), (.int 0), (.int 2), .null] 6 = mkF m 0 #[rv a, rv s_, iv 0, iv 2, .val .null, .unset] [] := by first | (simp [entryFrame, mkF, argsToLocals, Value.category]; done) | rfl
def own_si2_Q (Z : State) (cz : Int32) (a : Addr) (s_ : Addr) (ks : ClassId) (x1 : Int32) (x2 : Int32) (h0 : Heap) (n0 : Nat) (v : Option Value) (h : Heap) (L : List Loc) : Prop := v = none ∧ Fr n0 L ∧ Keep h0 h [a] ∧ Exa Z h a "java/lang/String"
set_option maxRecDepth 65536 in
set_option maxHeartbeats 40000000 in
theorem own_si2 (l : Launch) (Z : State) (a0 : Array Value) (hw : ∀ d ∈ tables_1, d.before a0 Z = true) (ws : List Jvm.Cond) (cz : Int32) (a : Addr) (s_ : Addr) (ks : ClassId) (x1 : Int32) (x2 : Int32) (h0 : Heap) (n0 : Nat) (O0 : Old Z n0 h0) (S_CZ : Sta Z Z.heap "java/lang/String" "COMPACT_STRINGS" "Z" (.int cz)) (hcz : ¬ cz = (0 : Int32)) (g_a : n0 ≤ a) (E_a : Exa Z h0 a "java/lang/String") (F_value : Fld Z h0 a "java/lang/String" "value" "[B" .null) (F_coder : Fld Z h0 a "java/lang/String" "coder" "B" (.int 0)) (V_s : Arv Z h0 s_ ks .char (2 : Int32) [(.int (nar .char x1)), (.int (nar .char x2))] (.int 0)) (hx1 : ¬ (255 : Int32) < (nar .char x1)) (hx2 : ¬ (255 : Int32) < (nar .char x2)) :
    MetFree l (⟨"java/lang/String", "<init>", "([CIILjava/lang/Void;)V"⟩ : MethodName) (head1 (Jvm.Cond.code (⟨"java/lang/String", "<init>", "([CIILjava/lang/Void;)V"⟩ : MethodName) jdk_42_method_149_code 6 none :: ws) ({ frames := 2, cells := 1, slots := 2, locals := 50 } : Room)) (fun ar U => ar = #[(.ref a), (.ref s_), (.int 0), (.int 2), .null] ∧ Z.Warmed39 U.vm ∧ U.heap = h0) (fun _ _ _ _ _ => True) (fun _ U oc U' => ∃ v L, oc = .returned v ∧ own_si2_Q Z cz a s_ ks x1 x2 h0 n0 v U'.heap L ∧ FrameEnd U oc U' L ({ frames := 2, cells := 1, slots := 2, locals := 50 } : Room).cells ({ frames := 2, cells := 1, slots := 2, locals := 50 } : Room).slots) := by
  refine MetFree.of_bodySF (plainFor_of_name own_pn1) hisR ?_
  intro p e s m args below meth c s₁ Bd hml0 hP hK
  obtain ⟨rfl, hZ, hh⟩ := hP
  have hx := Bd.exec
  have hby := Bd.bytes
  have hml : c.maxLocals = 6 := hml0
  have hown : s.vm.findClass "java/lang/String" = some m.cls := findClass_of_methodNamed Bd.named
  have hnm := (name_of_methodNamed Bd.named Bd.method).1
  have X0 : Stand p l e ({ frames := 2, cells := 1, slots := 2, locals := 50 } : Room) s m #[(.ref a), (.ref s_), (.int 0), (.int 2), .null] below meth c s₁ [] 0 0 := Stand.of_body Bd
  have e0 : s₁.heap = h0 := by rw [← hh, Bd.state]; rfl
  have N0 := Fr.nil n0
  have pre0 : ∀ t, Steps p.tables e below (s₁.setTop (mkF m 0 #[rv a, rv s_, iv 0, iv 2, .val .null, .unset] [])) t → Steps p.tables e below (s₁.setTop (entryFrame m #[(.ref a), (.ref s_), (.int 0), (.int 2), .null] 6)) t := fun t k => castTop (own_si2_ef m a s_) k
  have kp0 := Keep.refl h0 ([a] : List Addr)
  obtain ⟨T1, X1, e1, st1⟩ := initO X0 hx hZ hown (hw _ (own_m 15 rfl)) (hw _ (own_m 16 rfl)) (hw _ (own_m 17 rfl)) e0 (g := (mkF m 1 #[rv a, rv s_, iv 0, iv 2, .val .null, .unset] [(.ref a)])) rfl (by rw [hml]; rfl) rfl (hb hby own_d3_1) (by decide) (W := 0) (by show 2 * 0 + _ ≤ _; exact Nat.le_of_eq rfl) (by decide)
  obtain ⟨T2, X2, e2, st2⟩ := getS2 X1 hx hZ hown (host := "") (Or.inl (hw _ (own_m 26 rfl))) Via.refl e1 (S_CZ.ext O0.2) (g := (mkF m 27 #[rv a, rv s_, iv 0, iv 2, .val .null, .unset] [])) rfl (hb hby own_d3_27)
  obtain ⟨_, _, ⟨T3, L3, k3, n3⟩, -, X3, ⟨Lc3, hQ3, l3, y3, z3⟩, st3⟩ := Jvm.LawKit.callS X2 hx (y := (⟨"java/lang/StringUTF16", "compress", "([CII)[B"⟩ : MethodName)) hown (mvT hZ (hw _ (own_m 27 rfl))) (mvT hZ (hw _ (own_m 28 rfl))) (mvT hZ (hw _ (own_m 29 rfl))) (mvT hZ (hw _ (own_m 30 rfl))) (by decide) (backOf (W := 0) (own_cmp1 l Z a0 hw [] cz s_ ks x1 x2 h0 n0 O0 S_CZ hcz V_s hx1 hx2) hZ (hw _ (own_m 30 rfl)) (hw _ (own_m 29 rfl)) (by decide) (by decide)) (g := (mkF m 36 #[rv a, rv s_, iv 0, iv 2, .val .null, .unset] [(.int 2), (.int 0), (.ref s_)])) rfl (by rw [hml]; rfl) (argsL := [(.ref s_), (.int 0), (.int 2)]) (rest := []) (lenOf own_pd1 rfl) rfl (by show 2 * 0 + _ ≤ _; exact Nat.le_of_eq rfl) (hb hby own_d3_36) (fun _ _ => ⟨rfl, e2, (by decide : 0 + 1 ≤ _), (by decide : 0 + 2 ≤ _)⟩)
  dsimp only [Pt.U, Pt.locs, Pt.cells, Pt.slots] at X3 l3 y3 z3 st3 hQ3
  subst l3 y3 z3
  obtain ⟨bb, kb, rfl, N3q, K3, szr, V_bb⟩ := hQ3
  have N3 := Fr.app N0 N3q
  have ne_a_bb : a ≠ bb := Nat.ne_of_lt (Nat.lt_of_lt_of_le E_a.lt szr)
  have O4 := O0.keep K3 all0
  have kp5 := kp0.trans K3 (all0)
  obtain ⟨_, _, ⟨T6, L6, k6, n6⟩, -, X6, ⟨Lc6, hQ6, l6, y6, z6⟩, st6⟩ := Jvm.LawKit.callS X3 hx (y := (⟨"java/lang/StringUTF16", "coderFromArrayLen", "([BI)B"⟩ : MethodName)) hown (mvT hZ (hw _ (own_m 34 rfl))) (mvT hZ (hw _ (own_m 35 rfl))) (mvT hZ (hw _ (own_m 29 rfl))) (mvT hZ (hw _ (own_m 36 rfl))) (by decide) (backOf (W := 1) (own_cfa l Z a0 hw [] cz bb kb (nar .byte ((nar .char x1).toInt8.toInt32)) (nar .byte ((nar .char x2).toInt8.toInt32)) T3.heap n0 O4 S_CZ hcz V_bb) hZ (hw _ (own_m 36 rfl)) (hw _ (own_m 29 rfl)) (by decide) (by decide)) (g := (mkF m 45 #[rv a, rv s_, iv 0, iv 2, .val .null, rv bb] [(.int 2), (.ref bb), (.ref a)])) rfl (by rw [hml]; rfl) (argsL := [(.ref bb), (.int 2)]) (rest := [(.ref a)]) (lenOf own_pd2 rfl) rfl (by show 2 * 0 + _ ≤ _; exact Nat.le_of_eq rfl) (hb hby own_d3_45) (fun _ _ => ⟨rfl, rfl, (by decide : 1 + 0 ≤ _), (by decide : 2 + 0 ≤ _)⟩)
  dsimp only [Pt.U, Pt.locs, Pt.cells, Pt.slots] at X6 l6 y6 z6 st6 hQ6
  subst l6 y6 z6
  obtain ⟨rfl, N6q, e6⟩ := hQ6
  have N6 := Fr.app N3 N6q
  have f7 := (F_coder.keep K3 nin0)
  have f8 := (E_a.keep K3)
  obtain ⟨T9, h9, X9, e9, W9, st9⟩ := putF X6 hx hZ hown (host := "") (Or.inl (hw _ (own_m 25 rfl))) Via.refl e6 f7 f8 (Or.inr ⟨(hw _ (own_m 21 rfl)), rfl, hnm⟩) (hw _ (own_m 5 rfl)) (ty := .byte) (by decide) (by first | rfl | decide) (by first | rfl | decide) (g := (mkF m 48 #[rv a, rv s_, iv 0, iv 2, .val .null, rv bb] [(.int 0), (.ref a)])) rfl rfl (hb hby own_d3_48)
  have Fw9 := f7.same W9
  have O10 := O4.wr W9 g_a
  have kp11 := kp5.wr W9 (Or.inl (own_m 0 rfl))
  have N9 := Fr.snoc X9 N6 g_a
  have f12 := ((F_value.keep K3 nin0).other W9 (Or.inr (slot_ne (Or.inr (hw _ (own_m 20 rfl))) (Or.inr (hw _ (own_m 21 rfl))) (by decide) (t := (.array .byte)) (t' := .byte) (by decide) (by decide))))
  have f13 := (f8.wr W9)
  obtain ⟨T14, h14, X14, e14, W14, st14⟩ := putF X9 hx hZ hown (host := "") (Or.inl (hw _ (own_m 24 rfl))) Via.refl e9 f12 f13 (Or.inr ⟨(hw _ (own_m 20 rfl)), rfl, hnm⟩) (hw _ (own_m 5 rfl)) (ty := (.array .byte)) (by decide) rfl rfl (g := (mkF m 54 #[rv a, rv s_, iv 0, iv 2, .val .null, rv bb] [(.ref bb), (.ref a)])) rfl rfl (hb hby own_d3_54)
  have Fw14 := f12.same W14
  have O15 := O10.wr W14 g_a
  have kp16 := kp11.wr W14 (Or.inl (own_m 0 rfl))
  have N14 := Fr.snoc X14 N9 g_a
  have f17 := (f13.wr W14)
  obtain ⟨fs, hr, hrun, hended, hW, hsame⟩ := X14.leave (v := none) (fun _ => rfl)
  refine ⟨_, _, pre0 _ ?_, hrun, hended, _, _, rfl, ?_, ⟨_, rfl⟩, hW, hsame.mono (by decide) (by decide)⟩
  · show Steps p.tables e below (s₁.setTop (mkF m 0 #[rv a, rv s_, iv 0, iv 2, .val .null, .unset] [])) _
    refine XS.aloadN X0.here hx rfl (hb hby own_d3_0) rfl rfl ?_
    show Steps p.tables e below (s₁.setTop (mkF m 1 #[rv a, rv s_, iv 0, iv 2, .val .null, .unset] [(.ref a)])) _
    refine st1 _ ?_
    show Steps p.tables e below (T1.setTop (mkF m 4 #[rv a, rv s_, iv 0, iv 2, .val .null, .unset] [])) _
    refine XS.iloadN X1.here hx rfl (hb hby own_d3_4) rfl ?_
    show Steps p.tables e below (T1.setTop (mkF m 5 #[rv a, rv s_, iv 0, iv 2, .val .null, .unset] [(.int 2)])) _
    refine XS.ifYes X1.here hx rfl (pc0 := 5) (pc' := 27) rfl (hb hby own_d3_5) rfl ((if0 _ _).trans (feq (by decide)).2) (by decide) (by decide) ?_
    show Steps p.tables e below (T1.setTop (mkF m 27 #[rv a, rv s_, iv 0, iv 2, .val .null, .unset] [])) _
    refine st2 _ ?_
    show Steps p.tables e below (T2.setTop (mkF m 30 #[rv a, rv s_, iv 0, iv 2, .val .null, .unset] [(.int cz)])) _
    refine XS.ifNo X2.here hx rfl (hb hby own_d3_30) rfl ((if0 _ _).trans (feq hcz).1) ?_
    show Steps p.tables e below (T2.setTop (mkF m 33 #[rv a, rv s_, iv 0, iv 2, .val .null, .unset] [])) _
    refine XS.aloadN X2.here hx rfl (hb hby own_d3_33) rfl rfl ?_
    show Steps p.tables e below (T2.setTop (mkF m 34 #[rv a, rv s_, iv 0, iv 2, .val .null, .unset] [(.ref s_)])) _
    refine XS.iloadN X2.here hx rfl (hb hby own_d3_34) rfl ?_
    show Steps p.tables e below (T2.setTop (mkF m 35 #[rv a, rv s_, iv 0, iv 2, .val .null, .unset] [(.int 0), (.ref s_)])) _
    refine XS.iloadN X2.here hx rfl (hb hby own_d3_35) rfl ?_
    show Steps p.tables e below (T2.setTop (mkF m 36 #[rv a, rv s_, iv 0, iv 2, .val .null, .unset] [(.int 2), (.int 0), (.ref s_)])) _
    refine st3 _ ?_
    show Steps p.tables e below (T3.setTop (mkF m 39 #[rv a, rv s_, iv 0, iv 2, .val .null, .unset] [(.ref bb)])) _
    refine XS.astore X3.here hx rfl (hb hby own_d3_39) rfl rfl (l' := #[rv a, rv s_, iv 0, iv 2, .val .null, rv bb]) rfl ?_
    show Steps p.tables e below (T3.setTop (mkF m 41 #[rv a, rv s_, iv 0, iv 2, .val .null, rv bb] [])) _
    refine XS.aloadN X3.here hx rfl (hb hby own_d3_41) rfl rfl ?_
    show Steps p.tables e below (T3.setTop (mkF m 42 #[rv a, rv s_, iv 0, iv 2, .val .null, rv bb] [(.ref a)])) _
    refine XS.aload X3.here hx rfl (hb hby own_d3_42) rfl rfl ?_
    show Steps p.tables e below (T3.setTop (mkF m 44 #[rv a, rv s_, iv 0, iv 2, .val .null, rv bb] [(.ref bb), (.ref a)])) _
    refine XS.iloadN X3.here hx rfl (hb hby own_d3_44) rfl ?_
    show Steps p.tables e below (T3.setTop (mkF m 45 #[rv a, rv s_, iv 0, iv 2, .val .null, rv bb] [(.int 2), (.ref bb), (.ref a)])) _
    refine st6 _ ?_
    show Steps p.tables e below (T6.setTop (mkF m 48 #[rv a, rv s_, iv 0, iv 2, .val .null, rv bb] [(.int 0), (.ref a)])) _
    refine st9 _ ?_
    show Steps p.tables e below (T9.setTop (mkF m 51 #[rv a, rv s_, iv 0, iv 2, .val .null, rv bb] [])) _
    refine XS.aloadN X9.here hx rfl (hb hby own_d3_51) rfl rfl ?_
    show Steps p.tables e below (T9.setTop (mkF m 52 #[rv a, rv s_, iv 0, iv 2, .val .null, rv bb] [(.ref a)])) _
    refine XS.aload X9.here hx rfl (hb hby own_d3_52) rfl rfl ?_
    show Steps p.tables e below (T9.setTop (mkF m 54 #[rv a, rv s_, iv 0, iv 2, .val .null, rv bb] [(.ref bb), (.ref a)])) _
    refine st14 _ ?_
    show Steps p.tables e below (T14.setTop (mkF m 57 #[rv a, rv s_, iv 0, iv 2, .val .null, rv bb] [])) _
    exact X14.returnOut hx Bd.returns (hb hby own_d3_57) hr
  · show own_si2_Q Z cz a s_ ks x1 x2 h0 n0 _ T14.heap _
    rw [e14]
    exact ⟨rfl, N14, kp16, f17⟩
theorem own_sc2_ef (m : MethodId) (a : Addr) (s_ : Addr) : entryFrame m #[(.ref a), (.ref s_)] 2 = mkF m 0 #[rv a, rv s_] [] := by first | (simp [entryFrame, mkF, argsToLocals, Value.category]; done) | rfl
def own_sc2_Q (Z : State) (cz : Int32) (a : Addr) (s_ : Addr) (ks : ClassId) (x1 : Int32) (x2 : Int32) (h0 : Heap) (n0 : Nat) (v : Option Value) (h : Heap) (L : List Loc) : Prop := v = none ∧ Fr n0 L ∧ Keep h0 h [a] ∧ Exa Z h a "java/lang/String"
set_option maxRecDepth 65536 in
set_option maxHeartbeats 40000000 in
theorem own_sc2 (l : Launch) (Z : State) (a0 : Array Value) (hw : ∀ d ∈ tables_1, d.before a0 Z = true) (ws : List Jvm.Cond) (cz : Int32) (a : Addr) (s_ : Addr) (ks : ClassId) (x1 : Int32) (x2 : Int32) (h0 : Heap) (n0 : Nat) (O0 : Old Z n0 h0) (S_CZ : Sta Z Z.heap "java/lang/String" "COMPACT_STRINGS" "Z" (.int cz)) (hcz : ¬ cz = (0 : Int32)) (g_a : n0 ≤ a) (E_a : Exa Z h0 a "java/lang/String") (F_value : Fld Z h0 a "java/lang/String" "value" "[B" .null) (F_coder : Fld Z h0 a "java/lang/String" "coder" "B" (.int 0)) (V_s : Arv Z h0 s_ ks .char (2 : Int32) [(.int (nar .char x1)), (.int (nar .char x2))] (.int 0)) (hx1 : ¬ (255 : Int32) < (nar .char x1)) (hx2 : ¬ (255 : Int32) < (nar .char x2)) :
    MetFree l (⟨"java/lang/String", "<init>", "([C)V"⟩ : MethodName) (head1 (Jvm.Cond.code (⟨"java/lang/String", "<init>", "([C)V"⟩ : MethodName) jdk_42_method_3_code 2 none :: ws) ({ frames := 3, cells := 1, slots := 2, locals := 70 } : Room)) (fun ar U => ar = #[(.ref a), (.ref s_)] ∧ Z.Warmed39 U.vm ∧ U.heap = h0) (fun _ _ _ _ _ => True) (fun _ U oc U' => ∃ v L, oc = .returned v ∧ own_sc2_Q Z cz a s_ ks x1 x2 h0 n0 v U'.heap L ∧ FrameEnd U oc U' L ({ frames := 3, cells := 1, slots := 2, locals := 70 } : Room).cells ({ frames := 3, cells := 1, slots := 2, locals := 70 } : Room).slots) := by
  refine MetFree.of_bodySF (plainFor_of_name own_pn1) hisR ?_
  intro p e s m args below meth c s₁ Bd hml0 hP hK
  obtain ⟨rfl, hZ, hh⟩ := hP
  have hx := Bd.exec
  have hby := Bd.bytes
  have hml : c.maxLocals = 2 := hml0
  have hown : s.vm.findClass "java/lang/String" = some m.cls := findClass_of_methodNamed Bd.named
  have hnm := (name_of_methodNamed Bd.named Bd.method).1
  have X0 : Stand p l e ({ frames := 3, cells := 1, slots := 2, locals := 70 } : Room) s m #[(.ref a), (.ref s_)] below meth c s₁ [] 0 0 := Stand.of_body Bd
  have e0 : s₁.heap = h0 := by rw [← hh, Bd.state]; rfl
  have N0 := Fr.nil n0
  have pre0 : ∀ t, Steps p.tables e below (s₁.setTop (mkF m 0 #[rv a, rv s_] [])) t → Steps p.tables e below (s₁.setTop (entryFrame m #[(.ref a), (.ref s_)] 2)) t := fun t k => castTop (own_sc2_ef m a s_) k
  have kp0 := Keep.refl h0 ([a] : List Addr)
  obtain ⟨c1, c1A, c1q, c1S, c1N, c1H, c1G⟩ := id V_s
  obtain ⟨_, _, ⟨T2, L2, k2, n2⟩, -, X2, ⟨Lc2, hQ2, l2, y2, z2⟩, st2⟩ := X0.specialBack hx (y := (⟨"java/lang/String", "<init>", "([CIILjava/lang/Void;)V"⟩ : MethodName)) rfl hown (mvT hZ (hw _ (own_m 11 rfl))) (mvT hZ (hw _ (own_m 12 rfl))) (mvT hZ (hw _ (own_m 14 rfl))) (by decide) (backOf (W := 0) (own_si2 l Z a0 hw [] cz a s_ ks x1 x2 h0 n0 O0 S_CZ hcz g_a E_a F_value F_coder V_s hx1 hx2) hZ (hw _ (own_m 14 rfl)) (hw _ (own_m 6 rfl)) (by decide) (by decide)) (g := (mkF m 6 #[rv a, rv s_] [.null, (.int 2), (.int 0), (.ref s_), (.ref a)])) rfl (by rw [hml]; rfl) (Steps.refl _) (a := a) (argsL := [(.ref s_), (.int 0), (.int 2), .null]) (rest := []) (lenOf own_pd3 rfl) rfl (by show 2 * 0 + _ ≤ _; exact Nat.le_of_eq rfl) (hb hby own_d2_6) (fun _ _ => ⟨rfl, e0, (by decide : 0 + 1 ≤ _), (by decide : 0 + 2 ≤ _)⟩)
  dsimp only [Pt.U, Pt.locs, Pt.cells, Pt.slots] at X2 l2 y2 z2 st2 hQ2
  subst l2 y2 z2
  obtain ⟨rfl, N2q, K2, q3⟩ := hQ2
  have N2 := Fr.app N0 N2q
  have O4 := O0.keep K2 (allS g_a all0)
  have kp5 := kp0.trans K2 ((allS (P := fun x => x ∈ ([a] : List Addr) ∨ h0.size ≤ x) (Or.inl (own_m 0 rfl)) all0))
  obtain ⟨fs, hr, hrun, hended, hW, hsame⟩ := X2.leave (v := none) (fun _ => rfl)
  refine ⟨_, _, pre0 _ ?_, hrun, hended, _, _, rfl, ?_, ⟨_, rfl⟩, hW, hsame.mono (by decide) (by decide)⟩
  · show Steps p.tables e below (s₁.setTop (mkF m 0 #[rv a, rv s_] [])) _
    refine XS.aloadN X0.here hx rfl (hb hby own_d2_0) rfl rfl ?_
    show Steps p.tables e below (s₁.setTop (mkF m 1 #[rv a, rv s_] [(.ref a)])) _
    refine XS.aloadN X0.here hx rfl (hb hby own_d2_1) rfl rfl ?_
    show Steps p.tables e below (s₁.setTop (mkF m 2 #[rv a, rv s_] [(.ref s_), (.ref a)])) _
    refine XS.iconst X0.here hx rfl (hb hby own_d2_2) ?_
    show Steps p.tables e below (s₁.setTop (mkF m 3 #[rv a, rv s_] [(.int 0), (.ref s_), (.ref a)])) _
    refine XS.aloadN X0.here hx rfl (hb hby own_d2_3) rfl rfl ?_
    show Steps p.tables e below (s₁.setTop (mkF m 4 #[rv a, rv s_] [(.ref s_), (.int 0), (.ref s_), (.ref a)])) _
    refine X0.arraylength hx (by rw [e0]; exact c1A.1) (State.isArrayOf_alike hZ.alike c1A.2.1) (g := (mkF m 4 #[rv a, rv s_] [(.ref s_), (.int 0), (.ref s_), (.ref a)])) rfl rfl (hb hby own_d2_4) _ ?_
    rw [len_of c1S c1N]
    show Steps p.tables e below (s₁.setTop (mkF m 5 #[rv a, rv s_] [(.int 2), (.int 0), (.ref s_), (.ref a)])) _
    refine XS.aconstNull X0.here hx rfl (hb hby own_d2_5) ?_
    show Steps p.tables e below (s₁.setTop (mkF m 6 #[rv a, rv s_] [.null, (.int 2), (.int 0), (.ref s_), (.ref a)])) _
    refine st2.trans ?_
    show Steps p.tables e below (T2.setTop (mkF m 9 #[rv a, rv s_] [])) _
    exact X2.returnOut hx Bd.returns (hb hby own_d2_9) hr
  · show own_sc2_Q Z cz a s_ ks x1 x2 h0 n0 _ T2.heap _
    exact ⟨rfl, N2, kp5, q3⟩
theorem own_cen_ef (m : MethodId) (x : Int32) : entryFrame m #[(.int x)] 1 = mkF m 0 #[iv x] [] := by first | (simp [entryFrame, mkF, argsToLocals, Value.category]; done) | rfl
def own_cen_Q (Z : State) (cz : Int32) (x : Int32) (h0 : Heap) (n0 : Nat) (v : Option Value) (h : Heap) (L : List Loc) : Prop := v = some (.int 1) ∧ Fr n0 L ∧ h = h0
set_option maxRecDepth 65536 in
set_option maxHeartbeats 40000000 in
theorem own_cen (l : Launch) (Z : State) (a0 : Array Value) (hw : ∀ d ∈ tables_1, d.before a0 Z = true) (ws : List Jvm.Cond) (cz : Int32) (x : Int32) (h0 : Heap) (n0 : Nat) (O0 : Old Z n0 h0) (S_CZ : Sta Z Z.heap "java/lang/String" "COMPACT_STRINGS" "Z" (.int cz)) (hcz : ¬ cz = (0 : Int32)) (hxv : ¬ (255 : Int32) < x) :
    MetFree l (⟨"java/lang/StringLatin1", "canEncode", "(C)Z"⟩ : MethodName) (head1 (Jvm.Cond.code (⟨"java/lang/StringLatin1", "canEncode", "(C)Z"⟩ : MethodName) jdk_43_method_3_code 1 (some .boolean) :: ws) ({ frames := 0, cells := 0, slots := 0, locals := 0 } : Room)) (fun ar U => ar = #[(.int x)] ∧ Z.Warmed39 U.vm ∧ U.heap = h0) (fun _ _ _ _ _ => True) (fun _ U oc U' => ∃ v L, oc = .returned v ∧ own_cen_Q Z cz x h0 n0 v U'.heap L ∧ FrameEnd U oc U' L ({ frames := 0, cells := 0, slots := 0, locals := 0 } : Room).cells ({ frames := 0, cells := 0, slots := 0, locals := 0 } : Room).slots) := by
  refine MetFree.of_bodySF (plainFor_of_name own_pn2) hisR ?_
  intro p e s m args below meth c s₁ Bd hml0 hP hK
  obtain ⟨rfl, hZ, hh⟩ := hP
  have hx := Bd.exec
  have hby := Bd.bytes
  have hml : c.maxLocals = 1 := hml0
  have hown : s.vm.findClass "java/lang/StringLatin1" = some m.cls := findClass_of_methodNamed Bd.named
  have hnm := (name_of_methodNamed Bd.named Bd.method).1
  have X0 : Stand p l e ({ frames := 0, cells := 0, slots := 0, locals := 0 } : Room) s m #[(.int x)] below meth c s₁ [] 0 0 := Stand.of_body Bd
  have e0 : s₁.heap = h0 := by rw [← hh, Bd.state]; rfl
  have N0 := Fr.nil n0
  have pre0 : ∀ t, Steps p.tables e below (s₁.setTop (mkF m 0 #[iv x] [])) t → Steps p.tables e below (s₁.setTop (entryFrame m #[(.int x)] 1)) t := fun t k => castTop (own_cen_ef m x) k
  obtain ⟨fs, hr, hrun, hended, hW, hsame⟩ := X0.leave (v := some (.int 1)) (fun h => by rw [Bd.returns] at h; cases h)
  refine ⟨_, _, pre0 _ ?_, hrun, hended, _, _, rfl, ?_, ⟨_, rfl⟩, hW, hsame.mono (by decide) (by decide)⟩
  · show Steps p.tables e below (s₁.setTop (mkF m 0 #[iv x] [])) _
    refine XS.iloadN X0.here hx rfl (hb hby own_d14_0) rfl ?_
    show Steps p.tables e below (s₁.setTop (mkF m 1 #[iv x] [(.int x)])) _
    refine XS.sipush X0.here hx rfl (hb hby own_d14_1) ?_
    show Steps p.tables e below (s₁.setTop (mkF m 4 #[iv x] [(.int 255), (.int x)])) _
    refine XS.icmpNo X0.here hx rfl (hb hby own_d14_4) rfl (flt hxv).2.2.1 ?_
    show Steps p.tables e below (s₁.setTop (mkF m 7 #[iv x] [])) _
    refine XS.iconst X0.here hx rfl (hb hby own_d14_7) ?_
    show Steps p.tables e below (s₁.setTop (mkF m 8 #[iv x] [(.int 1)])) _
    refine XS.goto X0.here hx rfl (pc0 := 8) (pc' := 12) rfl (hb hby own_d14_8) (by decide) (by decide) ?_
    show Steps p.tables e below (s₁.setTop (mkF m 12 #[iv x] [(.int 1)])) _
    exact retN X0 hx (t := .boolean) Bd.returns (by simp) (hb hby own_d14_12) hr
  · show own_cen_Q Z cz x h0 n0 _ s₁.heap _
    rw [e0]
    exact ⟨rfl, N0, rfl⟩
theorem own_tby_ef (m : MethodId) (x : Int32) : entryFrame m #[(.int x)] 1 = mkF m 0 #[iv x] [] := by first | (simp [entryFrame, mkF, argsToLocals, Value.category]; done) | rfl
def own_tby_Q (Z : State) (cz : Int32) (x : Int32) (h0 : Heap) (n0 : Nat) (v : Option Value) (h : Heap) (L : List Loc) : Prop := ∃ (b : Addr) (kb : ClassId), v = some (.ref b) ∧ Fr n0 L ∧ Keep h0 h [] ∧ h0.size ≤ b ∧ b < h.size
set_option maxRecDepth 65536 in
set_option maxHeartbeats 40000000 in
theorem own_tby (l : Launch) (Z : State) (a0 : Array Value) (hw : ∀ d ∈ tables_1, d.before a0 Z = true) (ws : List Jvm.Cond) (cz : Int32) (x : Int32) (h0 : Heap) (n0 : Nat) (O0 : Old Z n0 h0) (S_CZ : Sta Z Z.heap "java/lang/String" "COMPACT_STRINGS" "Z" (.int cz)) (hcz : ¬ cz = (0 : Int32)) :
    MetFree l (⟨"java/lang/StringLatin1", "toBytes", "(C)[B"⟩ : MethodName) (head1 (Jvm.Cond.code (⟨"java/lang/StringLatin1", "toBytes", "(C)[B"⟩ : MethodName) jdk_43_method_46_code 1 (some (.array .byte)) :: ws) ({ frames := 0, cells := 1, slots := 1, locals := 0 } : Room)) (fun ar U => ar = #[(.int x)] ∧ Z.Warmed39 U.vm ∧ U.heap = h0) (fun _ _ _ _ _ => True) (fun _ U oc U' => ∃ v L, oc = .returned v ∧ own_tby_Q Z cz x h0 n0 v U'.heap L ∧ FrameEnd U oc U' L ({ frames := 0, cells := 1, slots := 1, locals := 0 } : Room).cells ({ frames := 0, cells := 1, slots := 1, locals := 0 } : Room).slots) := by
  refine MetFree.of_bodySF (plainFor_of_name own_pn2) hisR ?_
  intro p e s m args below meth c s₁ Bd hml0 hP hK
  obtain ⟨rfl, hZ, hh⟩ := hP
  have hx := Bd.exec
  have hby := Bd.bytes
  have hml : c.maxLocals = 1 := hml0
  have hown : s.vm.findClass "java/lang/StringLatin1" = some m.cls := findClass_of_methodNamed Bd.named
  have hnm := (name_of_methodNamed Bd.named Bd.method).1
  have X0 : Stand p l e ({ frames := 0, cells := 1, slots := 1, locals := 0 } : Room) s m #[(.int x)] below meth c s₁ [] 0 0 := Stand.of_body Bd
  have e0 : s₁.heap = h0 := by rw [← hh, Bd.state]; rfl
  have N0 := Fr.nil n0
  have pre0 : ∀ t, Steps p.tables e below (s₁.setTop (mkF m 0 #[iv x] [])) t → Steps p.tables e below (s₁.setTop (entryFrame m #[(.int x)] 1)) t := fun t k => castTop (own_tby_ef m x) k
  have kp0 := Keep.refl h0 ([] : List Addr)
  obtain ⟨T1, h1, k1, X1, e1, E1, A1, st1⟩ := newP X0 hx hZ (hw _ (own_m 19 rfl)) e0 (g := (mkF m 1 #[iv x] [(.int 1)])) rfl (hb hby own_d15_1) rfl (by decide) (cap := 1) (by decide) (by decide) (by decide) (by decide)
  obtain ⟨b1, g1⟩ : ∃ z, z = h0.size := ⟨_, rfl⟩
  rw [← g1] at A1  st1
  have gg_b1 : n0 ≤ b1 := g1 ▸ own_le O0
  have sz_b1 : h0.size ≤ b1 := g1 ▸ kp0.1
  have O2 := O0.ext E1
  have kp3 := kp0.ext E1
  have V_b1 : Arv Z h1 b1 k1 .byte (1 : Int32) [(.int 0)] (.int 0) := (Arv.new A1 (by decide)).pad (pad_rep [] (.int 0) 1)
  obtain ⟨c4, c4A, c4q, c4S, c4N, c4H, c4G⟩ := id V_b1
  have c4in : ¬ ((0 : Int32) < 0 ∨ c4.slots.size ≤ ((0 : Int32)).toNatClampNeg) := inb_of c4S ⟨by decide, by decide⟩
  obtain ⟨T5, h5, X5, e5, W5, st5⟩ := stB X1 hx hZ e1 c4A (j := (0 : Int32)) c4in (g := (mkF m 7 #[iv x] [(.int (x.toInt8.toInt32)), (.int 0), (.ref b1), (.ref b1)])) rfl rfl (hb hby own_d15_7)
  have V5 : Arv Z h5 b1 k1 .byte (1 : Int32) [(.int (nar .byte (x.toInt8.toInt32)))] (.int 0) := Arv.set c4A c4q c4S c4N c4H c4G (fits_nar_byte _) W5 0 rfl (Nat.le_of_ble_eq_true rfl)
  have O6 := O2.wr W5 gg_b1
  have kp7 := kp3.wr W5 (Or.inr sz_b1)
  have N5 := Fr.snoc X5 N0 gg_b1
  obtain ⟨fs, hr, hrun, hended, hW, hsame⟩ := X5.leave (v := some (.ref b1)) (fun h => by rw [Bd.returns] at h; cases h)
  refine ⟨_, _, pre0 _ ?_, hrun, hended, _, _, rfl, ?_, ⟨_, rfl⟩, hW, hsame.mono (by decide) (by decide)⟩
  · show Steps p.tables e below (s₁.setTop (mkF m 0 #[iv x] [])) _
    refine XS.iconst X0.here hx rfl (hb hby own_d15_0) ?_
    show Steps p.tables e below (s₁.setTop (mkF m 1 #[iv x] [(.int 1)])) _
    refine st1 _ ?_
    show Steps p.tables e below (T1.setTop (mkF m 3 #[iv x] [(.ref b1)])) _
    refine XS.dup X1.here hx rfl (hb hby own_d15_3) rfl rfl ?_
    show Steps p.tables e below (T1.setTop (mkF m 4 #[iv x] [(.ref b1), (.ref b1)])) _
    refine XS.iconst X1.here hx rfl (hb hby own_d15_4) ?_
    show Steps p.tables e below (T1.setTop (mkF m 5 #[iv x] [(.int 0), (.ref b1), (.ref b1)])) _
    refine XS.iloadN X1.here hx rfl (hb hby own_d15_5) rfl ?_
    show Steps p.tables e below (T1.setTop (mkF m 6 #[iv x] [(.int x), (.int 0), (.ref b1), (.ref b1)])) _
    refine XS.i2b X1.here hx rfl (hb hby own_d15_6) rfl ?_
    show Steps p.tables e below (T1.setTop (mkF m 7 #[iv x] [(.int (x.toInt8.toInt32)), (.int 0), (.ref b1), (.ref b1)])) _
    refine st5 _ ?_
    show Steps p.tables e below (T5.setTop (mkF m 8 #[iv x] [(.ref b1)])) _
    jvm_step X5.here [X5.here.top, hx, (hb hby own_d15_8), X5.method', Bd.returns, Value.isRef, FieldType.isReference]
    first | (intro acts; rw [hr _ acts rfl rfl rfl]) | rw [hr _ _ rfl rfl rfl]
    exact Steps.refl _
  · show own_tby_Q Z cz x h0 n0 _ T5.heap _
    rw [e5]
    exact ⟨b1, k1, rfl, N5, kp7, sz_b1, V5.lt⟩
theorem own_sbb_ef (m : MethodId) (a : Addr) (b : Addr) : entryFrame m #[(.ref a), (.ref b), (.int 0)] 3 = mkF m 0 #[rv a, rv b, iv 0] [] := by first | (simp [entryFrame, mkF, argsToLocals, Value.category]; done) | rfl
def own_sbb_Q (Z : State) (cz : Int32) (a : Addr) (b : Addr) (h0 : Heap) (n0 : Nat) (v : Option Value) (h : Heap) (L : List Loc) : Prop := v = none ∧ Fr n0 L ∧ Keep h0 h [a] ∧ Exa Z h a "java/lang/String"
set_option maxRecDepth 65536 in
set_option maxHeartbeats 40000000 in
theorem own_sbb (l : Launch) (Z : State) (a0 : Array Value) (hw : ∀ d ∈ tables_1, d.before a0 Z = true) (ws : List Jvm.Cond) (cz : Int32) (a : Addr) (b : Addr) (h0 : Heap) (n0 : Nat) (O0 : Old Z n0 h0) (S_CZ : Sta Z Z.heap "java/lang/String" "COMPACT_STRINGS" "Z" (.int cz)) (hcz : ¬ cz = (0 : Int32)) (g_a : n0 ≤ a) (E_a : Exa Z h0 a "java/lang/String") (F_value : Fld Z h0 a "java/lang/String" "value" "[B" .null) (F_coder : Fld Z h0 a "java/lang/String" "coder" "B" (.int 0)) :
    MetFree l (⟨"java/lang/String", "<init>", "([BB)V"⟩ : MethodName) (head1 (Jvm.Cond.code (⟨"java/lang/String", "<init>", "([BB)V"⟩ : MethodName) jdk_42_method_151_code 3 none :: ws) ({ frames := 1, cells := 0, slots := 0, locals := 12 } : Room)) (fun ar U => ar = #[(.ref a), (.ref b), (.int 0)] ∧ Z.Warmed39 U.vm ∧ U.heap = h0) (fun _ _ _ _ _ => True) (fun _ U oc U' => ∃ v L, oc = .returned v ∧ own_sbb_Q Z cz a b h0 n0 v U'.heap L ∧ FrameEnd U oc U' L ({ frames := 1, cells := 0, slots := 0, locals := 12 } : Room).cells ({ frames := 1, cells := 0, slots := 0, locals := 12 } : Room).slots) := by
  refine MetFree.of_bodySF (plainFor_of_name own_pn1) hisR ?_
  intro p e s m args below meth c s₁ Bd hml0 hP hK
  obtain ⟨rfl, hZ, hh⟩ := hP
  have hx := Bd.exec
  have hby := Bd.bytes
  have hml : c.maxLocals = 3 := hml0
  have hown : s.vm.findClass "java/lang/String" = some m.cls := findClass_of_methodNamed Bd.named
  have hnm := (name_of_methodNamed Bd.named Bd.method).1
  have X0 : Stand p l e ({ frames := 1, cells := 0, slots := 0, locals := 12 } : Room) s m #[(.ref a), (.ref b), (.int 0)] below meth c s₁ [] 0 0 := Stand.of_body Bd
  have e0 : s₁.heap = h0 := by rw [← hh, Bd.state]; rfl
  have N0 := Fr.nil n0
  have pre0 : ∀ t, Steps p.tables e below (s₁.setTop (mkF m 0 #[rv a, rv b, iv 0] [])) t → Steps p.tables e below (s₁.setTop (entryFrame m #[(.ref a), (.ref b), (.int 0)] 3)) t := fun t k => castTop (own_sbb_ef m a b) k
  have kp0 := Keep.refl h0 ([a] : List Addr)
  obtain ⟨T1, X1, e1, st1⟩ := initO X0 hx hZ hown (hw _ (own_m 15 rfl)) (hw _ (own_m 16 rfl)) (hw _ (own_m 17 rfl)) e0 (g := (mkF m 1 #[rv a, rv b, iv 0] [(.ref a)])) rfl (by rw [hml]; rfl) rfl (hb hby own_d16_1) (by decide) (W := 0) (by show 2 * 0 + _ ≤ _; exact Nat.le_of_eq rfl) (by decide)
  obtain ⟨T2, h2, X2, e2, W2, st2⟩ := putF X1 hx hZ hown (host := "") (Or.inl (hw _ (own_m 24 rfl))) Via.refl e1 F_value E_a (Or.inr ⟨(hw _ (own_m 20 rfl)), rfl, hnm⟩) (hw _ (own_m 5 rfl)) (ty := (.array .byte)) (by decide) rfl rfl (g := (mkF m 6 #[rv a, rv b, iv 0] [(.ref b), (.ref a)])) rfl rfl (hb hby own_d16_6)
  have Fw2 := F_value.same W2
  have O3 := O0.wr W2 g_a
  have kp4 := kp0.wr W2 (Or.inl (own_m 0 rfl))
  have N2 := Fr.snoc X2 N0 g_a
  have f5 := (F_coder.other W2 (Or.inr (slot_ne (Or.inr (hw _ (own_m 21 rfl))) (Or.inr (hw _ (own_m 20 rfl))) (by decide) (t := .byte) (t' := (.array .byte)) (by decide) (by decide))))
  have f6 := (E_a.wr W2)
  obtain ⟨T7, h7, X7, e7, W7, st7⟩ := putF X2 hx hZ hown (host := "") (Or.inl (hw _ (own_m 25 rfl))) Via.refl e2 f5 f6 (Or.inr ⟨(hw _ (own_m 21 rfl)), rfl, hnm⟩) (hw _ (own_m 5 rfl)) (ty := .byte) (by decide) (by first | rfl | decide) (by first | rfl | decide) (g := (mkF m 11 #[rv a, rv b, iv 0] [(.int 0), (.ref a)])) rfl rfl (hb hby own_d16_11)
  have Fw7 := f5.same W7
  have O8 := O3.wr W7 g_a
  have kp9 := kp4.wr W7 (Or.inl (own_m 0 rfl))
  have N7 := Fr.snoc X7 N2 g_a
  have f10 := (f6.wr W7)
  obtain ⟨fs, hr, hrun, hended, hW, hsame⟩ := X7.leave (v := none) (fun _ => rfl)
  refine ⟨_, _, pre0 _ ?_, hrun, hended, _, _, rfl, ?_, ⟨_, rfl⟩, hW, hsame.mono (by decide) (by decide)⟩
  · show Steps p.tables e below (s₁.setTop (mkF m 0 #[rv a, rv b, iv 0] [])) _
    refine XS.aloadN X0.here hx rfl (hb hby own_d16_0) rfl rfl ?_
    show Steps p.tables e below (s₁.setTop (mkF m 1 #[rv a, rv b, iv 0] [(.ref a)])) _
    refine st1 _ ?_
    show Steps p.tables e below (T1.setTop (mkF m 4 #[rv a, rv b, iv 0] [])) _
    refine XS.aloadN X1.here hx rfl (hb hby own_d16_4) rfl rfl ?_
    show Steps p.tables e below (T1.setTop (mkF m 5 #[rv a, rv b, iv 0] [(.ref a)])) _
    refine XS.aloadN X1.here hx rfl (hb hby own_d16_5) rfl rfl ?_
    show Steps p.tables e below (T1.setTop (mkF m 6 #[rv a, rv b, iv 0] [(.ref b), (.ref a)])) _
    refine st2 _ ?_
    show Steps p.tables e below (T2.setTop (mkF m 9 #[rv a, rv b, iv 0] [])) _
    refine XS.aloadN X2.here hx rfl (hb hby own_d16_9) rfl rfl ?_
    show Steps p.tables e below (T2.setTop (mkF m 10 #[rv a, rv b, iv 0] [(.ref a)])) _
    refine XS.iloadN X2.here hx rfl (hb hby own_d16_10) rfl ?_
    show Steps p.tables e below (T2.setTop (mkF m 11 #[rv a, rv b, iv 0] [(.int 0), (.ref a)])) _
    refine st7 _ ?_
    show Steps p.tables e below (T7.setTop (mkF m 14 #[rv a, rv b, iv 0] [])) _
    exact X7.returnOut hx Bd.returns (hb hby own_d16_14) hr
  · show own_sbb_Q Z cz a b h0 n0 _ T7.heap _
    rw [e7]
    exact ⟨rfl, N7, kp9, f10⟩
theorem own_vof_ef (m : MethodId) (x : Int32) : entryFrame m #[(.int x)] 1 = mkF m 0 #[iv x] [] := by first | (simp [entryFrame, mkF, argsToLocals, Value.category]; done) | rfl
def own_vof_Q (Z : State) (cz : Int32) (x : Int32) (h0 : Heap) (n0 : Nat) (v : Option Value) (h : Heap) (L : List Loc) : Prop := ∃ y : Addr, v = some (.ref y) ∧ Fr n0 L ∧ Keep h0 h [] ∧ Exa Z h y "java/lang/String"
set_option maxRecDepth 65536 in
set_option maxHeartbeats 40000000 in
theorem own_vof (l : Launch) (Z : State) (a0 : Array Value) (hw : ∀ d ∈ tables_1, d.before a0 Z = true) (ws : List Jvm.Cond) (cz : Int32) (x : Int32) (h0 : Heap) (n0 : Nat) (O0 : Old Z n0 h0) (S_CZ : Sta Z Z.heap "java/lang/String" "COMPACT_STRINGS" "Z" (.int cz)) (hcz : ¬ cz = (0 : Int32)) (hxv : ¬ (255 : Int32) < x) :
    MetFree l (⟨"java/lang/String", "valueOf", "(C)Ljava/lang/String;"⟩ : MethodName) (head1 (Jvm.Cond.code (⟨"java/lang/String", "valueOf", "(C)Ljava/lang/String;"⟩ : MethodName) jdk_42_method_139_code 1 (some (.object "java/lang/String")) :: ws) ({ frames := 2, cells := 2, slots := 5, locals := 40 } : Room)) (fun ar U => ar = #[(.int x)] ∧ Z.Warmed39 U.vm ∧ U.heap = h0) (fun _ _ _ _ _ => True) (fun _ U oc U' => ∃ v L, oc = .returned v ∧ own_vof_Q Z cz x h0 n0 v U'.heap L ∧ FrameEnd U oc U' L ({ frames := 2, cells := 2, slots := 5, locals := 40 } : Room).cells ({ frames := 2, cells := 2, slots := 5, locals := 40 } : Room).slots) := by
  refine MetFree.of_bodySF (plainFor_of_name own_pn1) hisR ?_
  intro p e s m args below meth c s₁ Bd hml0 hP hK
  obtain ⟨rfl, hZ, hh⟩ := hP
  have hx := Bd.exec
  have hby := Bd.bytes
  have hml : c.maxLocals = 1 := hml0
  have hown : s.vm.findClass "java/lang/String" = some m.cls := findClass_of_methodNamed Bd.named
  have hnm := (name_of_methodNamed Bd.named Bd.method).1
  have X0 : Stand p l e ({ frames := 2, cells := 2, slots := 5, locals := 40 } : Room) s m #[(.int x)] below meth c s₁ [] 0 0 := Stand.of_body Bd
  have e0 : s₁.heap = h0 := by rw [← hh, Bd.state]; rfl
  have N0 := Fr.nil n0
  have pre0 : ∀ t, Steps p.tables e below (s₁.setTop (mkF m 0 #[iv x] [])) t → Steps p.tables e below (s₁.setTop (entryFrame m #[(.int x)] 1)) t := fun t k => castTop (own_vof_ef m x) k
  have kp0 := Keep.refl h0 ([] : List Addr)
  obtain ⟨T1, X1, e1, st1⟩ := getS2 X0 hx hZ hown (host := "") (Or.inl (hw _ (own_m 26 rfl))) Via.refl e0 (S_CZ.ext O0.2) (g := (mkF m 0 #[iv x] [])) rfl (hb hby own_d13_0)
  obtain ⟨_, _, ⟨T2, L2, k2, n2⟩, -, X2, ⟨Lc2, hQ2, l2, y2, z2⟩, st2⟩ := Jvm.LawKit.callS X1 hx (y := (⟨"java/lang/StringLatin1", "canEncode", "(C)Z"⟩ : MethodName)) hown (mvT hZ (hw _ (own_m 76 rfl))) (mvT hZ (hw _ (own_m 77 rfl))) (mvT hZ (hw _ (own_m 78 rfl))) (mvT hZ (hw _ (own_m 79 rfl))) (by decide) (backOf (W := 0) (own_cen l Z a0 hw [] cz x h0 n0 O0 S_CZ hcz hxv) hZ (hw _ (own_m 79 rfl)) (hw _ (own_m 78 rfl)) (by decide) (by decide)) (g := (mkF m 7 #[iv x] [(.int x)])) rfl (by rw [hml]; rfl) (argsL := [(.int x)]) (rest := []) (lenOf own_pd4 rfl) rfl (by show 2 * 0 + _ ≤ _; exact Nat.le_of_eq rfl) (hb hby own_d13_7) (fun _ _ => ⟨rfl, e1, (by decide : 0 + 0 ≤ _), (by decide : 0 + 0 ≤ _)⟩)
  dsimp only [Pt.U, Pt.locs, Pt.cells, Pt.slots] at X2 l2 y2 z2 st2 hQ2
  subst l2 y2 z2
  obtain ⟨rfl, N2q, e2⟩ := hQ2
  have N2 := Fr.app N0 N2q
  obtain ⟨T3, h3, X3, e3, E3, A3, D3, -, st3⟩ := newO X2 hx hZ hown (hw _ (own_m 80 rfl)) (hw _ (own_m 5 rfl)) (hw _ (own_m 6 rfl)) e2 (g := (mkF m 13 #[iv x] [])) rfl (hb hby own_d13_13) (by decide) (by decide)
  obtain ⟨b3, g3⟩ : ∃ z, z = h0.size := ⟨_, rfl⟩
  rw [← g3] at A3 D3 st3
  have gg_b3 : n0 ≤ b3 := g3 ▸ own_le O0
  have sz_b3 : h0.size ≤ b3 := g3 ▸ kp0.1
  have O4 := O0.ext E3
  have kp5 := kp0.ext E3
  have F_value_b3 : Fld Z h3 b3 "java/lang/String" "value" "[B" .null := D3 (Or.inr (hw _ (own_m 20 rfl))) (ty := (.array .byte)) (by decide)
  have F_coder_b3 : Fld Z h3 b3 "java/lang/String" "coder" "B" (.int 0) := D3 (Or.inr (hw _ (own_m 21 rfl))) (ty := .byte) (by decide)
  obtain ⟨_, _, ⟨T6, L6, k6, n6⟩, -, X6, ⟨Lc6, hQ6, l6, y6, z6⟩, st6⟩ := Jvm.LawKit.callS X3 hx (y := (⟨"java/lang/StringLatin1", "toBytes", "(C)[B"⟩ : MethodName)) hown (mvT hZ (hw _ (own_m 81 rfl))) (mvT hZ (hw _ (own_m 82 rfl))) (mvT hZ (hw _ (own_m 78 rfl))) (mvT hZ (hw _ (own_m 83 rfl))) (by decide) (backOf (W := 2) (own_tby l Z a0 hw [] cz x h3 n0 O4 S_CZ hcz ) hZ (hw _ (own_m 83 rfl)) (hw _ (own_m 78 rfl)) (by decide) (by decide)) (g := (mkF m 18 #[iv x] [(.int x), (.ref b3), (.ref b3)])) rfl (by rw [hml]; rfl) (argsL := [(.int x)]) (rest := [(.ref b3), (.ref b3)]) (lenOf own_pd5 rfl) rfl (by show 2 * 0 + _ ≤ _; exact Nat.le_of_eq rfl) (hb hby own_d13_18) (fun _ _ => ⟨rfl, e3, (by decide : 1 + 1 ≤ _), (by decide : 4 + 1 ≤ _)⟩)
  dsimp only [Pt.U, Pt.locs, Pt.cells, Pt.slots] at X6 l6 y6 z6 st6 hQ6
  subst l6 y6 z6
  obtain ⟨bb, kb, rfl, N6q, K6, szr, lbb⟩ := hQ6
  have N6 := Fr.app N2 N6q
  have O7 := O4.keep K6 all0
  have kp8 := kp5.trans K6 (all0)
  have f9 := (A3.keep K6)
  have f10 := (F_value_b3.keep K6 nin0)
  have f11 := (F_coder_b3.keep K6 nin0)
  obtain ⟨_, _, ⟨T12, L12, k12, n12⟩, -, X12, ⟨Lc12, hQ12, l12, y12, z12⟩, st12⟩ := X6.specialBack hx (y := (⟨"java/lang/String", "<init>", "([BB)V"⟩ : MethodName)) rfl hown (mvT hZ (hw _ (own_m 84 rfl))) (mvT hZ (hw _ (own_m 85 rfl))) (mvT hZ (hw _ (own_m 86 rfl))) (by decide) (backOf (W := 1) (own_sbb l Z a0 hw [] cz b3 bb T6.heap n0 O7 S_CZ hcz gg_b3 f9 f10 f11) hZ (hw _ (own_m 86 rfl)) (hw _ (own_m 6 rfl)) (by decide) (by decide)) (g := (mkF m 22 #[iv x] [(.int 0), (.ref bb), (.ref b3), (.ref b3)])) rfl (by rw [hml]; rfl) (Steps.refl _) (a := b3) (argsL := [(.ref bb), (.int 0)]) (rest := [(.ref b3)]) (lenOf own_pd6 rfl) rfl (by show 2 * 0 + _ ≤ _; exact Nat.le_of_eq rfl) (hb hby own_d13_22) (fun _ _ => ⟨rfl, rfl, (by decide : 2 + 0 ≤ _), (by decide : 5 + 0 ≤ _)⟩)
  dsimp only [Pt.U, Pt.locs, Pt.cells, Pt.slots] at X12 l12 y12 z12 st12 hQ12
  subst l12 y12 z12
  obtain ⟨rfl, N12q, K12, q13⟩ := hQ12
  have N12 := Fr.app N6 N12q
  have O14 := O7.keep K12 (allS gg_b3 all0)
  have kp15 := kp8.trans K12 ((allS (P := fun x => x ∈ ([] : List Addr) ∨ h0.size ≤ x) (Or.inr sz_b3) all0))
  obtain ⟨fs, hr, hrun, hended, hW, hsame⟩ := X12.leave (v := some (.ref b3)) (fun h => by rw [Bd.returns] at h; cases h)
  refine ⟨_, _, pre0 _ ?_, hrun, hended, _, _, rfl, ?_, ⟨_, rfl⟩, hW, hsame.mono (by decide) (by decide)⟩
  · show Steps p.tables e below (s₁.setTop (mkF m 0 #[iv x] [])) _
    refine st1 _ ?_
    show Steps p.tables e below (T1.setTop (mkF m 3 #[iv x] [(.int cz)])) _
    refine XS.ifNo X1.here hx rfl (hb hby own_d13_3) rfl ((if0 _ _).trans (feq hcz).1) ?_
    show Steps p.tables e below (T1.setTop (mkF m 6 #[iv x] [])) _
    refine XS.iloadN X1.here hx rfl (hb hby own_d13_6) rfl ?_
    show Steps p.tables e below (T1.setTop (mkF m 7 #[iv x] [(.int x)])) _
    refine st2 _ ?_
    show Steps p.tables e below (T2.setTop (mkF m 10 #[iv x] [(.int 1)])) _
    refine XS.ifNo X2.here hx rfl (hb hby own_d13_10) rfl ((if0 _ _).trans (feq (by decide)).1) ?_
    show Steps p.tables e below (T2.setTop (mkF m 13 #[iv x] [])) _
    refine st3 _ ?_
    show Steps p.tables e below (T3.setTop (mkF m 16 #[iv x] [(.ref b3)])) _
    refine XS.dup X3.here hx rfl (hb hby own_d13_16) rfl rfl ?_
    show Steps p.tables e below (T3.setTop (mkF m 17 #[iv x] [(.ref b3), (.ref b3)])) _
    refine XS.iloadN X3.here hx rfl (hb hby own_d13_17) rfl ?_
    show Steps p.tables e below (T3.setTop (mkF m 18 #[iv x] [(.int x), (.ref b3), (.ref b3)])) _
    refine st6 _ ?_
    show Steps p.tables e below (T6.setTop (mkF m 21 #[iv x] [(.ref bb), (.ref b3), (.ref b3)])) _
    refine XS.iconst X6.here hx rfl (hb hby own_d13_21) ?_
    show Steps p.tables e below (T6.setTop (mkF m 22 #[iv x] [(.int 0), (.ref bb), (.ref b3), (.ref b3)])) _
    refine st12.trans ?_
    show Steps p.tables e below (T12.setTop (mkF m 25 #[iv x] [(.ref b3)])) _
    jvm_step X12.here [X12.here.top, hx, (hb hby own_d13_25), X12.method', Bd.returns, Value.isRef, FieldType.isReference]
    first | (intro acts; rw [hr _ acts rfl rfl rfl]) | rw [hr _ _ rfl rfl rfl]
    exact Steps.refl _
  · show own_vof_Q Z cz x h0 n0 _ T12.heap _
    exact ⟨b3, rfl, N12, kp15, q13⟩
theorem own_si0_ef (m : MethodId) (a : Addr) (s_ : Addr) : entryFrame m #[(.ref a), (.ref s_), (.int 0), (.int 0), .null] 6 = mkF m 0 #[rv a, rv s_, iv 0, iv 0, .val .null, .unset] [] := by first | (simp [entryFrame, mkF, argsToLocals, Value.category]; done) | rfl
def own_si0_Q (Z : State) (cz : Int32) (a : Addr) (s_ : Addr) (h0 : Heap) (n0 : Nat) (v : Option Value) (h : Heap) (L : List Loc) : Prop := v = none ∧ Fr n0 L ∧ Keep h0 h [a] ∧ Exa Z h a "java/lang/String"
set_option maxRecDepth 65536 in
set_option maxHeartbeats 40000000 in
theorem own_si0 (l : Launch) (Z : State) (a0 : Array Value) (hw : ∀ d ∈ tables_1, d.before a0 Z = true) (ws : List Jvm.Cond) (cz : Int32) (a : Addr) (s_ : Addr) (h0 : Heap) (n0 : Nat) (O0 : Old Z n0 h0) (S_CZ : Sta Z Z.heap "java/lang/String" "COMPACT_STRINGS" "Z" (.int cz)) (hcz : ¬ cz = (0 : Int32)) (g_a : n0 ≤ a) (E_a : Exa Z h0 a "java/lang/String") (F_value : Fld Z h0 a "java/lang/String" "value" "[B" .null) (F_coder : Fld Z h0 a "java/lang/String" "coder" "B" (.int 0)) :
    MetFree l (⟨"java/lang/String", "<init>", "([CIILjava/lang/Void;)V"⟩ : MethodName) (head1 (Jvm.Cond.code (⟨"java/lang/String", "<init>", "([CIILjava/lang/Void;)V"⟩ : MethodName) jdk_42_method_149_code 6 none :: ws) ({ frames := 1, cells := 4, slots := 8, locals := 12 } : Room)) (fun ar U => ar = #[(.ref a), (.ref s_), (.int 0), (.int 0), .null] ∧ Z.Warmed39 U.vm ∧ U.heap = h0 ∧ CHv Z own_EL U.vm h0) (fun _ _ _ _ _ => True) (fun _ U oc U' => ∃ v L, oc = .returned v ∧ own_si0_Q Z cz a s_ h0 n0 v U'.heap L ∧ CHr Z own_EL U.vm U.heap U'.vm U'.heap ∧ ReturnedEndW U oc U' L ({ frames := 1, cells := 4, slots := 8, locals := 12 } : Room).cells ({ frames := 1, cells := 4, slots := 8, locals := 12 } : Room).slots) := by
  refine MetFree.of_bodySF (plainFor_of_name own_pn1) hisR ?_
  intro p e s m args below meth c s₁ Bd hml0 hP hK
  obtain ⟨rfl, hZ, hh, hC⟩ := hP
  have hx := Bd.exec
  have hZ : Z.Warmed39 (s.setVm s.vm).vm := hZ
  have hby := Bd.bytes
  have hml : c.maxLocals = 6 := hml0
  have hown : (s.setVm s.vm).vm.findClass "java/lang/String" = some m.cls := findClass_of_methodNamed Bd.named
  have hnm := (name_of_methodNamed Bd.named Bd.method).1
  have X0 : Stand p l e ({ frames := 1, cells := 4, slots := 8, locals := 12 } : Room) (s.setVm s.vm) m #[(.ref a), (.ref s_), (.int 0), (.int 0), .null] below meth c s₁ [] 0 0 := Stand.of_body Bd
  have e0 : s₁.heap = h0 := by rw [← hh, Bd.state]; rfl
  have N0 := Fr.nil n0
  have hS0 : s.Since s.vm 0 := (State.WarmedH.refl s).since 0
  have hk0 : 0 ≤ h0.size := Nat.zero_le _
  have hC0 : CHv Z own_EL (s.setVm s.vm).vm h0 := hC
  have cr0 : CHr Z own_EL s.vm h0 (s.setVm s.vm).vm h0 := CHr.refl hC
  have pre0 : ∀ t, Steps p.tables e below (s₁.setTop (mkF m 0 #[rv a, rv s_, iv 0, iv 0, .val .null, .unset] [])) t → Steps p.tables e below (s₁.setTop (entryFrame m #[(.ref a), (.ref s_), (.int 0), (.int 0), .null] 6)) t := fun t k => castTop (own_si0_ef m a s_) k
  have kp0 := Keep.refl h0 ([a] : List Addr)
  obtain ⟨T1, X1, e1, st1⟩ := initO X0 hx hZ hown (hw _ (own_m 15 rfl)) (hw _ (own_m 16 rfl)) (hw _ (own_m 17 rfl)) e0 (g := (mkF m 1 #[rv a, rv s_, iv 0, iv 0, .val .null, .unset] [(.ref a)])) rfl (by rw [hml]; rfl) rfl (hb hby own_d3_1) (by decide) (W := 0) (by show 2 * 0 + _ ≤ _; exact Nat.le_of_eq rfl) (by decide)
  obtain ⟨a2, T2, h2, k2, b2, kb2, X2, e2, E2, hS2, hk2, hZ2, hown2, Ea2, Fc2, Fv2, Vb2, la2, lb2, hR2, hL2, hN2, st2⟩ := ldcCH X1 hx hZ hown (hw _ (own_m 18 rfl)) (own_ws hw) e1 hS0 hk0 (own_ew hw) (own_m 1 rfl) hC0 (vs := []) (z := (0 : Int32)) ⟨by decide, rfl⟩ (by decide) rfl (g := (mkF m 9 #[rv a, rv s_, iv 0, iv 0, .val .null, .unset] [(.ref a)])) rfl (hb hby own_d3_9) (n := 0) (by decide) (by decide) (by decide) (by decide)
  have pre3 : ∀ t, Steps p.tables e below (T2.setTop (mkF m 11 #[rv a, rv s_, iv 0, iv 0, .val .null, .unset] [(.ref a2), (.ref a)])) t → Steps p.tables e below (s₁.setTop (entryFrame m #[(.ref a), (.ref s_), (.int 0), (.int 0), .null] 6)) t := fun t kt => by
    refine pre0 _ ?_
    show Steps p.tables e below (s₁.setTop (mkF m 0 #[rv a, rv s_, iv 0, iv 0, .val .null, .unset] [])) _
    refine XS.aloadN X0.here hx rfl (hb hby own_d3_0) rfl rfl ?_
    show Steps p.tables e below (s₁.setTop (mkF m 1 #[rv a, rv s_, iv 0, iv 0, .val .null, .unset] [(.ref a)])) _
    refine st1 _ ?_
    show Steps p.tables e below (T1.setTop (mkF m 4 #[rv a, rv s_, iv 0, iv 0, .val .null, .unset] [])) _
    refine XS.iloadN X1.here hx rfl (hb hby own_d3_4) rfl ?_
    show Steps p.tables e below (T1.setTop (mkF m 5 #[rv a, rv s_, iv 0, iv 0, .val .null, .unset] [(.int 0)])) _
    refine XS.ifNo X1.here hx rfl (hb hby own_d3_5) rfl ((if0 _ _).trans (teq (by decide)).2) ?_
    show Steps p.tables e below (T1.setTop (mkF m 8 #[rv a, rv s_, iv 0, iv 0, .val .null, .unset] [])) _
    refine XS.aloadN X1.here hx rfl (hb hby own_d3_8) rfl rfl ?_
    show Steps p.tables e below (T1.setTop (mkF m 9 #[rv a, rv s_, iv 0, iv 0, .val .null, .unset] [(.ref a)])) _
    refine st2 _ ?_
    show Steps p.tables e below (T2.setTop (mkF m 11 #[rv a, rv s_, iv 0, iv 0, .val .null, .unset] [(.ref a2), (.ref a)])) _
    exact kt
  have crx4 := hR2
  have cr4 := CHr.trans cr0 crx4
  have hC4 := crx4.1
  have sf4_a := CHr.safe hR2 E_a.lt (own_safe hZ.alike E_a F_value)
  have O5 := O0.ext E2
  have kp6 := kp0.ext E2
  have hZ := hZ2
  have hown := hown2
  obtain ⟨T7, X7, e7, st7⟩ := getF X2 hx hZ hown (host := "") (Or.inl (hw _ (own_m 24 rfl))) Via.refl e2 Fv2 (g := (mkF m 11 #[rv a, rv s_, iv 0, iv 0, .val .null, .unset] [(.ref a2), (.ref a)])) rfl rfl (hb hby own_d3_11)
  have f8 := (F_value.ext E2)
  have f9 := (E_a.ext E2)
  obtain ⟨T10, h10, X10, e10, W10, st10⟩ := putF X7 hx hZ hown (host := "") (Or.inl (hw _ (own_m 24 rfl))) Via.refl e7 f8 f9 (Or.inr ⟨(hw _ (own_m 20 rfl)), rfl, hnm⟩) (hw _ (own_m 5 rfl)) (ty := (.array .byte)) (by decide) rfl rfl (g := (mkF m 14 #[rv a, rv s_, iv 0, iv 0, .val .null, .unset] [(.ref b2), (.ref a)])) rfl rfl (hb hby own_d3_14)
  have Fw10 := f8.same W10
  have crx11 := CHr.wr W10 sf4_a hC4
  have cr11 := CHr.trans cr4 crx11
  have hC11 := crx11.1
  have sf11_a := Safe.wr W10 sf4_a hC4 sf4_a
  have hk11 := Nat.le_trans hk2 (Nat.le_of_eq W10.size.symm)
  have O12 := O5.wr W10 g_a
  have kp13 := kp6.wr W10 (Or.inl (own_m 0 rfl))
  have N10 := Fr.snoc X10 N0 g_a
  obtain ⟨a14, T14, h14, k14, b14, kb14, X14, e14, E14, hS14, hk14, hZ14, hown14, Ea14, Fc14, Fv14, Vb14, la14, lb14, hR14, hL14, hN14, st14⟩ := ldcCH X10 hx hZ hown (hw _ (own_m 18 rfl)) (own_ws hw) e10 hS2 hk11 (own_ew hw) (own_m 1 rfl) hC11 (vs := []) (z := (0 : Int32)) ⟨by decide, rfl⟩ (by decide) rfl (g := (mkF m 18 #[rv a, rv s_, iv 0, iv 0, .val .null, .unset] [(.ref a)])) rfl (hb hby own_d3_18) (n := 0) (by decide) (by decide) (by decide) (by decide)
  have pre15 : ∀ t, Steps p.tables e below (T14.setTop (mkF m 20 #[rv a, rv s_, iv 0, iv 0, .val .null, .unset] [(.ref a14), (.ref a)])) t → Steps p.tables e below (s₁.setTop (entryFrame m #[(.ref a), (.ref s_), (.int 0), (.int 0), .null] 6)) t := fun t kt => by
    refine pre3 _ ?_
    show Steps p.tables e below (T2.setTop (mkF m 11 #[rv a, rv s_, iv 0, iv 0, .val .null, .unset] [(.ref a2), (.ref a)])) _
    refine st7 _ ?_
    show Steps p.tables e below (T7.setTop (mkF m 14 #[rv a, rv s_, iv 0, iv 0, .val .null, .unset] [(.ref b2), (.ref a)])) _
    refine st10 _ ?_
    show Steps p.tables e below (T10.setTop (mkF m 17 #[rv a, rv s_, iv 0, iv 0, .val .null, .unset] [])) _
    refine XS.aloadN X10.here hx rfl (hb hby own_d3_17) rfl rfl ?_
    show Steps p.tables e below (T10.setTop (mkF m 18 #[rv a, rv s_, iv 0, iv 0, .val .null, .unset] [(.ref a)])) _
    refine st14 _ ?_
    show Steps p.tables e below (T14.setTop (mkF m 20 #[rv a, rv s_, iv 0, iv 0, .val .null, .unset] [(.ref a14), (.ref a)])) _
    exact kt
  have crx16 := hR14
  have cr16 := CHr.trans cr11 crx16
  have hC16 := crx16.1
  have f17 := (f9.wr W10)
  have sf16_a := CHr.safe hR14 f17.lt sf11_a
  have O18 := O12.ext E14
  have kp19 := kp13.ext E14
  have hZ := hZ14
  have hown := hown14
  obtain ⟨T20, X20, e20, st20⟩ := getF X14 hx hZ hown (host := "") (Or.inl (hw _ (own_m 25 rfl))) Via.refl e14 Fc14 (g := (mkF m 20 #[rv a, rv s_, iv 0, iv 0, .val .null, .unset] [(.ref a14), (.ref a)])) rfl rfl (hb hby own_d3_20)
  have f21 := (((F_coder.ext E2).other W10 (Or.inr (slot_ne (Or.inr (hw _ (own_m 21 rfl))) (Or.inr (hw _ (own_m 20 rfl))) (by decide) (t := .byte) (t' := (.array .byte)) (by decide) (by decide)))).ext E14)
  have f22 := (f17.ext E14)
  obtain ⟨T23, h23, X23, e23, W23, st23⟩ := putF X20 hx hZ hown (host := "") (Or.inl (hw _ (own_m 25 rfl))) Via.refl e20 f21 f22 (Or.inr ⟨(hw _ (own_m 21 rfl)), rfl, hnm⟩) (hw _ (own_m 5 rfl)) (ty := .byte) (by decide) (by first | rfl | decide) (by first | rfl | decide) (g := (mkF m 23 #[rv a, rv s_, iv 0, iv 0, .val .null, .unset] [(.int 0), (.ref a)])) rfl rfl (hb hby own_d3_23)
  have Fw23 := f21.same W23
  have crx24 := CHr.wr W23 sf16_a hC16
  have cr24 := CHr.trans cr16 crx24
  have hC24 := crx24.1
  have sf24_a := Safe.wr W23 sf16_a hC16 sf16_a
  have hk24 := Nat.le_trans hk14 (Nat.le_of_eq W23.size.symm)
  have O25 := O18.wr W23 g_a
  have kp26 := kp19.wr W23 (Or.inl (own_m 0 rfl))
  have N23 := Fr.snoc X23 N10 g_a
  have f27 := (f22.wr W23)
  have hkz := (e23.symm ▸ hk24)
  obtain ⟨fs, hr, hrun, hended, hRW⟩ := X23.leaveW hS14 hkz (v := none) (fun _ => rfl)
  have hcz := CHr.trans cr24 (CHv.at X23 hZ (own_ew hw) hC24)
  refine ⟨_, _, pre15 _ ?_, hrun, hended, _, _, rfl, ?_, ?_, hRW.1, hRW.2.1, hRW.2.2.1, hRW.2.2.2.mono (by decide) (by decide)⟩
  · show Steps p.tables e below (T14.setTop (mkF m 20 #[rv a, rv s_, iv 0, iv 0, .val .null, .unset] [(.ref a14), (.ref a)])) _
    refine st20 _ ?_
    show Steps p.tables e below (T20.setTop (mkF m 23 #[rv a, rv s_, iv 0, iv 0, .val .null, .unset] [(.int 0), (.ref a)])) _
    refine st23 _ ?_
    show Steps p.tables e below (T23.setTop (mkF m 26 #[rv a, rv s_, iv 0, iv 0, .val .null, .unset] [])) _
    exact X23.returnOut hx Bd.returns (hb hby own_d3_26) hr
  · show own_si0_Q Z cz a s_ h0 n0 _ T23.heap _
    rw [e23]
    exact ⟨rfl, N23, kp26, f27⟩
  · show CHr Z own_EL s.vm s.heap T23.vm T23.heap
    rw [hh, e23]
    exact hcz
theorem own_sc0_ef (m : MethodId) (a : Addr) (s_ : Addr) : entryFrame m #[(.ref a), (.ref s_)] 2 = mkF m 0 #[rv a, rv s_] [] := by first | (simp [entryFrame, mkF, argsToLocals, Value.category]; done) | rfl
def own_sc0_Q (Z : State) (cz : Int32) (a : Addr) (s_ : Addr) (ks : ClassId) (h0 : Heap) (n0 : Nat) (v : Option Value) (h : Heap) (L : List Loc) : Prop := v = none ∧ Fr n0 L ∧ Keep h0 h [a] ∧ Exa Z h a "java/lang/String"
set_option maxRecDepth 65536 in
set_option maxHeartbeats 40000000 in
theorem own_sc0 (l : Launch) (Z : State) (a0 : Array Value) (hw : ∀ d ∈ tables_1, d.before a0 Z = true) (ws : List Jvm.Cond) (cz : Int32) (a : Addr) (s_ : Addr) (ks : ClassId) (h0 : Heap) (n0 : Nat) (O0 : Old Z n0 h0) (S_CZ : Sta Z Z.heap "java/lang/String" "COMPACT_STRINGS" "Z" (.int cz)) (hcz : ¬ cz = (0 : Int32)) (g_a : n0 ≤ a) (E_a : Exa Z h0 a "java/lang/String") (F_value : Fld Z h0 a "java/lang/String" "value" "[B" .null) (F_coder : Fld Z h0 a "java/lang/String" "coder" "B" (.int 0)) (V_s : Arv Z h0 s_ ks .char (0 : Int32) [] (.int 0)) :
    MetFree l (⟨"java/lang/String", "<init>", "([C)V"⟩ : MethodName) (head1 (Jvm.Cond.code (⟨"java/lang/String", "<init>", "([C)V"⟩ : MethodName) jdk_42_method_3_code 2 none :: ws) ({ frames := 2, cells := 4, slots := 8, locals := 30 } : Room)) (fun ar U => ar = #[(.ref a), (.ref s_)] ∧ Z.Warmed39 U.vm ∧ U.heap = h0 ∧ CHv Z own_EL U.vm h0) (fun _ _ _ _ _ => True) (fun _ U oc U' => ∃ v L, oc = .returned v ∧ own_sc0_Q Z cz a s_ ks h0 n0 v U'.heap L ∧ CHr Z own_EL U.vm U.heap U'.vm U'.heap ∧ ReturnedEndW U oc U' L ({ frames := 2, cells := 4, slots := 8, locals := 30 } : Room).cells ({ frames := 2, cells := 4, slots := 8, locals := 30 } : Room).slots) := by
  refine MetFree.of_bodySF (plainFor_of_name own_pn1) hisR ?_
  intro p e s m args below meth c s₁ Bd hml0 hP hK
  obtain ⟨rfl, hZ, hh, hC⟩ := hP
  have hx := Bd.exec
  have hZ : Z.Warmed39 (s.setVm s.vm).vm := hZ
  have hby := Bd.bytes
  have hml : c.maxLocals = 2 := hml0
  have hown : (s.setVm s.vm).vm.findClass "java/lang/String" = some m.cls := findClass_of_methodNamed Bd.named
  have hnm := (name_of_methodNamed Bd.named Bd.method).1
  have X0 : Stand p l e ({ frames := 2, cells := 4, slots := 8, locals := 30 } : Room) (s.setVm s.vm) m #[(.ref a), (.ref s_)] below meth c s₁ [] 0 0 := Stand.of_body Bd
  have e0 : s₁.heap = h0 := by rw [← hh, Bd.state]; rfl
  have N0 := Fr.nil n0
  have hS0 : s.Since s.vm 0 := (State.WarmedH.refl s).since 0
  have hk0 : 0 ≤ h0.size := Nat.zero_le _
  have hC0 : CHv Z own_EL (s.setVm s.vm).vm h0 := hC
  have cr0 : CHr Z own_EL s.vm h0 (s.setVm s.vm).vm h0 := CHr.refl hC
  have pre0 : ∀ t, Steps p.tables e below (s₁.setTop (mkF m 0 #[rv a, rv s_] [])) t → Steps p.tables e below (s₁.setTop (entryFrame m #[(.ref a), (.ref s_)] 2)) t := fun t k => castTop (own_sc0_ef m a s_) k
  have kp0 := Keep.refl h0 ([a] : List Addr)
  obtain ⟨c1, c1A, c1q, c1S, c1N, c1H, c1G⟩ := id V_s
  obtain ⟨_, _, ⟨T2, L2, k2, n2⟩, -, X2, hSq2, hgr2, ⟨Lc2, hQ2, l2, y2, z2, hR2⟩, st2⟩ := X0.specialBackS hx (y := (⟨"java/lang/String", "<init>", "([CIILjava/lang/Void;)V"⟩ : MethodName)) rfl hown (mvT hZ (hw _ (own_m 11 rfl))) (mvT hZ (hw _ (own_m 12 rfl))) (mvT hZ (hw _ (own_m 14 rfl))) (by decide) (backOfSH (W := 0) (own_si0 l Z a0 hw [] cz a s_ h0 n0 O0 S_CZ hcz g_a E_a F_value F_coder) hZ (hw _ (own_m 14 rfl)) (hw _ (own_m 6 rfl)) (by decide) (by decide) (own_ew hw) hC0) (g := (mkF m 6 #[rv a, rv s_] [.null, (.int 0), (.int 0), (.ref s_), (.ref a)])) rfl (by rw [hml]; rfl) (Steps.refl _) (a := a) (argsL := [(.ref s_), (.int 0), (.int 0), .null]) (rest := []) (lenOf own_pd3 rfl) rfl (by show 2 * 0 + _ ≤ _; exact Nat.le_of_eq rfl) (hb hby own_d2_6) (fun _ _ => ⟨rfl, e0, (by decide : 0 + 4 ≤ _), (by decide : 0 + 8 ≤ _)⟩)
  dsimp only [Pt.U, Pt.locs, Pt.cells, Pt.slots] at X2 hSq2 hgr2 l2 y2 z2 st2 hQ2 hR2
  subst l2 y2 z2
  obtain ⟨X2, hS2, hZ2, hown2⟩ := rebS hS0 hk0 X2 hSq2 (by rw [← e0]; exact hgr2) hZ hown
  obtain ⟨rfl, N2q, K2, q3⟩ := hQ2
  have N2 := Fr.app N0 N2q
  have crx4 := hR2
  have cr4 := CHr.trans cr0 crx4
  have hC4 := crx4.1
  have sf4_a := CHr.safe hR2 E_a.lt (own_safe hZ.alike E_a F_value)
  have O5 := O0.keep K2 (allS g_a all0)
  have kp6 := kp0.trans K2 ((allS (P := fun x => x ∈ ([a] : List Addr) ∨ h0.size ≤ x) (Or.inl (own_m 0 rfl)) all0))
  have pre7 : ∀ t, Steps p.tables e below (T2.setTop (mkF m 9 #[rv a, rv s_] [])) t → Steps p.tables e below (s₁.setTop (entryFrame m #[(.ref a), (.ref s_)] 2)) t := fun t kt => by
    refine pre0 _ ?_
    show Steps p.tables e below (s₁.setTop (mkF m 0 #[rv a, rv s_] [])) _
    refine XS.aloadN X0.here hx rfl (hb hby own_d2_0) rfl rfl ?_
    show Steps p.tables e below (s₁.setTop (mkF m 1 #[rv a, rv s_] [(.ref a)])) _
    refine XS.aloadN X0.here hx rfl (hb hby own_d2_1) rfl rfl ?_
    show Steps p.tables e below (s₁.setTop (mkF m 2 #[rv a, rv s_] [(.ref s_), (.ref a)])) _
    refine XS.iconst X0.here hx rfl (hb hby own_d2_2) ?_
    show Steps p.tables e below (s₁.setTop (mkF m 3 #[rv a, rv s_] [(.int 0), (.ref s_), (.ref a)])) _
    refine XS.aloadN X0.here hx rfl (hb hby own_d2_3) rfl rfl ?_
    show Steps p.tables e below (s₁.setTop (mkF m 4 #[rv a, rv s_] [(.ref s_), (.int 0), (.ref s_), (.ref a)])) _
    refine X0.arraylength hx (by rw [e0]; exact c1A.1) (State.isArrayOf_alike hZ.alike c1A.2.1) (g := (mkF m 4 #[rv a, rv s_] [(.ref s_), (.int 0), (.ref s_), (.ref a)])) rfl rfl (hb hby own_d2_4) _ ?_
    rw [len_of c1S c1N]
    show Steps p.tables e below (s₁.setTop (mkF m 5 #[rv a, rv s_] [(.int 0), (.int 0), (.ref s_), (.ref a)])) _
    refine XS.aconstNull X0.here hx rfl (hb hby own_d2_5) ?_
    show Steps p.tables e below (s₁.setTop (mkF m 6 #[rv a, rv s_] [.null, (.int 0), (.int 0), (.ref s_), (.ref a)])) _
    refine st2.trans ?_
    show Steps p.tables e below (T2.setTop (mkF m 9 #[rv a, rv s_] [])) _
    exact kt
  have hZ := hZ2
  have hown := hown2
  obtain ⟨K2q, gK2⟩ : ∃ z, z = T2.heap.size := ⟨_, rfl⟩
  rw [← gK2] at hS2
  have hkq2 : K2q ≤ T2.heap.size := Nat.le_of_eq gK2
  have hkz := hkq2
  obtain ⟨fs, hr, hrun, hended, hRW⟩ := X2.leaveW hS2 hkz (v := none) (fun _ => rfl)
  have hcz := CHr.trans cr4 (CHv.at X2 hZ (own_ew hw) hC4)
  refine ⟨_, _, pre7 _ ?_, hrun, hended, _, _, rfl, ?_, ?_, hRW.1, hRW.2.1, hRW.2.2.1, hRW.2.2.2.mono (by decide) (by decide)⟩
  · show Steps p.tables e below (T2.setTop (mkF m 9 #[rv a, rv s_] [])) _
    exact X2.returnOut hx Bd.returns (hb hby own_d2_9) hr
  · show own_sc0_Q Z cz a s_ ks h0 n0 _ T2.heap _
    exact ⟨rfl, N2, kp6, q3⟩
  · show CHr Z own_EL s.vm s.heap T2.vm T2.heap
    rw [hh]
    exact hcz
theorem own_drawn_ef (m : MethodId) (pz : Int32) : entryFrame m #[(.int pz)] 4 = mkF m 0 #[iv pz, .unset, .unset, .unset] [] := by first | (simp [entryFrame, mkF, argsToLocals, Value.category]; done) | rfl
def own_drawn_Q (Z : State) (cz : Int32) (pz : Int32) (h0 : Heap) (n0 : Nat) (v : Option Value) (h : Heap) (L : List Loc) : Prop := ∃ y : Addr, v = some (.ref y) ∧ Fr n0 L ∧ Keep h0 h [] ∧ Exa Z h y "java/lang/String"
set_option maxRecDepth 65536 in
set_option maxHeartbeats 40000000 in
theorem own_drawn (l : Launch) (Z : State) (a0 : Array Value) (hw : ∀ d ∈ tables_1, d.before a0 Z = true) (ws : List Jvm.Cond) (cz : Int32) (pz : Int32) (h0 : Heap) (n0 : Nat) (O0 : Old Z n0 h0) (S_CZ : Sta Z Z.heap "java/lang/String" "COMPACT_STRINGS" "Z" (.int cz)) (hcz : ¬ cz = (0 : Int32)) :
    MetFree l (⟨"com/example/vaxwire/vaxwire/model/PatientIdentifierComponentsPinLaw", "drawn", "(I)Ljava/lang/String;"⟩ : MethodName) (head1 (Jvm.Cond.code (⟨"com/example/vaxwire/vaxwire/model/PatientIdentifierComponentsPinLaw", "drawn", "(I)Ljava/lang/String;"⟩ : MethodName) method_2_code 4 (some (.object "java/lang/String")) :: ws) ({ frames := 4, cells := 6, slots := 12, locals := 90 } : Room)) (fun ar U => ar = #[(.int pz)] ∧ Z.Warmed39 U.vm ∧ U.heap = h0 ∧ CHv Z own_EL U.vm h0) (fun _ _ _ _ _ => True) (fun _ U oc U' => ∃ v L, oc = .returned v ∧ own_drawn_Q Z cz pz h0 n0 v U'.heap L ∧ CHr Z own_EL U.vm U.heap U'.vm U'.heap ∧ ReturnedEndW U oc U' L ({ frames := 4, cells := 6, slots := 12, locals := 90 } : Room).cells ({ frames := 4, cells := 6, slots := 12, locals := 90 } : Room).slots) := by
  refine MetFree.of_bodySF (plainFor_of_name own_pn3) hisR ?_
  intro p e s m args below meth c s₁ Bd hml0 hP hK
  obtain ⟨rfl, hZ, hh, hC⟩ := hP
  have hx := Bd.exec
  have hZ : Z.Warmed39 (s.setVm s.vm).vm := hZ
  have hby := Bd.bytes
  have hml : c.maxLocals = 4 := hml0
  have hown : (s.setVm s.vm).vm.findClass "com/example/vaxwire/vaxwire/model/PatientIdentifierComponentsPinLaw" = some m.cls := findClass_of_methodNamed Bd.named
  have hnm := (name_of_methodNamed Bd.named Bd.method).1
  have X0 : Stand p l e ({ frames := 4, cells := 6, slots := 12, locals := 90 } : Room) (s.setVm s.vm) m #[(.int pz)] below meth c s₁ [] 0 0 := Stand.of_body Bd
  have e0 : s₁.heap = h0 := by rw [← hh, Bd.state]; rfl
  have N0 := Fr.nil n0
  have hS0 : s.Since s.vm 0 := (State.WarmedH.refl s).since 0
  have hk0 : 0 ≤ h0.size := Nat.zero_le _
  have hC0 : CHv Z own_EL (s.setVm s.vm).vm h0 := hC
  have cr0 : CHr Z own_EL s.vm h0 (s.setVm s.vm).vm h0 := CHr.refl hC
  have pre0 : ∀ t, Steps p.tables e below (s₁.setTop (mkF m 0 #[iv pz, .unset, .unset, .unset] [])) t → Steps p.tables e below (s₁.setTop (entryFrame m #[(.int pz)] 4)) t := fun t k => castTop (own_drawn_ef m pz) k
  have kp0 := Keep.refl h0 ([] : List Addr)
  have pre2 : ∀ t, Steps p.tables e below (s₁.setTop (mkF m 23 #[iv pz, .val (.int (pz &&& (3 : Int32))), .val (.int ((((pz.toUInt32 >>> ((2 : Int32) &&& 31).toUInt32).toInt32) &&& (255 : Int32)).toUInt32.toUInt16.toUInt32.toInt32)), .val (.int ((((pz.toUInt32 >>> ((10 : Int32) &&& 31).toUInt32).toInt32) &&& (255 : Int32)).toUInt32.toUInt16.toUInt32.toInt32))] [])) t → Steps p.tables e below (s₁.setTop (entryFrame m #[(.int pz)] 4)) t := fun t kt => by
    refine pre0 _ ?_
    show Steps p.tables e below (s₁.setTop (mkF m 0 #[iv pz, .unset, .unset, .unset] [])) _
    refine XS.iloadN X0.here hx rfl (hb hby own_d1_0) rfl ?_
    show Steps p.tables e below (s₁.setTop (mkF m 1 #[iv pz, .unset, .unset, .unset] [(.int pz)])) _
    refine XS.iconst X0.here hx rfl (hb hby own_d1_1) ?_
    show Steps p.tables e below (s₁.setTop (mkF m 2 #[iv pz, .unset, .unset, .unset] [(.int 3), (.int pz)])) _
    refine XS.iand X0.here hx rfl (hb hby own_d1_2) rfl ?_
    show Steps p.tables e below (s₁.setTop (mkF m 3 #[iv pz, .unset, .unset, .unset] [(.int (pz &&& (3 : Int32)))])) _
    refine XS.istoreN X0.here hx rfl (hb hby own_d1_3) rfl (l' := #[iv pz, .val (.int (pz &&& (3 : Int32))), .unset, .unset]) rfl ?_
    show Steps p.tables e below (s₁.setTop (mkF m 4 #[iv pz, .val (.int (pz &&& (3 : Int32))), .unset, .unset] [])) _
    refine XS.iloadN X0.here hx rfl (hb hby own_d1_4) rfl ?_
    show Steps p.tables e below (s₁.setTop (mkF m 5 #[iv pz, .val (.int (pz &&& (3 : Int32))), .unset, .unset] [(.int pz)])) _
    refine XS.iconst X0.here hx rfl (hb hby own_d1_5) ?_
    show Steps p.tables e below (s₁.setTop (mkF m 6 #[iv pz, .val (.int (pz &&& (3 : Int32))), .unset, .unset] [(.int 2), (.int pz)])) _
    refine XS.iushr X0.here hx rfl (hb hby own_d1_6) rfl ?_
    show Steps p.tables e below (s₁.setTop (mkF m 7 #[iv pz, .val (.int (pz &&& (3 : Int32))), .unset, .unset] [(.int ((pz.toUInt32 >>> ((2 : Int32) &&& 31).toUInt32).toInt32))])) _
    refine XS.sipush X0.here hx rfl (hb hby own_d1_7) ?_
    show Steps p.tables e below (s₁.setTop (mkF m 10 #[iv pz, .val (.int (pz &&& (3 : Int32))), .unset, .unset] [(.int 255), (.int ((pz.toUInt32 >>> ((2 : Int32) &&& 31).toUInt32).toInt32))])) _
    refine XS.iand X0.here hx rfl (hb hby own_d1_10) rfl ?_
    show Steps p.tables e below (s₁.setTop (mkF m 11 #[iv pz, .val (.int (pz &&& (3 : Int32))), .unset, .unset] [(.int (((pz.toUInt32 >>> ((2 : Int32) &&& 31).toUInt32).toInt32) &&& (255 : Int32)))])) _
    refine XS.i2c X0.here hx rfl (hb hby own_d1_11) rfl ?_
    show Steps p.tables e below (s₁.setTop (mkF m 12 #[iv pz, .val (.int (pz &&& (3 : Int32))), .unset, .unset] [(.int ((((pz.toUInt32 >>> ((2 : Int32) &&& 31).toUInt32).toInt32) &&& (255 : Int32)).toUInt32.toUInt16.toUInt32.toInt32))])) _
    refine XS.istoreN X0.here hx rfl (hb hby own_d1_12) rfl (l' := #[iv pz, .val (.int (pz &&& (3 : Int32))), .val (.int ((((pz.toUInt32 >>> ((2 : Int32) &&& 31).toUInt32).toInt32) &&& (255 : Int32)).toUInt32.toUInt16.toUInt32.toInt32)), .unset]) rfl ?_
    show Steps p.tables e below (s₁.setTop (mkF m 13 #[iv pz, .val (.int (pz &&& (3 : Int32))), .val (.int ((((pz.toUInt32 >>> ((2 : Int32) &&& 31).toUInt32).toInt32) &&& (255 : Int32)).toUInt32.toUInt16.toUInt32.toInt32)), .unset] [])) _
    refine XS.iloadN X0.here hx rfl (hb hby own_d1_13) rfl ?_
    show Steps p.tables e below (s₁.setTop (mkF m 14 #[iv pz, .val (.int (pz &&& (3 : Int32))), .val (.int ((((pz.toUInt32 >>> ((2 : Int32) &&& 31).toUInt32).toInt32) &&& (255 : Int32)).toUInt32.toUInt16.toUInt32.toInt32)), .unset] [(.int pz)])) _
    refine XS.bipush X0.here hx rfl (hb hby own_d1_14) ?_
    show Steps p.tables e below (s₁.setTop (mkF m 16 #[iv pz, .val (.int (pz &&& (3 : Int32))), .val (.int ((((pz.toUInt32 >>> ((2 : Int32) &&& 31).toUInt32).toInt32) &&& (255 : Int32)).toUInt32.toUInt16.toUInt32.toInt32)), .unset] [(.int 10), (.int pz)])) _
    refine XS.iushr X0.here hx rfl (hb hby own_d1_16) rfl ?_
    show Steps p.tables e below (s₁.setTop (mkF m 17 #[iv pz, .val (.int (pz &&& (3 : Int32))), .val (.int ((((pz.toUInt32 >>> ((2 : Int32) &&& 31).toUInt32).toInt32) &&& (255 : Int32)).toUInt32.toUInt16.toUInt32.toInt32)), .unset] [(.int ((pz.toUInt32 >>> ((10 : Int32) &&& 31).toUInt32).toInt32))])) _
    refine XS.sipush X0.here hx rfl (hb hby own_d1_17) ?_
    show Steps p.tables e below (s₁.setTop (mkF m 20 #[iv pz, .val (.int (pz &&& (3 : Int32))), .val (.int ((((pz.toUInt32 >>> ((2 : Int32) &&& 31).toUInt32).toInt32) &&& (255 : Int32)).toUInt32.toUInt16.toUInt32.toInt32)), .unset] [(.int 255), (.int ((pz.toUInt32 >>> ((10 : Int32) &&& 31).toUInt32).toInt32))])) _
    refine XS.iand X0.here hx rfl (hb hby own_d1_20) rfl ?_
    show Steps p.tables e below (s₁.setTop (mkF m 21 #[iv pz, .val (.int (pz &&& (3 : Int32))), .val (.int ((((pz.toUInt32 >>> ((2 : Int32) &&& 31).toUInt32).toInt32) &&& (255 : Int32)).toUInt32.toUInt16.toUInt32.toInt32)), .unset] [(.int (((pz.toUInt32 >>> ((10 : Int32) &&& 31).toUInt32).toInt32) &&& (255 : Int32)))])) _
    refine XS.i2c X0.here hx rfl (hb hby own_d1_21) rfl ?_
    show Steps p.tables e below (s₁.setTop (mkF m 22 #[iv pz, .val (.int (pz &&& (3 : Int32))), .val (.int ((((pz.toUInt32 >>> ((2 : Int32) &&& 31).toUInt32).toInt32) &&& (255 : Int32)).toUInt32.toUInt16.toUInt32.toInt32)), .unset] [(.int ((((pz.toUInt32 >>> ((10 : Int32) &&& 31).toUInt32).toInt32) &&& (255 : Int32)).toUInt32.toUInt16.toUInt32.toInt32))])) _
    refine XS.istoreN X0.here hx rfl (hb hby own_d1_22) rfl (l' := #[iv pz, .val (.int (pz &&& (3 : Int32))), .val (.int ((((pz.toUInt32 >>> ((2 : Int32) &&& 31).toUInt32).toInt32) &&& (255 : Int32)).toUInt32.toUInt16.toUInt32.toInt32)), .val (.int ((((pz.toUInt32 >>> ((10 : Int32) &&& 31).toUInt32).toInt32) &&& (255 : Int32)).toUInt32.toUInt16.toUInt32.toInt32))]) rfl ?_
    show Steps p.tables e below (s₁.setTop (mkF m 23 #[iv pz, .val (.int (pz &&& (3 : Int32))), .val (.int ((((pz.toUInt32 >>> ((2 : Int32) &&& 31).toUInt32).toInt32) &&& (255 : Int32)).toUInt32.toUInt16.toUInt32.toInt32)), .val (.int ((((pz.toUInt32 >>> ((10 : Int32) &&& 31).toUInt32).toInt32) &&& (255 : Int32)).toUInt32.toUInt16.toUInt32.toInt32))] [])) _
    exact kt
  by_cases hc1 : (pz &&& (3 : Int32)) = (0 : Int32)
  · obtain ⟨T3, h3, X3, e3, E3, A3, D3, -, st3⟩ := newO X0 hx hZ hown (hw _ (own_m 4 rfl)) (hw _ (own_m 5 rfl)) (hw _ (own_m 6 rfl)) e0 (g := (mkF m 27 #[iv pz, .val (.int (pz &&& (3 : Int32))), .val (.int ((((pz.toUInt32 >>> ((2 : Int32) &&& 31).toUInt32).toInt32) &&& (255 : Int32)).toUInt32.toUInt16.toUInt32.toInt32)), .val (.int ((((pz.toUInt32 >>> ((10 : Int32) &&& 31).toUInt32).toInt32) &&& (255 : Int32)).toUInt32.toUInt16.toUInt32.toInt32))] [])) rfl (hb hby own_d1_27) (by decide) (by decide)
    obtain ⟨b3, g3⟩ : ∃ z, z = h0.size := ⟨_, rfl⟩
    rw [← g3] at A3 D3 st3
    have gg_b3 : n0 ≤ b3 := g3 ▸ own_le O0
    have sz_b3 : h0.size ≤ b3 := g3 ▸ kp0.1
    have crx4 := CHr.ext E3 hC0
    have cr4 := CHr.trans cr0 crx4
    have hC4 := crx4.1
    have sf4_b3 := Safe.ext E3 hC0 (Safe.new (Nat.le_of_eq g3.symm))
    have hk4 := Nat.le_trans hk0 E3.1
    have O5 := O0.ext E3
    have kp6 := kp0.ext E3
    have F_value_b3 : Fld Z h3 b3 "java/lang/String" "value" "[B" .null := D3 (Or.inr (hw _ (own_m 20 rfl))) (ty := (.array .byte)) (by decide)
    have F_coder_b3 : Fld Z h3 b3 "java/lang/String" "coder" "B" (.int 0) := D3 (Or.inr (hw _ (own_m 21 rfl))) (ty := .byte) (by decide)
    obtain ⟨T7, h7, k7, X7, e7, E7, A7, st7⟩ := newP X3 hx hZ (hw _ (own_m 7 rfl)) e3 (g := (mkF m 32 #[iv pz, .val (.int (pz &&& (3 : Int32))), .val (.int ((((pz.toUInt32 >>> ((2 : Int32) &&& 31).toUInt32).toInt32) &&& (255 : Int32)).toUInt32.toUInt16.toUInt32.toInt32)), .val (.int ((((pz.toUInt32 >>> ((10 : Int32) &&& 31).toUInt32).toInt32) &&& (255 : Int32)).toUInt32.toUInt16.toUInt32.toInt32))] [(.int 0), (.ref b3), (.ref b3)])) rfl (hb hby own_d1_32) rfl (by decide) (cap := 0) (by decide) (by decide) (by decide) (by decide)
    obtain ⟨b7, g7⟩ : ∃ z, z = h3.size := ⟨_, rfl⟩
    rw [← g7] at A7  st7
    have ne_b3_b7 : b3 ≠ b7 := Nat.ne_of_lt (g7 ▸ A3.lt)
    have gg_b7 : n0 ≤ b7 := g7 ▸ own_le O5
    have sz_b7 : h0.size ≤ b7 := g7 ▸ kp6.1
    have crx8 := CHr.ext E7 hC4
    have cr8 := CHr.trans cr4 crx8
    have hC8 := crx8.1
    have sf8_b3 := Safe.ext E7 hC4 sf4_b3
    have sf8_b7 := Safe.ext E7 hC4 (Safe.new (Nat.le_of_eq g7.symm))
    have hk8 := Nat.le_trans hk4 E7.1
    have O9 := O5.ext E7
    have kp10 := kp6.ext E7
    have V_b7 : Arv Z h7 b7 k7 .char (0 : Int32) [] (.int 0) := (Arv.new A7 (by decide)).pad (pad_rep [] (.int 0) 0)
    have f11 := (A3.ext E7)
    have f12 := (F_value_b3.ext E7)
    have f13 := (F_coder_b3.ext E7)
    obtain ⟨_, _, ⟨T14, L14, k14, n14⟩, -, X14, hSq14, hgr14, ⟨Lc14, hQ14, l14, y14, z14, hR14⟩, st14⟩ := X7.specialBackS hx (y := (⟨"java/lang/String", "<init>", "([C)V"⟩ : MethodName)) rfl hown (mvT hZ (hw _ (own_m 8 rfl))) (mvT hZ (hw _ (own_m 9 rfl))) (mvT hZ (hw _ (own_m 10 rfl))) (by decide) (backOfSH (W := 1) (own_sc0 l Z a0 hw [] cz b3 b7 k7 h7 n0 O9 S_CZ hcz gg_b3 f11 f12 f13 V_b7) hZ (hw _ (own_m 10 rfl)) (hw _ (own_m 6 rfl)) (by decide) (by decide) (own_ew hw) hC8) (g := (mkF m 34 #[iv pz, .val (.int (pz &&& (3 : Int32))), .val (.int ((((pz.toUInt32 >>> ((2 : Int32) &&& 31).toUInt32).toInt32) &&& (255 : Int32)).toUInt32.toUInt16.toUInt32.toInt32)), .val (.int ((((pz.toUInt32 >>> ((10 : Int32) &&& 31).toUInt32).toInt32) &&& (255 : Int32)).toUInt32.toUInt16.toUInt32.toInt32))] [(.ref b7), (.ref b3), (.ref b3)])) rfl (by rw [hml]; rfl) (Steps.refl _) (a := b3) (argsL := [(.ref b7)]) (rest := [(.ref b3)]) (lenOf own_pd7 rfl) rfl (by show 2 * 0 + _ ≤ _; exact Nat.le_of_eq rfl) (hb hby own_d1_34) (fun _ _ => ⟨rfl, e7, (by decide : 2 + 4 ≤ _), (by decide : 4 + 8 ≤ _)⟩)
    dsimp only [Pt.U, Pt.locs, Pt.cells, Pt.slots] at X14 hSq14 hgr14 l14 y14 z14 st14 hQ14 hR14
    subst l14 y14 z14
    obtain ⟨X14, hS14, hZ14, hown14⟩ := rebS hS0 hk8 X14 hSq14 (by rw [← e7]; exact hgr14) hZ hown
    obtain ⟨rfl, N14q, K14, q15⟩ := hQ14
    have N14 := Fr.app N0 N14q
    have crx16 := hR14
    have cr16 := CHr.trans cr8 crx16
    have hC16 := crx16.1
    have sf16_b3 := CHr.safe hR14 f11.lt sf8_b3
    have sf16_b7 := CHr.safe hR14 V_b7.lt sf8_b7
    have O17 := O9.keep K14 (allS gg_b3 all0)
    have kp18 := kp10.trans K14 ((allS (P := fun x => x ∈ ([] : List Addr) ∨ h0.size ≤ x) (Or.inr sz_b3) all0))
    have pre19 : ∀ t, Steps p.tables e below (T14.setTop (mkF m 37 #[iv pz, .val (.int (pz &&& (3 : Int32))), .val (.int ((((pz.toUInt32 >>> ((2 : Int32) &&& 31).toUInt32).toInt32) &&& (255 : Int32)).toUInt32.toUInt16.toUInt32.toInt32)), .val (.int ((((pz.toUInt32 >>> ((10 : Int32) &&& 31).toUInt32).toInt32) &&& (255 : Int32)).toUInt32.toUInt16.toUInt32.toInt32))] [(.ref b3)])) t → Steps p.tables e below (s₁.setTop (entryFrame m #[(.int pz)] 4)) t := fun t kt => by
      refine pre2 _ ?_
      show Steps p.tables e below (s₁.setTop (mkF m 23 #[iv pz, .val (.int (pz &&& (3 : Int32))), .val (.int ((((pz.toUInt32 >>> ((2 : Int32) &&& 31).toUInt32).toInt32) &&& (255 : Int32)).toUInt32.toUInt16.toUInt32.toInt32)), .val (.int ((((pz.toUInt32 >>> ((10 : Int32) &&& 31).toUInt32).toInt32) &&& (255 : Int32)).toUInt32.toUInt16.toUInt32.toInt32))] [])) _
      refine XS.iloadN X0.here hx rfl (hb hby own_d1_23) rfl ?_
      show Steps p.tables e below (s₁.setTop (mkF m 24 #[iv pz, .val (.int (pz &&& (3 : Int32))), .val (.int ((((pz.toUInt32 >>> ((2 : Int32) &&& 31).toUInt32).toInt32) &&& (255 : Int32)).toUInt32.toUInt16.toUInt32.toInt32)), .val (.int ((((pz.toUInt32 >>> ((10 : Int32) &&& 31).toUInt32).toInt32) &&& (255 : Int32)).toUInt32.toUInt16.toUInt32.toInt32))] [(.int (pz &&& (3 : Int32)))])) _
      refine XS.ifNo X0.here hx rfl (hb hby own_d1_24) rfl ((if0 _ _).trans (teq hc1).2) ?_
      show Steps p.tables e below (s₁.setTop (mkF m 27 #[iv pz, .val (.int (pz &&& (3 : Int32))), .val (.int ((((pz.toUInt32 >>> ((2 : Int32) &&& 31).toUInt32).toInt32) &&& (255 : Int32)).toUInt32.toUInt16.toUInt32.toInt32)), .val (.int ((((pz.toUInt32 >>> ((10 : Int32) &&& 31).toUInt32).toInt32) &&& (255 : Int32)).toUInt32.toUInt16.toUInt32.toInt32))] [])) _
      refine st3 _ ?_
      show Steps p.tables e below (T3.setTop (mkF m 30 #[iv pz, .val (.int (pz &&& (3 : Int32))), .val (.int ((((pz.toUInt32 >>> ((2 : Int32) &&& 31).toUInt32).toInt32) &&& (255 : Int32)).toUInt32.toUInt16.toUInt32.toInt32)), .val (.int ((((pz.toUInt32 >>> ((10 : Int32) &&& 31).toUInt32).toInt32) &&& (255 : Int32)).toUInt32.toUInt16.toUInt32.toInt32))] [(.ref b3)])) _
      refine XS.dup X3.here hx rfl (hb hby own_d1_30) rfl rfl ?_
      show Steps p.tables e below (T3.setTop (mkF m 31 #[iv pz, .val (.int (pz &&& (3 : Int32))), .val (.int ((((pz.toUInt32 >>> ((2 : Int32) &&& 31).toUInt32).toInt32) &&& (255 : Int32)).toUInt32.toUInt16.toUInt32.toInt32)), .val (.int ((((pz.toUInt32 >>> ((10 : Int32) &&& 31).toUInt32).toInt32) &&& (255 : Int32)).toUInt32.toUInt16.toUInt32.toInt32))] [(.ref b3), (.ref b3)])) _
      refine XS.iconst X3.here hx rfl (hb hby own_d1_31) ?_
      show Steps p.tables e below (T3.setTop (mkF m 32 #[iv pz, .val (.int (pz &&& (3 : Int32))), .val (.int ((((pz.toUInt32 >>> ((2 : Int32) &&& 31).toUInt32).toInt32) &&& (255 : Int32)).toUInt32.toUInt16.toUInt32.toInt32)), .val (.int ((((pz.toUInt32 >>> ((10 : Int32) &&& 31).toUInt32).toInt32) &&& (255 : Int32)).toUInt32.toUInt16.toUInt32.toInt32))] [(.int 0), (.ref b3), (.ref b3)])) _
      refine st7 _ ?_
      show Steps p.tables e below (T7.setTop (mkF m 34 #[iv pz, .val (.int (pz &&& (3 : Int32))), .val (.int ((((pz.toUInt32 >>> ((2 : Int32) &&& 31).toUInt32).toInt32) &&& (255 : Int32)).toUInt32.toUInt16.toUInt32.toInt32)), .val (.int ((((pz.toUInt32 >>> ((10 : Int32) &&& 31).toUInt32).toInt32) &&& (255 : Int32)).toUInt32.toUInt16.toUInt32.toInt32))] [(.ref b7), (.ref b3), (.ref b3)])) _
      refine st14.trans ?_
      show Steps p.tables e below (T14.setTop (mkF m 37 #[iv pz, .val (.int (pz &&& (3 : Int32))), .val (.int ((((pz.toUInt32 >>> ((2 : Int32) &&& 31).toUInt32).toInt32) &&& (255 : Int32)).toUInt32.toUInt16.toUInt32.toInt32)), .val (.int ((((pz.toUInt32 >>> ((10 : Int32) &&& 31).toUInt32).toInt32) &&& (255 : Int32)).toUInt32.toUInt16.toUInt32.toInt32))] [(.ref b3)])) _
      exact kt
    have hZ := hZ14
    have hown := hown14
    obtain ⟨K14q, gK14⟩ : ∃ z, z = T14.heap.size := ⟨_, rfl⟩
    rw [← gK14] at hS14
    have hkq14 : K14q ≤ T14.heap.size := Nat.le_of_eq gK14
    have hkz := hkq14
    obtain ⟨fs, hr, hrun, hended, hRW⟩ := X14.leaveW hS14 hkz (v := some (.ref b3)) (fun h => by rw [Bd.returns] at h; cases h)
    have hcz := CHr.trans cr16 (CHv.at X14 hZ (own_ew hw) hC16)
    refine ⟨_, _, pre19 _ ?_, hrun, hended, _, _, rfl, ?_, ?_, hRW.1, hRW.2.1, hRW.2.2.1, hRW.2.2.2.mono (by decide) (by decide)⟩
    · show Steps p.tables e below (T14.setTop (mkF m 37 #[iv pz, .val (.int (pz &&& (3 : Int32))), .val (.int ((((pz.toUInt32 >>> ((2 : Int32) &&& 31).toUInt32).toInt32) &&& (255 : Int32)).toUInt32.toUInt16.toUInt32.toInt32)), .val (.int ((((pz.toUInt32 >>> ((10 : Int32) &&& 31).toUInt32).toInt32) &&& (255 : Int32)).toUInt32.toUInt16.toUInt32.toInt32))] [(.ref b3)])) _
      jvm_step X14.here [X14.here.top, hx, (hb hby own_d1_37), X14.method', Bd.returns, Value.isRef, FieldType.isReference]
      first | (intro acts; rw [hr _ acts rfl rfl rfl]) | rw [hr _ _ rfl rfl rfl]
      exact Steps.refl _
    · show own_drawn_Q Z cz pz h0 n0 _ T14.heap _
      exact ⟨b3, rfl, N14, kp18, q15⟩
    · show CHr Z own_EL s.vm s.heap T14.vm T14.heap
      rw [hh]
      exact hcz
  · have pre21 : ∀ t, Steps p.tables e below (s₁.setTop (mkF m 39 #[iv pz, .val (.int (pz &&& (3 : Int32))), .val (.int ((((pz.toUInt32 >>> ((2 : Int32) &&& 31).toUInt32).toInt32) &&& (255 : Int32)).toUInt32.toUInt16.toUInt32.toInt32)), .val (.int ((((pz.toUInt32 >>> ((10 : Int32) &&& 31).toUInt32).toInt32) &&& (255 : Int32)).toUInt32.toUInt16.toUInt32.toInt32))] [(.int (pz &&& (3 : Int32)))])) t → Steps p.tables e below (s₁.setTop (entryFrame m #[(.int pz)] 4)) t := fun t kt => by
      refine pre2 _ ?_
      show Steps p.tables e below (s₁.setTop (mkF m 23 #[iv pz, .val (.int (pz &&& (3 : Int32))), .val (.int ((((pz.toUInt32 >>> ((2 : Int32) &&& 31).toUInt32).toInt32) &&& (255 : Int32)).toUInt32.toUInt16.toUInt32.toInt32)), .val (.int ((((pz.toUInt32 >>> ((10 : Int32) &&& 31).toUInt32).toInt32) &&& (255 : Int32)).toUInt32.toUInt16.toUInt32.toInt32))] [])) _
      refine XS.iloadN X0.here hx rfl (hb hby own_d1_23) rfl ?_
      show Steps p.tables e below (s₁.setTop (mkF m 24 #[iv pz, .val (.int (pz &&& (3 : Int32))), .val (.int ((((pz.toUInt32 >>> ((2 : Int32) &&& 31).toUInt32).toInt32) &&& (255 : Int32)).toUInt32.toUInt16.toUInt32.toInt32)), .val (.int ((((pz.toUInt32 >>> ((10 : Int32) &&& 31).toUInt32).toInt32) &&& (255 : Int32)).toUInt32.toUInt16.toUInt32.toInt32))] [(.int (pz &&& (3 : Int32)))])) _
      refine XS.ifYes X0.here hx rfl (pc0 := 24) (pc' := 38) rfl (hb hby own_d1_24) rfl ((if0 _ _).trans (feq hc1).2) (by decide) (by decide) ?_
      show Steps p.tables e below (s₁.setTop (mkF m 38 #[iv pz, .val (.int (pz &&& (3 : Int32))), .val (.int ((((pz.toUInt32 >>> ((2 : Int32) &&& 31).toUInt32).toInt32) &&& (255 : Int32)).toUInt32.toUInt16.toUInt32.toInt32)), .val (.int ((((pz.toUInt32 >>> ((10 : Int32) &&& 31).toUInt32).toInt32) &&& (255 : Int32)).toUInt32.toUInt16.toUInt32.toInt32))] [])) _
      refine XS.iloadN X0.here hx rfl (hb hby own_d1_38) rfl ?_
      show Steps p.tables e below (s₁.setTop (mkF m 39 #[iv pz, .val (.int (pz &&& (3 : Int32))), .val (.int ((((pz.toUInt32 >>> ((2 : Int32) &&& 31).toUInt32).toInt32) &&& (255 : Int32)).toUInt32.toUInt16.toUInt32.toInt32)), .val (.int ((((pz.toUInt32 >>> ((10 : Int32) &&& 31).toUInt32).toInt32) &&& (255 : Int32)).toUInt32.toUInt16.toUInt32.toInt32))] [(.int (pz &&& (3 : Int32)))])) _
      exact kt
    by_cases hc20 : (pz &&& (3 : Int32)) = (1 : Int32)
    · obtain ⟨_, _, ⟨T22, L22, k22, n22⟩, -, X22, ⟨Lc22, hQ22, l22, y22, z22⟩, st22⟩ := Jvm.LawKit.callS X0 hx (y := (⟨"java/lang/String", "valueOf", "(C)Ljava/lang/String;"⟩ : MethodName)) hown (mvT hZ (hw _ (own_m 73 rfl))) (mvT hZ (hw _ (own_m 74 rfl))) (mvT hZ (hw _ (own_m 6 rfl))) (mvT hZ (hw _ (own_m 75 rfl))) (by decide) (backOf (W := 0) (own_vof l Z a0 hw [] cz ((((pz.toUInt32 >>> ((2 : Int32) &&& 31).toUInt32).toInt32) &&& (255 : Int32)).toUInt32.toUInt16.toUInt32.toInt32) h0 n0 O0 S_CZ hcz (own_c _)) hZ (hw _ (own_m 75 rfl)) (hw _ (own_m 6 rfl)) (by decide) (by decide)) (g := (mkF m 44 #[iv pz, .val (.int (pz &&& (3 : Int32))), .val (.int ((((pz.toUInt32 >>> ((2 : Int32) &&& 31).toUInt32).toInt32) &&& (255 : Int32)).toUInt32.toUInt16.toUInt32.toInt32)), .val (.int ((((pz.toUInt32 >>> ((10 : Int32) &&& 31).toUInt32).toInt32) &&& (255 : Int32)).toUInt32.toUInt16.toUInt32.toInt32))] [(.int ((((pz.toUInt32 >>> ((2 : Int32) &&& 31).toUInt32).toInt32) &&& (255 : Int32)).toUInt32.toUInt16.toUInt32.toInt32))])) rfl (by rw [hml]; rfl) (argsL := [(.int ((((pz.toUInt32 >>> ((2 : Int32) &&& 31).toUInt32).toInt32) &&& (255 : Int32)).toUInt32.toUInt16.toUInt32.toInt32))]) (rest := []) (lenOf own_pd8 rfl) rfl (by show 2 * 0 + _ ≤ _; exact Nat.le_of_eq rfl) (hb hby own_d1_44) (fun _ _ => ⟨rfl, e0, (by decide : 0 + 2 ≤ _), (by decide : 0 + 5 ≤ _)⟩)
      dsimp only [Pt.U, Pt.locs, Pt.cells, Pt.slots] at X22 l22 y22 z22 st22 hQ22
      subst l22 y22 z22
      obtain ⟨yy, rfl, N22q, K22, Ey⟩ := hQ22
      have N22 := Fr.app N0 N22q
      have crx23 := CHr.keep K22 sf0 hC0
      have cr23 := CHr.trans cr0 crx23
      have hC23 := crx23.1
      have hk23 := Nat.le_trans hk0 K22.1
      have O24 := O0.keep K22 all0
      have kp25 := kp0.trans K22 (all0)
      have hkz := hk23
      obtain ⟨fs, hr, hrun, hended, hRW⟩ := X22.leaveW hS0 hkz (v := some (.ref yy)) (fun h => by rw [Bd.returns] at h; cases h)
      have hcz := CHr.trans cr23 (CHv.at X22 hZ (own_ew hw) hC23)
      refine ⟨_, _, pre21 _ ?_, hrun, hended, _, _, rfl, ?_, ?_, hRW.1, hRW.2.1, hRW.2.2.1, hRW.2.2.2.mono (by decide) (by decide)⟩
      · show Steps p.tables e below (s₁.setTop (mkF m 39 #[iv pz, .val (.int (pz &&& (3 : Int32))), .val (.int ((((pz.toUInt32 >>> ((2 : Int32) &&& 31).toUInt32).toInt32) &&& (255 : Int32)).toUInt32.toUInt16.toUInt32.toInt32)), .val (.int ((((pz.toUInt32 >>> ((10 : Int32) &&& 31).toUInt32).toInt32) &&& (255 : Int32)).toUInt32.toUInt16.toUInt32.toInt32))] [(.int (pz &&& (3 : Int32)))])) _
        refine XS.iconst X0.here hx rfl (hb hby own_d1_39) ?_
        show Steps p.tables e below (s₁.setTop (mkF m 40 #[iv pz, .val (.int (pz &&& (3 : Int32))), .val (.int ((((pz.toUInt32 >>> ((2 : Int32) &&& 31).toUInt32).toInt32) &&& (255 : Int32)).toUInt32.toUInt16.toUInt32.toInt32)), .val (.int ((((pz.toUInt32 >>> ((10 : Int32) &&& 31).toUInt32).toInt32) &&& (255 : Int32)).toUInt32.toUInt16.toUInt32.toInt32))] [(.int 1), (.int (pz &&& (3 : Int32)))])) _
        refine XS.icmpNo X0.here hx rfl (hb hby own_d1_40) rfl (teq hc20).2 ?_
        show Steps p.tables e below (s₁.setTop (mkF m 43 #[iv pz, .val (.int (pz &&& (3 : Int32))), .val (.int ((((pz.toUInt32 >>> ((2 : Int32) &&& 31).toUInt32).toInt32) &&& (255 : Int32)).toUInt32.toUInt16.toUInt32.toInt32)), .val (.int ((((pz.toUInt32 >>> ((10 : Int32) &&& 31).toUInt32).toInt32) &&& (255 : Int32)).toUInt32.toUInt16.toUInt32.toInt32))] [])) _
        refine XS.iloadN X0.here hx rfl (hb hby own_d1_43) rfl ?_
        show Steps p.tables e below (s₁.setTop (mkF m 44 #[iv pz, .val (.int (pz &&& (3 : Int32))), .val (.int ((((pz.toUInt32 >>> ((2 : Int32) &&& 31).toUInt32).toInt32) &&& (255 : Int32)).toUInt32.toUInt16.toUInt32.toInt32)), .val (.int ((((pz.toUInt32 >>> ((10 : Int32) &&& 31).toUInt32).toInt32) &&& (255 : Int32)).toUInt32.toUInt16.toUInt32.toInt32))] [(.int ((((pz.toUInt32 >>> ((2 : Int32) &&& 31).toUInt32).toInt32) &&& (255 : Int32)).toUInt32.toUInt16.toUInt32.toInt32))])) _
        refine st22 _ ?_
        show Steps p.tables e below (T22.setTop (mkF m 47 #[iv pz, .val (.int (pz &&& (3 : Int32))), .val (.int ((((pz.toUInt32 >>> ((2 : Int32) &&& 31).toUInt32).toInt32) &&& (255 : Int32)).toUInt32.toUInt16.toUInt32.toInt32)), .val (.int ((((pz.toUInt32 >>> ((10 : Int32) &&& 31).toUInt32).toInt32) &&& (255 : Int32)).toUInt32.toUInt16.toUInt32.toInt32))] [(.ref yy)])) _
        jvm_step X22.here [X22.here.top, hx, (hb hby own_d1_47), X22.method', Bd.returns, Value.isRef, FieldType.isReference]
        first | (intro acts; rw [hr _ acts rfl rfl rfl]) | rw [hr _ _ rfl rfl rfl]
        exact Steps.refl _
      · show own_drawn_Q Z cz pz h0 n0 _ T22.heap _
        exact ⟨yy, rfl, N22, kp25, Ey⟩
      · show CHr Z own_EL s.vm s.heap T22.vm T22.heap
        rw [hh]
        exact hcz
    · obtain ⟨T26, h26, X26, e26, E26, A26, D26, -, st26⟩ := newO X0 hx hZ hown (hw _ (own_m 4 rfl)) (hw _ (own_m 5 rfl)) (hw _ (own_m 6 rfl)) e0 (g := (mkF m 48 #[iv pz, .val (.int (pz &&& (3 : Int32))), .val (.int ((((pz.toUInt32 >>> ((2 : Int32) &&& 31).toUInt32).toInt32) &&& (255 : Int32)).toUInt32.toUInt16.toUInt32.toInt32)), .val (.int ((((pz.toUInt32 >>> ((10 : Int32) &&& 31).toUInt32).toInt32) &&& (255 : Int32)).toUInt32.toUInt16.toUInt32.toInt32))] [])) rfl (hb hby own_d1_48) (by decide) (by decide)
      obtain ⟨b26, g26⟩ : ∃ z, z = h0.size := ⟨_, rfl⟩
      rw [← g26] at A26 D26 st26
      have gg_b26 : n0 ≤ b26 := g26 ▸ own_le O0
      have sz_b26 : h0.size ≤ b26 := g26 ▸ kp0.1
      have crx27 := CHr.ext E26 hC0
      have cr27 := CHr.trans cr0 crx27
      have hC27 := crx27.1
      have sf27_b26 := Safe.ext E26 hC0 (Safe.new (Nat.le_of_eq g26.symm))
      have hk27 := Nat.le_trans hk0 E26.1
      have O28 := O0.ext E26
      have kp29 := kp0.ext E26
      have F_value_b26 : Fld Z h26 b26 "java/lang/String" "value" "[B" .null := D26 (Or.inr (hw _ (own_m 20 rfl))) (ty := (.array .byte)) (by decide)
      have F_coder_b26 : Fld Z h26 b26 "java/lang/String" "coder" "B" (.int 0) := D26 (Or.inr (hw _ (own_m 21 rfl))) (ty := .byte) (by decide)
      obtain ⟨T30, h30, k30, X30, e30, E30, A30, st30⟩ := newP X26 hx hZ (hw _ (own_m 7 rfl)) e26 (g := (mkF m 53 #[iv pz, .val (.int (pz &&& (3 : Int32))), .val (.int ((((pz.toUInt32 >>> ((2 : Int32) &&& 31).toUInt32).toInt32) &&& (255 : Int32)).toUInt32.toUInt16.toUInt32.toInt32)), .val (.int ((((pz.toUInt32 >>> ((10 : Int32) &&& 31).toUInt32).toInt32) &&& (255 : Int32)).toUInt32.toUInt16.toUInt32.toInt32))] [(.int 2), (.ref b26), (.ref b26)])) rfl (hb hby own_d1_53) rfl (by decide) (cap := 2) (by decide) (by decide) (by decide) (by decide)
      obtain ⟨b30, g30⟩ : ∃ z, z = h26.size := ⟨_, rfl⟩
      rw [← g30] at A30  st30
      have ne_b26_b30 : b26 ≠ b30 := Nat.ne_of_lt (g30 ▸ A26.lt)
      have gg_b30 : n0 ≤ b30 := g30 ▸ own_le O28
      have sz_b30 : h0.size ≤ b30 := g30 ▸ kp29.1
      have crx31 := CHr.ext E30 hC27
      have cr31 := CHr.trans cr27 crx31
      have hC31 := crx31.1
      have sf31_b26 := Safe.ext E30 hC27 sf27_b26
      have sf31_b30 := Safe.ext E30 hC27 (Safe.new (Nat.le_of_eq g30.symm))
      have hk31 := Nat.le_trans hk27 E30.1
      have O32 := O28.ext E30
      have kp33 := kp29.ext E30
      have V_b30 : Arv Z h30 b30 k30 .char (2 : Int32) [(.int 0), (.int 0)] (.int 0) := (Arv.new A30 (by decide)).pad (pad_rep [] (.int 0) 2)
      obtain ⟨c34, c34A, c34q, c34S, c34N, c34H, c34G⟩ := id V_b30
      have c34in : ¬ ((0 : Int32) < 0 ∨ c34.slots.size ≤ ((0 : Int32)).toNatClampNeg) := inb_of c34S ⟨by decide, by decide⟩
      obtain ⟨T35, h35, X35, e35, W35, st35⟩ := stC X30 hx hZ e30 c34A (j := (0 : Int32)) c34in (g := (mkF m 58 #[iv pz, .val (.int (pz &&& (3 : Int32))), .val (.int ((((pz.toUInt32 >>> ((2 : Int32) &&& 31).toUInt32).toInt32) &&& (255 : Int32)).toUInt32.toUInt16.toUInt32.toInt32)), .val (.int ((((pz.toUInt32 >>> ((10 : Int32) &&& 31).toUInt32).toInt32) &&& (255 : Int32)).toUInt32.toUInt16.toUInt32.toInt32))] [(.int ((((pz.toUInt32 >>> ((2 : Int32) &&& 31).toUInt32).toInt32) &&& (255 : Int32)).toUInt32.toUInt16.toUInt32.toInt32)), (.int 0), (.ref b30), (.ref b30), (.ref b26), (.ref b26)])) rfl rfl (hb hby own_d1_58)
      have V35 : Arv Z h35 b30 k30 .char (2 : Int32) [(.int (nar .char ((((pz.toUInt32 >>> ((2 : Int32) &&& 31).toUInt32).toInt32) &&& (255 : Int32)).toUInt32.toUInt16.toUInt32.toInt32))), (.int 0)] (.int 0) := Arv.set c34A c34q c34S c34N c34H c34G (fits_nar_char _) W35 0 rfl (Nat.le_of_ble_eq_true rfl)
      have crx36 := CHr.wr W35 sf31_b30 hC31
      have cr36 := CHr.trans cr31 crx36
      have hC36 := crx36.1
      have sf36_b26 := Safe.wr W35 sf31_b30 hC31 sf31_b26
      have sf36_b30 := Safe.wr W35 sf31_b30 hC31 sf31_b30
      have hk36 := Nat.le_trans hk31 (Nat.le_of_eq W35.size.symm)
      have O37 := O32.wr W35 gg_b30
      have kp38 := kp33.wr W35 (Or.inr sz_b30)
      have N35 := Fr.snoc X35 N0 gg_b30
      obtain ⟨c39, c39A, c39q, c39S, c39N, c39H, c39G⟩ := id V35
      have c39in : ¬ ((1 : Int32) < 0 ∨ c39.slots.size ≤ ((1 : Int32)).toNatClampNeg) := inb_of c39S ⟨by decide, by decide⟩
      obtain ⟨T40, h40, X40, e40, W40, st40⟩ := stC X35 hx hZ e35 c39A (j := (1 : Int32)) c39in (g := (mkF m 62 #[iv pz, .val (.int (pz &&& (3 : Int32))), .val (.int ((((pz.toUInt32 >>> ((2 : Int32) &&& 31).toUInt32).toInt32) &&& (255 : Int32)).toUInt32.toUInt16.toUInt32.toInt32)), .val (.int ((((pz.toUInt32 >>> ((10 : Int32) &&& 31).toUInt32).toInt32) &&& (255 : Int32)).toUInt32.toUInt16.toUInt32.toInt32))] [(.int ((((pz.toUInt32 >>> ((10 : Int32) &&& 31).toUInt32).toInt32) &&& (255 : Int32)).toUInt32.toUInt16.toUInt32.toInt32)), (.int 1), (.ref b30), (.ref b30), (.ref b26), (.ref b26)])) rfl rfl (hb hby own_d1_62)
      have V40 : Arv Z h40 b30 k30 .char (2 : Int32) [(.int (nar .char ((((pz.toUInt32 >>> ((2 : Int32) &&& 31).toUInt32).toInt32) &&& (255 : Int32)).toUInt32.toUInt16.toUInt32.toInt32))), (.int (nar .char ((((pz.toUInt32 >>> ((10 : Int32) &&& 31).toUInt32).toInt32) &&& (255 : Int32)).toUInt32.toUInt16.toUInt32.toInt32)))] (.int 0) := Arv.set c39A c39q c39S c39N c39H c39G (fits_nar_char _) W40 1 rfl (Nat.le_of_ble_eq_true rfl)
      have crx41 := CHr.wr W40 sf36_b30 hC36
      have cr41 := CHr.trans cr36 crx41
      have hC41 := crx41.1
      have sf41_b26 := Safe.wr W40 sf36_b30 hC36 sf36_b26
      have sf41_b30 := Safe.wr W40 sf36_b30 hC36 sf36_b30
      have hk41 := Nat.le_trans hk36 (Nat.le_of_eq W40.size.symm)
      have O42 := O37.wr W40 gg_b30
      have kp43 := kp38.wr W40 (Or.inr sz_b30)
      have N40 := Fr.snoc X40 N35 gg_b30
      have f44 := (((A26.ext E30).wr W35).wr W40)
      have f45 := (((F_value_b26.ext E30).other W35 (Or.inl ne_b26_b30)).other W40 (Or.inl ne_b26_b30))
      have f46 := (((F_coder_b26.ext E30).other W35 (Or.inl ne_b26_b30)).other W40 (Or.inl ne_b26_b30))
      obtain ⟨_, _, ⟨T47, L47, k47, n47⟩, -, X47, ⟨Lc47, hQ47, l47, y47, z47⟩, st47⟩ := X40.specialBack hx (y := (⟨"java/lang/String", "<init>", "([C)V"⟩ : MethodName)) rfl hown (mvT hZ (hw _ (own_m 8 rfl))) (mvT hZ (hw _ (own_m 9 rfl))) (mvT hZ (hw _ (own_m 10 rfl))) (by decide) (backOf (W := 1) (own_sc2 l Z a0 hw [] cz b26 b30 k30 ((((pz.toUInt32 >>> ((2 : Int32) &&& 31).toUInt32).toInt32) &&& (255 : Int32)).toUInt32.toUInt16.toUInt32.toInt32) ((((pz.toUInt32 >>> ((10 : Int32) &&& 31).toUInt32).toInt32) &&& (255 : Int32)).toUInt32.toUInt16.toUInt32.toInt32) h40 n0 O42 S_CZ hcz gg_b26 f44 f45 f46 V40 (own_nc _) (own_nc _)) hZ (hw _ (own_m 10 rfl)) (hw _ (own_m 6 rfl)) (by decide) (by decide)) (g := (mkF m 63 #[iv pz, .val (.int (pz &&& (3 : Int32))), .val (.int ((((pz.toUInt32 >>> ((2 : Int32) &&& 31).toUInt32).toInt32) &&& (255 : Int32)).toUInt32.toUInt16.toUInt32.toInt32)), .val (.int ((((pz.toUInt32 >>> ((10 : Int32) &&& 31).toUInt32).toInt32) &&& (255 : Int32)).toUInt32.toUInt16.toUInt32.toInt32))] [(.ref b30), (.ref b26), (.ref b26)])) rfl (by rw [hml]; rfl) (Steps.refl _) (a := b26) (argsL := [(.ref b30)]) (rest := [(.ref b26)]) (lenOf own_pd7 rfl) rfl (by show 2 * 0 + _ ≤ _; exact Nat.le_of_eq rfl) (hb hby own_d1_63) (fun _ _ => ⟨rfl, e40, (by decide : 2 + 1 ≤ _), (by decide : 6 + 2 ≤ _)⟩)
      dsimp only [Pt.U, Pt.locs, Pt.cells, Pt.slots] at X47 l47 y47 z47 st47 hQ47
      subst l47 y47 z47
      obtain ⟨rfl, N47q, K47, q48⟩ := hQ47
      have N47 := Fr.app N40 N47q
      have crx49 := CHr.keep K47 (sfS sf41_b26 sf0) hC41
      have cr49 := CHr.trans cr41 crx49
      have hC49 := crx49.1
      have sf49_b26 := Safe.keep K47 (sfS sf41_b26 sf0) hC41 sf41_b26
      have sf49_b30 := Safe.keep K47 (sfS sf41_b26 sf0) hC41 sf41_b30
      have hk49 := Nat.le_trans hk41 K47.1
      have O50 := O42.keep K47 (allS gg_b26 all0)
      have kp51 := kp43.trans K47 ((allS (P := fun x => x ∈ ([] : List Addr) ∨ h0.size ≤ x) (Or.inr sz_b26) all0))
      have hkz := hk49
      obtain ⟨fs, hr, hrun, hended, hRW⟩ := X47.leaveW hS0 hkz (v := some (.ref b26)) (fun h => by rw [Bd.returns] at h; cases h)
      have hcz := CHr.trans cr49 (CHv.at X47 hZ (own_ew hw) hC49)
      refine ⟨_, _, pre21 _ ?_, hrun, hended, _, _, rfl, ?_, ?_, hRW.1, hRW.2.1, hRW.2.2.1, hRW.2.2.2.mono (by decide) (by decide)⟩
      · show Steps p.tables e below (s₁.setTop (mkF m 39 #[iv pz, .val (.int (pz &&& (3 : Int32))), .val (.int ((((pz.toUInt32 >>> ((2 : Int32) &&& 31).toUInt32).toInt32) &&& (255 : Int32)).toUInt32.toUInt16.toUInt32.toInt32)), .val (.int ((((pz.toUInt32 >>> ((10 : Int32) &&& 31).toUInt32).toInt32) &&& (255 : Int32)).toUInt32.toUInt16.toUInt32.toInt32))] [(.int (pz &&& (3 : Int32)))])) _
        refine XS.iconst X0.here hx rfl (hb hby own_d1_39) ?_
        show Steps p.tables e below (s₁.setTop (mkF m 40 #[iv pz, .val (.int (pz &&& (3 : Int32))), .val (.int ((((pz.toUInt32 >>> ((2 : Int32) &&& 31).toUInt32).toInt32) &&& (255 : Int32)).toUInt32.toUInt16.toUInt32.toInt32)), .val (.int ((((pz.toUInt32 >>> ((10 : Int32) &&& 31).toUInt32).toInt32) &&& (255 : Int32)).toUInt32.toUInt16.toUInt32.toInt32))] [(.int 1), (.int (pz &&& (3 : Int32)))])) _
        refine XS.icmpYes X0.here hx rfl (pc0 := 40) (pc' := 48) rfl (hb hby own_d1_40) rfl (feq hc20).2 (by decide) (by decide) ?_
        show Steps p.tables e below (s₁.setTop (mkF m 48 #[iv pz, .val (.int (pz &&& (3 : Int32))), .val (.int ((((pz.toUInt32 >>> ((2 : Int32) &&& 31).toUInt32).toInt32) &&& (255 : Int32)).toUInt32.toUInt16.toUInt32.toInt32)), .val (.int ((((pz.toUInt32 >>> ((10 : Int32) &&& 31).toUInt32).toInt32) &&& (255 : Int32)).toUInt32.toUInt16.toUInt32.toInt32))] [])) _
        refine st26 _ ?_
        show Steps p.tables e below (T26.setTop (mkF m 51 #[iv pz, .val (.int (pz &&& (3 : Int32))), .val (.int ((((pz.toUInt32 >>> ((2 : Int32) &&& 31).toUInt32).toInt32) &&& (255 : Int32)).toUInt32.toUInt16.toUInt32.toInt32)), .val (.int ((((pz.toUInt32 >>> ((10 : Int32) &&& 31).toUInt32).toInt32) &&& (255 : Int32)).toUInt32.toUInt16.toUInt32.toInt32))] [(.ref b26)])) _
        refine XS.dup X26.here hx rfl (hb hby own_d1_51) rfl rfl ?_
        show Steps p.tables e below (T26.setTop (mkF m 52 #[iv pz, .val (.int (pz &&& (3 : Int32))), .val (.int ((((pz.toUInt32 >>> ((2 : Int32) &&& 31).toUInt32).toInt32) &&& (255 : Int32)).toUInt32.toUInt16.toUInt32.toInt32)), .val (.int ((((pz.toUInt32 >>> ((10 : Int32) &&& 31).toUInt32).toInt32) &&& (255 : Int32)).toUInt32.toUInt16.toUInt32.toInt32))] [(.ref b26), (.ref b26)])) _
        refine XS.iconst X26.here hx rfl (hb hby own_d1_52) ?_
        show Steps p.tables e below (T26.setTop (mkF m 53 #[iv pz, .val (.int (pz &&& (3 : Int32))), .val (.int ((((pz.toUInt32 >>> ((2 : Int32) &&& 31).toUInt32).toInt32) &&& (255 : Int32)).toUInt32.toUInt16.toUInt32.toInt32)), .val (.int ((((pz.toUInt32 >>> ((10 : Int32) &&& 31).toUInt32).toInt32) &&& (255 : Int32)).toUInt32.toUInt16.toUInt32.toInt32))] [(.int 2), (.ref b26), (.ref b26)])) _
        refine st30 _ ?_
        show Steps p.tables e below (T30.setTop (mkF m 55 #[iv pz, .val (.int (pz &&& (3 : Int32))), .val (.int ((((pz.toUInt32 >>> ((2 : Int32) &&& 31).toUInt32).toInt32) &&& (255 : Int32)).toUInt32.toUInt16.toUInt32.toInt32)), .val (.int ((((pz.toUInt32 >>> ((10 : Int32) &&& 31).toUInt32).toInt32) &&& (255 : Int32)).toUInt32.toUInt16.toUInt32.toInt32))] [(.ref b30), (.ref b26), (.ref b26)])) _
        refine XS.dup X30.here hx rfl (hb hby own_d1_55) rfl rfl ?_
        show Steps p.tables e below (T30.setTop (mkF m 56 #[iv pz, .val (.int (pz &&& (3 : Int32))), .val (.int ((((pz.toUInt32 >>> ((2 : Int32) &&& 31).toUInt32).toInt32) &&& (255 : Int32)).toUInt32.toUInt16.toUInt32.toInt32)), .val (.int ((((pz.toUInt32 >>> ((10 : Int32) &&& 31).toUInt32).toInt32) &&& (255 : Int32)).toUInt32.toUInt16.toUInt32.toInt32))] [(.ref b30), (.ref b30), (.ref b26), (.ref b26)])) _
        refine XS.iconst X30.here hx rfl (hb hby own_d1_56) ?_
        show Steps p.tables e below (T30.setTop (mkF m 57 #[iv pz, .val (.int (pz &&& (3 : Int32))), .val (.int ((((pz.toUInt32 >>> ((2 : Int32) &&& 31).toUInt32).toInt32) &&& (255 : Int32)).toUInt32.toUInt16.toUInt32.toInt32)), .val (.int ((((pz.toUInt32 >>> ((10 : Int32) &&& 31).toUInt32).toInt32) &&& (255 : Int32)).toUInt32.toUInt16.toUInt32.toInt32))] [(.int 0), (.ref b30), (.ref b30), (.ref b26), (.ref b26)])) _
        refine XS.iloadN X30.here hx rfl (hb hby own_d1_57) rfl ?_
        show Steps p.tables e below (T30.setTop (mkF m 58 #[iv pz, .val (.int (pz &&& (3 : Int32))), .val (.int ((((pz.toUInt32 >>> ((2 : Int32) &&& 31).toUInt32).toInt32) &&& (255 : Int32)).toUInt32.toUInt16.toUInt32.toInt32)), .val (.int ((((pz.toUInt32 >>> ((10 : Int32) &&& 31).toUInt32).toInt32) &&& (255 : Int32)).toUInt32.toUInt16.toUInt32.toInt32))] [(.int ((((pz.toUInt32 >>> ((2 : Int32) &&& 31).toUInt32).toInt32) &&& (255 : Int32)).toUInt32.toUInt16.toUInt32.toInt32)), (.int 0), (.ref b30), (.ref b30), (.ref b26), (.ref b26)])) _
        refine st35 _ ?_
        show Steps p.tables e below (T35.setTop (mkF m 59 #[iv pz, .val (.int (pz &&& (3 : Int32))), .val (.int ((((pz.toUInt32 >>> ((2 : Int32) &&& 31).toUInt32).toInt32) &&& (255 : Int32)).toUInt32.toUInt16.toUInt32.toInt32)), .val (.int ((((pz.toUInt32 >>> ((10 : Int32) &&& 31).toUInt32).toInt32) &&& (255 : Int32)).toUInt32.toUInt16.toUInt32.toInt32))] [(.ref b30), (.ref b26), (.ref b26)])) _
        refine XS.dup X35.here hx rfl (hb hby own_d1_59) rfl rfl ?_
        show Steps p.tables e below (T35.setTop (mkF m 60 #[iv pz, .val (.int (pz &&& (3 : Int32))), .val (.int ((((pz.toUInt32 >>> ((2 : Int32) &&& 31).toUInt32).toInt32) &&& (255 : Int32)).toUInt32.toUInt16.toUInt32.toInt32)), .val (.int ((((pz.toUInt32 >>> ((10 : Int32) &&& 31).toUInt32).toInt32) &&& (255 : Int32)).toUInt32.toUInt16.toUInt32.toInt32))] [(.ref b30), (.ref b30), (.ref b26), (.ref b26)])) _
        refine XS.iconst X35.here hx rfl (hb hby own_d1_60) ?_
        show Steps p.tables e below (T35.setTop (mkF m 61 #[iv pz, .val (.int (pz &&& (3 : Int32))), .val (.int ((((pz.toUInt32 >>> ((2 : Int32) &&& 31).toUInt32).toInt32) &&& (255 : Int32)).toUInt32.toUInt16.toUInt32.toInt32)), .val (.int ((((pz.toUInt32 >>> ((10 : Int32) &&& 31).toUInt32).toInt32) &&& (255 : Int32)).toUInt32.toUInt16.toUInt32.toInt32))] [(.int 1), (.ref b30), (.ref b30), (.ref b26), (.ref b26)])) _
        refine XS.iloadN X35.here hx rfl (hb hby own_d1_61) rfl ?_
        show Steps p.tables e below (T35.setTop (mkF m 62 #[iv pz, .val (.int (pz &&& (3 : Int32))), .val (.int ((((pz.toUInt32 >>> ((2 : Int32) &&& 31).toUInt32).toInt32) &&& (255 : Int32)).toUInt32.toUInt16.toUInt32.toInt32)), .val (.int ((((pz.toUInt32 >>> ((10 : Int32) &&& 31).toUInt32).toInt32) &&& (255 : Int32)).toUInt32.toUInt16.toUInt32.toInt32))] [(.int ((((pz.toUInt32 >>> ((10 : Int32) &&& 31).toUInt32).toInt32) &&& (255 : Int32)).toUInt32.toUInt16.toUInt32.toInt32)), (.int 1), (.ref b30), (.ref b30), (.ref b26), (.ref b26)])) _
        refine st40 _ ?_
        show Steps p.tables e below (T40.setTop (mkF m 63 #[iv pz, .val (.int (pz &&& (3 : Int32))), .val (.int ((((pz.toUInt32 >>> ((2 : Int32) &&& 31).toUInt32).toInt32) &&& (255 : Int32)).toUInt32.toUInt16.toUInt32.toInt32)), .val (.int ((((pz.toUInt32 >>> ((10 : Int32) &&& 31).toUInt32).toInt32) &&& (255 : Int32)).toUInt32.toUInt16.toUInt32.toInt32))] [(.ref b30), (.ref b26), (.ref b26)])) _
        refine st47.trans ?_
        show Steps p.tables e below (T47.setTop (mkF m 66 #[iv pz, .val (.int (pz &&& (3 : Int32))), .val (.int ((((pz.toUInt32 >>> ((2 : Int32) &&& 31).toUInt32).toInt32) &&& (255 : Int32)).toUInt32.toUInt16.toUInt32.toInt32)), .val (.int ((((pz.toUInt32 >>> ((10 : Int32) &&& 31).toUInt32).toInt32) &&& (255 : Int32)).toUInt32.toUInt16.toUInt32.toInt32))] [(.ref b26)])) _
        jvm_step X47.here [X47.here.top, hx, (hb hby own_d1_66), X47.method', Bd.returns, Value.isRef, FieldType.isReference]
        first | (intro acts; rw [hr _ acts rfl rfl rfl]) | rw [hr _ _ rfl rfl rfl]
        exact Steps.refl _
      · show own_drawn_Q Z cz pz h0 n0 _ T47.heap _
        exact ⟨b26, rfl, N47, kp51, q48⟩
      · show CHr Z own_EL s.vm s.heap T47.vm T47.heap
        rw [hh]
        exact hcz
theorem own_rec_ef (m : MethodId) (a : Addr) : entryFrame m #[(.ref a)] 1 = mkF m 0 #[rv a] [] := by first | (simp [entryFrame, mkF, argsToLocals, Value.category]; done) | rfl
def own_rec_Q (Z : State) (cz : Int32) (a : Addr) (h0 : Heap) (n0 : Nat) (v : Option Value) (h : Heap) (L : List Loc) : Prop := v = none ∧ Fr n0 L ∧ h = h0
set_option maxRecDepth 65536 in
set_option maxHeartbeats 40000000 in
theorem own_rec (l : Launch) (Z : State) (a0 : Array Value) (hw : ∀ d ∈ tables_1, d.before a0 Z = true) (ws : List Jvm.Cond) (cz : Int32) (a : Addr) (h0 : Heap) (n0 : Nat) (O0 : Old Z n0 h0) (S_CZ : Sta Z Z.heap "java/lang/String" "COMPACT_STRINGS" "Z" (.int cz)) (hcz : ¬ cz = (0 : Int32)) :
    MetFree l (⟨"java/lang/Record", "<init>", "()V"⟩ : MethodName) (head1 (Jvm.Cond.code (⟨"java/lang/Record", "<init>", "()V"⟩ : MethodName) jdk_30_method_1_code 1 none :: ws) ({ frames := 1, cells := 0, slots := 0, locals := 12 } : Room)) (fun ar U => ar = #[(.ref a)] ∧ Z.Warmed39 U.vm ∧ U.heap = h0) (fun _ _ _ _ _ => True) (fun _ U oc U' => ∃ v L, oc = .returned v ∧ own_rec_Q Z cz a h0 n0 v U'.heap L ∧ FrameEnd U oc U' L ({ frames := 1, cells := 0, slots := 0, locals := 12 } : Room).cells ({ frames := 1, cells := 0, slots := 0, locals := 12 } : Room).slots) := by
  refine MetFree.of_bodySF (plainFor_of_name own_pn4) hisR ?_
  intro p e s m args below meth c s₁ Bd hml0 hP hK
  obtain ⟨rfl, hZ, hh⟩ := hP
  have hx := Bd.exec
  have hby := Bd.bytes
  have hml : c.maxLocals = 1 := hml0
  have hown : s.vm.findClass "java/lang/Record" = some m.cls := findClass_of_methodNamed Bd.named
  have hnm := (name_of_methodNamed Bd.named Bd.method).1
  have X0 : Stand p l e ({ frames := 1, cells := 0, slots := 0, locals := 12 } : Room) s m #[(.ref a)] below meth c s₁ [] 0 0 := Stand.of_body Bd
  have e0 : s₁.heap = h0 := by rw [← hh, Bd.state]; rfl
  have N0 := Fr.nil n0
  have pre0 : ∀ t, Steps p.tables e below (s₁.setTop (mkF m 0 #[rv a] [])) t → Steps p.tables e below (s₁.setTop (entryFrame m #[(.ref a)] 1)) t := fun t k => castTop (own_rec_ef m a) k
  obtain ⟨T1, X1, e1, st1⟩ := initO X0 hx hZ hown (hw _ (own_m 48 rfl)) (hw _ (own_m 16 rfl)) (hw _ (own_m 17 rfl)) e0 (g := (mkF m 1 #[rv a] [(.ref a)])) rfl (by rw [hml]; rfl) rfl (hb hby own_d9_1) (by decide) (W := 0) (by show 2 * 0 + _ ≤ _; exact Nat.le_of_eq rfl) (by decide)
  obtain ⟨fs, hr, hrun, hended, hW, hsame⟩ := X1.leave (v := none) (fun _ => rfl)
  refine ⟨_, _, pre0 _ ?_, hrun, hended, _, _, rfl, ?_, ⟨_, rfl⟩, hW, hsame.mono (by decide) (by decide)⟩
  · show Steps p.tables e below (s₁.setTop (mkF m 0 #[rv a] [])) _
    refine XS.aloadN X0.here hx rfl (hb hby own_d9_0) rfl rfl ?_
    show Steps p.tables e below (s₁.setTop (mkF m 1 #[rv a] [(.ref a)])) _
    refine st1 _ ?_
    show Steps p.tables e below (T1.setTop (mkF m 4 #[rv a] [])) _
    exact X1.returnOut hx Bd.returns (hb hby own_d9_4) hr
  · show own_rec_Q Z cz a h0 n0 _ T1.heap _
    rw [e1]
    exact ⟨rfl, N0, rfl⟩
theorem own_pid_ef (m : MethodId) (a : Addr) (y1 : Addr) (y2 : Addr) (y3 : Addr) : entryFrame m #[(.ref a), (.ref y1), (.ref y2), (.ref y3)] 4 = mkF m 0 #[rv a, rv y1, rv y2, rv y3] [] := by first | (simp [entryFrame, mkF, argsToLocals, Value.category]; done) | rfl
def own_pid_Q (Z : State) (cz : Int32) (a : Addr) (y1 : Addr) (y2 : Addr) (y3 : Addr) (h0 : Heap) (n0 : Nat) (v : Option Value) (h : Heap) (L : List Loc) : Prop := v = none ∧ Fr n0 L ∧ Keep h0 h [a] ∧ Exa Z h a "com/example/vaxwire/vaxwire/model/PatientIdentifier" ∧ Fld Z h a "com/example/vaxwire/vaxwire/model/PatientIdentifier" "idNumber" "Ljava/lang/String;" (.ref y1) ∧ Fld Z h a "com/example/vaxwire/vaxwire/model/PatientIdentifier" "assigningAuthority" "Ljava/lang/String;" (.ref y2) ∧ Fld Z h a "com/example/vaxwire/vaxwire/model/PatientIdentifier" "typeCode" "Ljava/lang/String;" (.ref y3)
set_option maxRecDepth 65536 in
set_option maxHeartbeats 40000000 in
theorem own_pid (l : Launch) (Z : State) (a0 : Array Value) (hw : ∀ d ∈ tables_1, d.before a0 Z = true) (ws : List Jvm.Cond) (cz : Int32) (a : Addr) (y1 : Addr) (y2 : Addr) (y3 : Addr) (h0 : Heap) (n0 : Nat) (O0 : Old Z n0 h0) (S_CZ : Sta Z Z.heap "java/lang/String" "COMPACT_STRINGS" "Z" (.int cz)) (hcz : ¬ cz = (0 : Int32)) (g_a : n0 ≤ a) (E_a : Exa Z h0 a "com/example/vaxwire/vaxwire/model/PatientIdentifier") (F_idNumber : Fld Z h0 a "com/example/vaxwire/vaxwire/model/PatientIdentifier" "idNumber" "Ljava/lang/String;" .null) (F_assigningAuthority : Fld Z h0 a "com/example/vaxwire/vaxwire/model/PatientIdentifier" "assigningAuthority" "Ljava/lang/String;" .null) (F_typeCode : Fld Z h0 a "com/example/vaxwire/vaxwire/model/PatientIdentifier" "typeCode" "Ljava/lang/String;" .null) :
    MetFree l (⟨"com/example/vaxwire/vaxwire/model/PatientIdentifier", "<init>", "(Ljava/lang/String;Ljava/lang/String;Ljava/lang/String;)V"⟩ : MethodName) (head1 (Jvm.Cond.code (⟨"com/example/vaxwire/vaxwire/model/PatientIdentifier", "<init>", "(Ljava/lang/String;Ljava/lang/String;Ljava/lang/String;)V"⟩ : MethodName) prog_139_method_1_code 4 none :: ws) ({ frames := 2, cells := 0, slots := 0, locals := 24 } : Room)) (fun ar U => ar = #[(.ref a), (.ref y1), (.ref y2), (.ref y3)] ∧ Z.Warmed39 U.vm ∧ U.heap = h0) (fun _ _ _ _ _ => True) (fun _ U oc U' => ∃ v L, oc = .returned v ∧ own_pid_Q Z cz a y1 y2 y3 h0 n0 v U'.heap L ∧ FrameEnd U oc U' L ({ frames := 2, cells := 0, slots := 0, locals := 24 } : Room).cells ({ frames := 2, cells := 0, slots := 0, locals := 24 } : Room).slots) := by
  refine MetFree.of_bodySF (plainFor_of_name own_pn5) hisR ?_
  intro p e s m args below meth c s₁ Bd hml0 hP hK
  obtain ⟨rfl, hZ, hh⟩ := hP
  have hx := Bd.exec
  have hby := Bd.bytes
  have hml : c.maxLocals = 4 := hml0
  have hown : s.vm.findClass "com/example/vaxwire/vaxwire/model/PatientIdentifier" = some m.cls := findClass_of_methodNamed Bd.named
  have hnm := (name_of_methodNamed Bd.named Bd.method).1
  have X0 : Stand p l e ({ frames := 2, cells := 0, slots := 0, locals := 24 } : Room) s m #[(.ref a), (.ref y1), (.ref y2), (.ref y3)] below meth c s₁ [] 0 0 := Stand.of_body Bd
  have e0 : s₁.heap = h0 := by rw [← hh, Bd.state]; rfl
  have N0 := Fr.nil n0
  have pre0 : ∀ t, Steps p.tables e below (s₁.setTop (mkF m 0 #[rv a, rv y1, rv y2, rv y3] [])) t → Steps p.tables e below (s₁.setTop (entryFrame m #[(.ref a), (.ref y1), (.ref y2), (.ref y3)] 4)) t := fun t k => castTop (own_pid_ef m a y1 y2 y3) k
  have kp0 := Keep.refl h0 ([a] : List Addr)
  obtain ⟨_, _, ⟨T1, L1, k1, n1⟩, -, X1, ⟨Lc1, hQ1, l1, y1, z1⟩, st1⟩ := X0.specialBack hx (y := (⟨"java/lang/Record", "<init>", "()V"⟩ : MethodName)) rfl hown (mvT hZ (hw _ (own_m 43 rfl))) (mvT hZ (hw _ (own_m 44 rfl))) (mvT hZ (hw _ (own_m 47 rfl))) (by decide) (backOf (W := 0) (own_rec l Z a0 hw [] cz a h0 n0 O0 S_CZ hcz ) hZ (hw _ (own_m 47 rfl)) (hw _ (own_m 46 rfl)) (by decide) (by decide)) (g := (mkF m 1 #[rv a, rv y1, rv y2, rv y3] [(.ref a)])) rfl (by rw [hml]; rfl) (Steps.refl _) (a := a) (argsL := []) (rest := []) (lenOf own_pd9 rfl) rfl (by show 2 * 0 + _ ≤ _; exact Nat.le_of_eq rfl) (hb hby own_d8_1) (fun _ _ => ⟨rfl, e0, (by decide : 0 + 0 ≤ _), (by decide : 0 + 0 ≤ _)⟩)
  dsimp only [Pt.U, Pt.locs, Pt.cells, Pt.slots] at X1 l1 y1 z1 st1 hQ1
  subst l1 y1 z1
  obtain ⟨rfl, N1q, e1⟩ := hQ1
  have N1 := Fr.app N0 N1q
  obtain ⟨T2, h2, X2, e2, W2, st2⟩ := putF X1 hx hZ hown (host := "") (Or.inl (hw _ (own_m 49 rfl))) Via.refl e1 F_idNumber E_a (Or.inr ⟨(hw _ (own_m 50 rfl)), rfl, hnm⟩) (hw _ (own_m 38 rfl)) (ty := (.object "java/lang/String")) (by decide) rfl rfl (g := (mkF m 6 #[rv a, rv y1, rv y2, rv y3] [(.ref y1), (.ref a)])) rfl rfl (hb hby own_d8_6)
  have Fw2 := F_idNumber.same W2
  have O3 := O0.wr W2 g_a
  have kp4 := kp0.wr W2 (Or.inl (own_m 0 rfl))
  have N2 := Fr.snoc X2 N1 g_a
  have f5 := (F_assigningAuthority.other W2 (Or.inr (slot_ne (Or.inr (hw _ (own_m 52 rfl))) (Or.inr (hw _ (own_m 50 rfl))) (by decide) (t := (.object "java/lang/String")) (t' := (.object "java/lang/String")) (by decide) (by decide))))
  have f6 := (E_a.wr W2)
  obtain ⟨T7, h7, X7, e7, W7, st7⟩ := putF X2 hx hZ hown (host := "") (Or.inl (hw _ (own_m 51 rfl))) Via.refl e2 f5 f6 (Or.inr ⟨(hw _ (own_m 52 rfl)), rfl, hnm⟩) (hw _ (own_m 38 rfl)) (ty := (.object "java/lang/String")) (by decide) rfl rfl (g := (mkF m 11 #[rv a, rv y1, rv y2, rv y3] [(.ref y2), (.ref a)])) rfl rfl (hb hby own_d8_11)
  have Fw7 := f5.same W7
  have O8 := O3.wr W7 g_a
  have kp9 := kp4.wr W7 (Or.inl (own_m 0 rfl))
  have N7 := Fr.snoc X7 N2 g_a
  have f10 := ((F_typeCode.other W2 (Or.inr (slot_ne (Or.inr (hw _ (own_m 54 rfl))) (Or.inr (hw _ (own_m 50 rfl))) (by decide) (t := (.object "java/lang/String")) (t' := (.object "java/lang/String")) (by decide) (by decide)))).other W7 (Or.inr (slot_ne (Or.inr (hw _ (own_m 54 rfl))) (Or.inr (hw _ (own_m 52 rfl))) (by decide) (t := (.object "java/lang/String")) (t' := (.object "java/lang/String")) (by decide) (by decide))))
  have f11 := (f6.wr W7)
  obtain ⟨T12, h12, X12, e12, W12, st12⟩ := putF X7 hx hZ hown (host := "") (Or.inl (hw _ (own_m 53 rfl))) Via.refl e7 f10 f11 (Or.inr ⟨(hw _ (own_m 54 rfl)), rfl, hnm⟩) (hw _ (own_m 38 rfl)) (ty := (.object "java/lang/String")) (by decide) rfl rfl (g := (mkF m 16 #[rv a, rv y1, rv y2, rv y3] [(.ref y3), (.ref a)])) rfl rfl (hb hby own_d8_16)
  have Fw12 := f10.same W12
  have O13 := O8.wr W12 g_a
  have kp14 := kp9.wr W12 (Or.inl (own_m 0 rfl))
  have N12 := Fr.snoc X12 N7 g_a
  have f15 := (f11.wr W12)
  have f16 := ((Fw2.other W7 (Or.inr (slot_ne (Or.inr (hw _ (own_m 50 rfl))) (Or.inr (hw _ (own_m 52 rfl))) (by decide) (t := (.object "java/lang/String")) (t' := (.object "java/lang/String")) (by decide) (by decide)))).other W12 (Or.inr (slot_ne (Or.inr (hw _ (own_m 50 rfl))) (Or.inr (hw _ (own_m 54 rfl))) (by decide) (t := (.object "java/lang/String")) (t' := (.object "java/lang/String")) (by decide) (by decide))))
  have f17 := (Fw7.other W12 (Or.inr (slot_ne (Or.inr (hw _ (own_m 52 rfl))) (Or.inr (hw _ (own_m 54 rfl))) (by decide) (t := (.object "java/lang/String")) (t' := (.object "java/lang/String")) (by decide) (by decide))))
  obtain ⟨fs, hr, hrun, hended, hW, hsame⟩ := X12.leave (v := none) (fun _ => rfl)
  refine ⟨_, _, pre0 _ ?_, hrun, hended, _, _, rfl, ?_, ⟨_, rfl⟩, hW, hsame.mono (by decide) (by decide)⟩
  · show Steps p.tables e below (s₁.setTop (mkF m 0 #[rv a, rv y1, rv y2, rv y3] [])) _
    refine XS.aloadN X0.here hx rfl (hb hby own_d8_0) rfl rfl ?_
    show Steps p.tables e below (s₁.setTop (mkF m 1 #[rv a, rv y1, rv y2, rv y3] [(.ref a)])) _
    refine st1.trans ?_
    show Steps p.tables e below (T1.setTop (mkF m 4 #[rv a, rv y1, rv y2, rv y3] [])) _
    refine XS.aloadN X1.here hx rfl (hb hby own_d8_4) rfl rfl ?_
    show Steps p.tables e below (T1.setTop (mkF m 5 #[rv a, rv y1, rv y2, rv y3] [(.ref a)])) _
    refine XS.aloadN X1.here hx rfl (hb hby own_d8_5) rfl rfl ?_
    show Steps p.tables e below (T1.setTop (mkF m 6 #[rv a, rv y1, rv y2, rv y3] [(.ref y1), (.ref a)])) _
    refine st2 _ ?_
    show Steps p.tables e below (T2.setTop (mkF m 9 #[rv a, rv y1, rv y2, rv y3] [])) _
    refine XS.aloadN X2.here hx rfl (hb hby own_d8_9) rfl rfl ?_
    show Steps p.tables e below (T2.setTop (mkF m 10 #[rv a, rv y1, rv y2, rv y3] [(.ref a)])) _
    refine XS.aloadN X2.here hx rfl (hb hby own_d8_10) rfl rfl ?_
    show Steps p.tables e below (T2.setTop (mkF m 11 #[rv a, rv y1, rv y2, rv y3] [(.ref y2), (.ref a)])) _
    refine st7 _ ?_
    show Steps p.tables e below (T7.setTop (mkF m 14 #[rv a, rv y1, rv y2, rv y3] [])) _
    refine XS.aloadN X7.here hx rfl (hb hby own_d8_14) rfl rfl ?_
    show Steps p.tables e below (T7.setTop (mkF m 15 #[rv a, rv y1, rv y2, rv y3] [(.ref a)])) _
    refine XS.aloadN X7.here hx rfl (hb hby own_d8_15) rfl rfl ?_
    show Steps p.tables e below (T7.setTop (mkF m 16 #[rv a, rv y1, rv y2, rv y3] [(.ref y3), (.ref a)])) _
    refine st12 _ ?_
    show Steps p.tables e below (T12.setTop (mkF m 19 #[rv a, rv y1, rv y2, rv y3] [])) _
    exact X12.returnOut hx Bd.returns (hb hby own_d8_19) hr
  · show own_pid_Q Z cz a y1 y2 y3 h0 n0 _ T12.heap _
    rw [e12]
    exact ⟨rfl, N12, kp14, f15, f16, f17, Fw12⟩
theorem own_comp_ef (m : MethodId) (a : Addr) : entryFrame m #[(.ref a)] 1 = mkF m 0 #[rv a] [] := by first | (simp [entryFrame, mkF, argsToLocals, Value.category]; done) | rfl
def own_comp_Q (Z : State) (cz : Int32) (a : Addr) (y1 : Addr) (y2 : Addr) (y3 : Addr) (h0 : Heap) (n0 : Nat) (v : Option Value) (h : Heap) (L : List Loc) : Prop := ∃ (r : Addr) (kr : ClassId) (l1 l2 b1 b2 : Addr) (k1 k2 : ClassId), v = some (.ref r) ∧ Fr n0 L ∧ Keep h0 h [] ∧ h0.size ≤ r ∧ Arv Z h r kr (.object "java/lang/String") (5 : Int32) [(.ref y1), (.ref l1), (.ref l2), (.ref y2), (.ref y3)] .null ∧ Ovr Z kr "java/lang/String" ∧ Exa Z h l1 "java/lang/String" ∧ Fld Z h l1 "java/lang/String" "value" "[B" (.ref b1) ∧ Arv Z h b1 k1 .byte (0 : Int32) [] (.int 0) ∧ Exa Z h l2 "java/lang/String" ∧ Fld Z h l2 "java/lang/String" "value" "[B" (.ref b2) ∧ Arv Z h b2 k2 .byte (0 : Int32) [] (.int 0)
set_option maxRecDepth 65536 in
set_option maxHeartbeats 40000000 in
theorem own_comp (l : Launch) (Z : State) (a0 : Array Value) (hw : ∀ d ∈ tables_1, d.before a0 Z = true) (ws : List Jvm.Cond) (cz : Int32) (a : Addr) (y1 : Addr) (y2 : Addr) (y3 : Addr) (h0 : Heap) (n0 : Nat) (O0 : Old Z n0 h0) (S_CZ : Sta Z Z.heap "java/lang/String" "COMPACT_STRINGS" "Z" (.int cz)) (hcz : ¬ cz = (0 : Int32)) (g_a : n0 ≤ a) (E_a : Exa Z h0 a "com/example/vaxwire/vaxwire/model/PatientIdentifier") (F_idNumber : Fld Z h0 a "com/example/vaxwire/vaxwire/model/PatientIdentifier" "idNumber" "Ljava/lang/String;" (.ref y1)) (F_assigningAuthority : Fld Z h0 a "com/example/vaxwire/vaxwire/model/PatientIdentifier" "assigningAuthority" "Ljava/lang/String;" (.ref y2)) (F_typeCode : Fld Z h0 a "com/example/vaxwire/vaxwire/model/PatientIdentifier" "typeCode" "Ljava/lang/String;" (.ref y3)) (E_y1 : Exa Z h0 y1 "java/lang/String") (E_y2 : Exa Z h0 y2 "java/lang/String") (E_y3 : Exa Z h0 y3 "java/lang/String") :
    MetFree l (⟨"com/example/vaxwire/vaxwire/model/PatientIdentifier", "components", "()[Ljava/lang/String;"⟩ : MethodName) (head1 (Jvm.Cond.code (⟨"com/example/vaxwire/vaxwire/model/PatientIdentifier", "components", "()[Ljava/lang/String;"⟩ : MethodName) prog_139_method_5_code 1 (some (.array (.object "java/lang/String"))) :: ws) ({ frames := 0, cells := 5, slots := 13, locals := 0 } : Room)) (fun ar U => ar = #[(.ref a)] ∧ Z.Warmed39 U.vm ∧ U.heap = h0 ∧ CHv Z own_EL U.vm h0) (fun _ _ _ _ _ => True) (fun _ U oc U' => ∃ v L, oc = .returned v ∧ own_comp_Q Z cz a y1 y2 y3 h0 n0 v U'.heap L ∧ CHr Z own_EL U.vm U.heap U'.vm U'.heap ∧ ReturnedEndW U oc U' L ({ frames := 0, cells := 5, slots := 13, locals := 0 } : Room).cells ({ frames := 0, cells := 5, slots := 13, locals := 0 } : Room).slots) := by
  refine MetFree.of_bodySF (plainFor_of_name own_pn5) hisR ?_
  intro p e s m args below meth c s₁ Bd hml0 hP hK
  obtain ⟨rfl, hZ, hh, hC⟩ := hP
  have hx := Bd.exec
  have hZ : Z.Warmed39 (s.setVm s.vm).vm := hZ
  have hby := Bd.bytes
  have hml : c.maxLocals = 1 := hml0
  have hown : (s.setVm s.vm).vm.findClass "com/example/vaxwire/vaxwire/model/PatientIdentifier" = some m.cls := findClass_of_methodNamed Bd.named
  have hnm := (name_of_methodNamed Bd.named Bd.method).1
  have X0 : Stand p l e ({ frames := 0, cells := 5, slots := 13, locals := 0 } : Room) (s.setVm s.vm) m #[(.ref a)] below meth c s₁ [] 0 0 := Stand.of_body Bd
  have e0 : s₁.heap = h0 := by rw [← hh, Bd.state]; rfl
  have N0 := Fr.nil n0
  have hS0 : s.Since s.vm 0 := (State.WarmedH.refl s).since 0
  have hk0 : 0 ≤ h0.size := Nat.zero_le _
  have hC0 : CHv Z own_EL (s.setVm s.vm).vm h0 := hC
  have cr0 : CHr Z own_EL s.vm h0 (s.setVm s.vm).vm h0 := CHr.refl hC
  have pre0 : ∀ t, Steps p.tables e below (s₁.setTop (mkF m 0 #[rv a] [])) t → Steps p.tables e below (s₁.setTop (entryFrame m #[(.ref a)] 1)) t := fun t k => castTop (own_comp_ef m a) k
  have kp0 := Keep.refl h0 ([] : List Addr)
  obtain ⟨T1, h1, k1, X1, e1, E1, A1, O1, st1⟩ := newR X0 hx hZ hown (hw _ (own_m 60 rfl)) (hw _ (own_m 61 rfl)) e0 (g := (mkF m 1 #[rv a] [(.int 5)])) rfl (hb hby own_d10_1) rfl (by decide) (cap := 5) (by decide) (by decide) (by decide) (by decide)
  obtain ⟨b1, g1⟩ : ∃ z, z = h0.size := ⟨_, rfl⟩
  rw [← g1] at A1  st1
  have ne_a_b1 : a ≠ b1 := Nat.ne_of_lt (g1 ▸ E_a.lt)
  have ne_y1_b1 : y1 ≠ b1 := Nat.ne_of_lt (g1 ▸ E_y1.lt)
  have ne_y2_b1 : y2 ≠ b1 := Nat.ne_of_lt (g1 ▸ E_y2.lt)
  have ne_y3_b1 : y3 ≠ b1 := Nat.ne_of_lt (g1 ▸ E_y3.lt)
  have gg_b1 : n0 ≤ b1 := g1 ▸ own_le O0
  have sz_b1 : h0.size ≤ b1 := g1 ▸ kp0.1
  have crx2 := CHr.ext E1 hC0
  have cr2 := CHr.trans cr0 crx2
  have hC2 := crx2.1
  have sf2_b1 := Safe.ext E1 hC0 (Safe.new (Nat.le_of_eq g1.symm))
  have hk2 := Nat.le_trans hk0 E1.1
  have O3 := O0.ext E1
  have kp4 := kp0.ext E1
  have V_b1 : Arv Z h1 b1 k1 (.object "java/lang/String") (5 : Int32) [.null, .null, .null, .null, .null] .null := (Arv.new A1 (by decide)).pad (pad_rep [] .null 5)
  have f5 := (F_idNumber.ext E1)
  obtain ⟨T6, X6, e6, st6⟩ := getF X1 hx hZ hown (host := "") (Or.inl (hw _ (own_m 49 rfl))) Via.refl e1 f5 (g := (mkF m 7 #[rv a] [(.ref a), (.int 0), (.ref b1), (.ref b1)])) rfl rfl (hb hby own_d10_7)
  have f7 := (E_y1.ext E1)
  obtain ⟨c8, c8A, c8q, c8S, c8N, c8H, c8G⟩ := id V_b1
  have c8in : ¬ ((0 : Int32) < 0 ∨ c8.slots.size ≤ ((0 : Int32)).toNatClampNeg) := inb_of c8S ⟨by decide, by decide⟩
  obtain ⟨T9, h9, X9, e9, W9, st9⟩ := stR X6 hx hZ e6 c8A (j := (0 : Int32)) c8in rfl (Sto.ofV c8A c8q O1 (Ins.self f7)) (g := (mkF m 10 #[rv a] [(.ref y1), (.int 0), (.ref b1), (.ref b1)])) rfl rfl (hb hby own_d10_10)
  have V9 : Arv Z h9 b1 k1 (.object "java/lang/String") (5 : Int32) [(.ref y1), .null, .null, .null, .null] .null := Arv.set c8A c8q c8S c8N c8H c8G rfl W9 0 rfl (Nat.le_of_ble_eq_true rfl)
  have crx10 := CHr.wr W9 sf2_b1 hC2
  have cr10 := CHr.trans cr2 crx10
  have hC10 := crx10.1
  have sf10_b1 := Safe.wr W9 sf2_b1 hC2 sf2_b1
  have hk10 := Nat.le_trans hk2 (Nat.le_of_eq W9.size.symm)
  have O11 := O3.wr W9 gg_b1
  have kp12 := kp4.wr W9 (Or.inr sz_b1)
  have N9 := Fr.snoc X9 N0 gg_b1
  obtain ⟨a13, T13, h13, k13, b13, kb13, X13, e13, E13, hS13, hk13, hZ13, hown13, Ea13, Fc13, Fv13, Vb13, la13, lb13, hR13, hL13, hN13, st13⟩ := ldcCH X9 hx hZ hown (hw _ (own_m 62 rfl)) (own_ws hw) e9 hS0 hk10 (own_ew hw) (own_m 0 rfl) hC10 (vs := []) (z := (0 : Int32)) ⟨by decide, rfl⟩ (by decide) rfl (g := (mkF m 13 #[rv a] [(.int 1), (.ref b1), (.ref b1)])) rfl (hb hby own_d10_13) (n := 0) (by decide) (by decide) (by decide) (by decide)
  have pre14 : ∀ t, Steps p.tables e below (T13.setTop (mkF m 15 #[rv a] [(.ref a13), (.int 1), (.ref b1), (.ref b1)])) t → Steps p.tables e below (s₁.setTop (entryFrame m #[(.ref a)] 1)) t := fun t kt => by
    refine pre0 _ ?_
    show Steps p.tables e below (s₁.setTop (mkF m 0 #[rv a] [])) _
    refine XS.iconst X0.here hx rfl (hb hby own_d10_0) ?_
    show Steps p.tables e below (s₁.setTop (mkF m 1 #[rv a] [(.int 5)])) _
    refine st1 _ ?_
    show Steps p.tables e below (T1.setTop (mkF m 4 #[rv a] [(.ref b1)])) _
    refine XS.dup X1.here hx rfl (hb hby own_d10_4) rfl rfl ?_
    show Steps p.tables e below (T1.setTop (mkF m 5 #[rv a] [(.ref b1), (.ref b1)])) _
    refine XS.iconst X1.here hx rfl (hb hby own_d10_5) ?_
    show Steps p.tables e below (T1.setTop (mkF m 6 #[rv a] [(.int 0), (.ref b1), (.ref b1)])) _
    refine XS.aloadN X1.here hx rfl (hb hby own_d10_6) rfl rfl ?_
    show Steps p.tables e below (T1.setTop (mkF m 7 #[rv a] [(.ref a), (.int 0), (.ref b1), (.ref b1)])) _
    refine st6 _ ?_
    show Steps p.tables e below (T6.setTop (mkF m 10 #[rv a] [(.ref y1), (.int 0), (.ref b1), (.ref b1)])) _
    refine st9 _ ?_
    show Steps p.tables e below (T9.setTop (mkF m 11 #[rv a] [(.ref b1)])) _
    refine XS.dup X9.here hx rfl (hb hby own_d10_11) rfl rfl ?_
    show Steps p.tables e below (T9.setTop (mkF m 12 #[rv a] [(.ref b1), (.ref b1)])) _
    refine XS.iconst X9.here hx rfl (hb hby own_d10_12) ?_
    show Steps p.tables e below (T9.setTop (mkF m 13 #[rv a] [(.int 1), (.ref b1), (.ref b1)])) _
    refine st13 _ ?_
    show Steps p.tables e below (T13.setTop (mkF m 15 #[rv a] [(.ref a13), (.int 1), (.ref b1), (.ref b1)])) _
    exact kt
  have crx15 := hR13
  have cr15 := CHr.trans cr10 crx15
  have hC15 := crx15.1
  have sf15_b1 := CHr.safe hR13 V9.lt sf10_b1
  have O16 := O11.ext E13
  have kp17 := kp12.ext E13
  have hZ := hZ13
  have hown := hown13
  have f18 := (((E_a.ext E1).wr W9).ext E13)
  have f19 := (V9.ext E13)
  obtain ⟨c20, c20A, c20q, c20S, c20N, c20H, c20G⟩ := id f19
  have c20in : ¬ ((1 : Int32) < 0 ∨ c20.slots.size ≤ ((1 : Int32)).toNatClampNeg) := inb_of c20S ⟨by decide, by decide⟩
  obtain ⟨T21, h21, X21, e21, W21, st21⟩ := stR X13 hx hZ e13 c20A (j := (1 : Int32)) c20in rfl (Sto.ofV c20A c20q O1 (Ins.self Ea13)) (g := (mkF m 15 #[rv a] [(.ref a13), (.int 1), (.ref b1), (.ref b1)])) rfl rfl (hb hby own_d10_15)
  have V21 : Arv Z h21 b1 k1 (.object "java/lang/String") (5 : Int32) [(.ref y1), (.ref a13), .null, .null, .null] .null := Arv.set c20A c20q c20S c20N c20H c20G rfl W21 1 rfl (Nat.le_of_ble_eq_true rfl)
  have crx22 := CHr.wr W21 sf15_b1 hC15
  have cr22 := CHr.trans cr15 crx22
  have hC22 := crx22.1
  have sf22_b1 := Safe.wr W21 sf15_b1 hC15 sf15_b1
  have hk22 := Nat.le_trans hk13 (Nat.le_of_eq W21.size.symm)
  have O23 := O16.wr W21 gg_b1
  have kp24 := kp17.wr W21 (Or.inr sz_b1)
  have N21 := Fr.snoc X21 N9 gg_b1
  obtain ⟨a25, T25, h25, k25, b25, kb25, X25, e25, E25, hS25, hk25, hZ25, hown25, Ea25, Fc25, Fv25, Vb25, la25, lb25, hR25, hL25, hN25, st25⟩ := ldcCH X21 hx hZ hown (hw _ (own_m 62 rfl)) (own_ws hw) e21 hS13 hk22 (own_ew hw) (own_m 0 rfl) hC22 (vs := []) (z := (0 : Int32)) ⟨by decide, rfl⟩ (by decide) rfl (g := (mkF m 18 #[rv a] [(.int 2), (.ref b1), (.ref b1)])) rfl (hb hby own_d10_18) (n := 0) (by decide) (by decide) (by decide) (by decide)
  have pre26 : ∀ t, Steps p.tables e below (T25.setTop (mkF m 20 #[rv a] [(.ref a25), (.int 2), (.ref b1), (.ref b1)])) t → Steps p.tables e below (s₁.setTop (entryFrame m #[(.ref a)] 1)) t := fun t kt => by
    refine pre14 _ ?_
    show Steps p.tables e below (T13.setTop (mkF m 15 #[rv a] [(.ref a13), (.int 1), (.ref b1), (.ref b1)])) _
    refine st21 _ ?_
    show Steps p.tables e below (T21.setTop (mkF m 16 #[rv a] [(.ref b1)])) _
    refine XS.dup X21.here hx rfl (hb hby own_d10_16) rfl rfl ?_
    show Steps p.tables e below (T21.setTop (mkF m 17 #[rv a] [(.ref b1), (.ref b1)])) _
    refine XS.iconst X21.here hx rfl (hb hby own_d10_17) ?_
    show Steps p.tables e below (T21.setTop (mkF m 18 #[rv a] [(.int 2), (.ref b1), (.ref b1)])) _
    refine st25 _ ?_
    show Steps p.tables e below (T25.setTop (mkF m 20 #[rv a] [(.ref a25), (.int 2), (.ref b1), (.ref b1)])) _
    exact kt
  have crx27 := hR25
  have cr27 := CHr.trans cr22 crx27
  have hC27 := crx27.1
  have sf27_b1 := CHr.safe hR25 V21.lt sf22_b1
  have O28 := O23.ext E25
  have kp29 := kp24.ext E25
  have hZ := hZ25
  have hown := hown25
  have f30 := ((f18.wr W21).ext E25)
  have f31 := (V21.ext E25)
  obtain ⟨c32, c32A, c32q, c32S, c32N, c32H, c32G⟩ := id f31
  have c32in : ¬ ((2 : Int32) < 0 ∨ c32.slots.size ≤ ((2 : Int32)).toNatClampNeg) := inb_of c32S ⟨by decide, by decide⟩
  obtain ⟨T33, h33, X33, e33, W33, st33⟩ := stR X25 hx hZ e25 c32A (j := (2 : Int32)) c32in rfl (Sto.ofV c32A c32q O1 (Ins.self Ea25)) (g := (mkF m 20 #[rv a] [(.ref a25), (.int 2), (.ref b1), (.ref b1)])) rfl rfl (hb hby own_d10_20)
  have V33 : Arv Z h33 b1 k1 (.object "java/lang/String") (5 : Int32) [(.ref y1), (.ref a13), (.ref a25), .null, .null] .null := Arv.set c32A c32q c32S c32N c32H c32G rfl W33 2 rfl (Nat.le_of_ble_eq_true rfl)
  have crx34 := CHr.wr W33 sf27_b1 hC27
  have cr34 := CHr.trans cr27 crx34
  have hC34 := crx34.1
  have sf34_b1 := Safe.wr W33 sf27_b1 hC27 sf27_b1
  have hk34 := Nat.le_trans hk25 (Nat.le_of_eq W33.size.symm)
  have O35 := O28.wr W33 gg_b1
  have kp36 := kp29.wr W33 (Or.inr sz_b1)
  have N33 := Fr.snoc X33 N21 gg_b1
  have f37 := ((((((F_assigningAuthority.ext E1).other W9 (Or.inl ne_a_b1)).ext E13).other W21 (Or.inl ne_a_b1)).ext E25).other W33 (Or.inl ne_a_b1))
  obtain ⟨T38, X38, e38, st38⟩ := getF X33 hx hZ hown (host := "") (Or.inl (hw _ (own_m 51 rfl))) Via.refl e33 f37 (g := (mkF m 24 #[rv a] [(.ref a), (.int 3), (.ref b1), (.ref b1)])) rfl rfl (hb hby own_d10_24)
  have f39 := ((((((E_y2.ext E1).wr W9).ext E13).wr W21).ext E25).wr W33)
  obtain ⟨c40, c40A, c40q, c40S, c40N, c40H, c40G⟩ := id V33
  have c40in : ¬ ((3 : Int32) < 0 ∨ c40.slots.size ≤ ((3 : Int32)).toNatClampNeg) := inb_of c40S ⟨by decide, by decide⟩
  obtain ⟨T41, h41, X41, e41, W41, st41⟩ := stR X38 hx hZ e38 c40A (j := (3 : Int32)) c40in rfl (Sto.ofV c40A c40q O1 (Ins.self f39)) (g := (mkF m 27 #[rv a] [(.ref y2), (.int 3), (.ref b1), (.ref b1)])) rfl rfl (hb hby own_d10_27)
  have V41 : Arv Z h41 b1 k1 (.object "java/lang/String") (5 : Int32) [(.ref y1), (.ref a13), (.ref a25), (.ref y2), .null] .null := Arv.set c40A c40q c40S c40N c40H c40G rfl W41 3 rfl (Nat.le_of_ble_eq_true rfl)
  have crx42 := CHr.wr W41 sf34_b1 hC34
  have cr42 := CHr.trans cr34 crx42
  have hC42 := crx42.1
  have sf42_b1 := Safe.wr W41 sf34_b1 hC34 sf34_b1
  have hk42 := Nat.le_trans hk34 (Nat.le_of_eq W41.size.symm)
  have O43 := O35.wr W41 gg_b1
  have kp44 := kp36.wr W41 (Or.inr sz_b1)
  have N41 := Fr.snoc X41 N33 gg_b1
  have f45 := (((((((F_typeCode.ext E1).other W9 (Or.inl ne_a_b1)).ext E13).other W21 (Or.inl ne_a_b1)).ext E25).other W33 (Or.inl ne_a_b1)).other W41 (Or.inl ne_a_b1))
  obtain ⟨T46, X46, e46, st46⟩ := getF X41 hx hZ hown (host := "") (Or.inl (hw _ (own_m 53 rfl))) Via.refl e41 f45 (g := (mkF m 31 #[rv a] [(.ref a), (.int 4), (.ref b1), (.ref b1)])) rfl rfl (hb hby own_d10_31)
  have f47 := (((((((E_y3.ext E1).wr W9).ext E13).wr W21).ext E25).wr W33).wr W41)
  obtain ⟨c48, c48A, c48q, c48S, c48N, c48H, c48G⟩ := id V41
  have c48in : ¬ ((4 : Int32) < 0 ∨ c48.slots.size ≤ ((4 : Int32)).toNatClampNeg) := inb_of c48S ⟨by decide, by decide⟩
  obtain ⟨T49, h49, X49, e49, W49, st49⟩ := stR X46 hx hZ e46 c48A (j := (4 : Int32)) c48in rfl (Sto.ofV c48A c48q O1 (Ins.self f47)) (g := (mkF m 34 #[rv a] [(.ref y3), (.int 4), (.ref b1), (.ref b1)])) rfl rfl (hb hby own_d10_34)
  have V49 : Arv Z h49 b1 k1 (.object "java/lang/String") (5 : Int32) [(.ref y1), (.ref a13), (.ref a25), (.ref y2), (.ref y3)] .null := Arv.set c48A c48q c48S c48N c48H c48G rfl W49 4 rfl (Nat.le_of_ble_eq_true rfl)
  have crx50 := CHr.wr W49 sf42_b1 hC42
  have cr50 := CHr.trans cr42 crx50
  have hC50 := crx50.1
  have sf50_b1 := Safe.wr W49 sf42_b1 hC42 sf42_b1
  have hk50 := Nat.le_trans hk42 (Nat.le_of_eq W49.size.symm)
  have O51 := O43.wr W49 gg_b1
  have kp52 := kp44.wr W49 (Or.inr sz_b1)
  have N49 := Fr.snoc X49 N41 gg_b1
  have f53 := (((((Ea13.wr W21).ext E25).wr W33).wr W41).wr W49)
  have f54 := (((((Fv13.other W21 (Or.inl (Ne.symm (hN13 _ sf15_b1).1))).ext E25).other W33 (Or.inl (Ne.symm (hN13 _ sf15_b1).1))).other W41 (Or.inl (Ne.symm (hN13 _ sf15_b1).1))).other W49 (Or.inl (Ne.symm (hN13 _ sf15_b1).1)))
  have f55 := (((((Vb13.other W21 (Ne.symm (hN13 _ sf15_b1).2)).ext E25).other W33 (Ne.symm (hN13 _ sf15_b1).2)).other W41 (Ne.symm (hN13 _ sf15_b1).2)).other W49 (Ne.symm (hN13 _ sf15_b1).2))
  have f56 := (((Ea25.wr W33).wr W41).wr W49)
  have f57 := (((Fv25.other W33 (Or.inl (Ne.symm (hN25 _ sf27_b1).1))).other W41 (Or.inl (Ne.symm (hN25 _ sf27_b1).1))).other W49 (Or.inl (Ne.symm (hN25 _ sf27_b1).1)))
  have f58 := (((Vb25.other W33 (Ne.symm (hN25 _ sf27_b1).2)).other W41 (Ne.symm (hN25 _ sf27_b1).2)).other W49 (Ne.symm (hN25 _ sf27_b1).2))
  have hkz := (e49.symm ▸ hk50)
  obtain ⟨fs, hr, hrun, hended, hRW⟩ := X49.leaveW hS25 hkz (v := some (.ref b1)) (fun h => by rw [Bd.returns] at h; cases h)
  have hcz := CHr.trans cr50 (CHv.at X49 hZ (own_ew hw) hC50)
  refine ⟨_, _, pre26 _ ?_, hrun, hended, _, _, rfl, ?_, ?_, hRW.1, hRW.2.1, hRW.2.2.1, hRW.2.2.2.mono (by decide) (by decide)⟩
  · show Steps p.tables e below (T25.setTop (mkF m 20 #[rv a] [(.ref a25), (.int 2), (.ref b1), (.ref b1)])) _
    refine st33 _ ?_
    show Steps p.tables e below (T33.setTop (mkF m 21 #[rv a] [(.ref b1)])) _
    refine XS.dup X33.here hx rfl (hb hby own_d10_21) rfl rfl ?_
    show Steps p.tables e below (T33.setTop (mkF m 22 #[rv a] [(.ref b1), (.ref b1)])) _
    refine XS.iconst X33.here hx rfl (hb hby own_d10_22) ?_
    show Steps p.tables e below (T33.setTop (mkF m 23 #[rv a] [(.int 3), (.ref b1), (.ref b1)])) _
    refine XS.aloadN X33.here hx rfl (hb hby own_d10_23) rfl rfl ?_
    show Steps p.tables e below (T33.setTop (mkF m 24 #[rv a] [(.ref a), (.int 3), (.ref b1), (.ref b1)])) _
    refine st38 _ ?_
    show Steps p.tables e below (T38.setTop (mkF m 27 #[rv a] [(.ref y2), (.int 3), (.ref b1), (.ref b1)])) _
    refine st41 _ ?_
    show Steps p.tables e below (T41.setTop (mkF m 28 #[rv a] [(.ref b1)])) _
    refine XS.dup X41.here hx rfl (hb hby own_d10_28) rfl rfl ?_
    show Steps p.tables e below (T41.setTop (mkF m 29 #[rv a] [(.ref b1), (.ref b1)])) _
    refine XS.iconst X41.here hx rfl (hb hby own_d10_29) ?_
    show Steps p.tables e below (T41.setTop (mkF m 30 #[rv a] [(.int 4), (.ref b1), (.ref b1)])) _
    refine XS.aloadN X41.here hx rfl (hb hby own_d10_30) rfl rfl ?_
    show Steps p.tables e below (T41.setTop (mkF m 31 #[rv a] [(.ref a), (.int 4), (.ref b1), (.ref b1)])) _
    refine st46 _ ?_
    show Steps p.tables e below (T46.setTop (mkF m 34 #[rv a] [(.ref y3), (.int 4), (.ref b1), (.ref b1)])) _
    refine st49 _ ?_
    show Steps p.tables e below (T49.setTop (mkF m 35 #[rv a] [(.ref b1)])) _
    jvm_step X49.here [X49.here.top, hx, (hb hby own_d10_35), X49.method', Bd.returns, Value.isRef, FieldType.isReference]
    first | (intro acts; rw [hr _ acts rfl rfl rfl]) | rw [hr _ _ rfl rfl rfl]
    exact Steps.refl _
  · show own_comp_Q Z cz a y1 y2 y3 h0 n0 _ T49.heap _
    rw [e49]
    exact ⟨b1, k1, a13, a25, b13, b25, kb13, kb25, rfl, N49, kp52, sz_b1, V49, O1, f53, f54, f55, f56, f57, f58⟩
  · show CHr Z own_EL s.vm s.heap T49.vm T49.heap
    rw [hh, e49]
    exact hcz
theorem own_eqs_ef (m : MethodId) (a : Addr) : entryFrame m #[(.ref a), (.ref a)] 3 = mkF m 0 #[rv a, rv a, .unset] [] := by first | (simp [entryFrame, mkF, argsToLocals, Value.category]; done) | rfl
def own_eqs_Q (Z : State) (cz : Int32) (a : Addr) (h0 : Heap) (n0 : Nat) (v : Option Value) (h : Heap) (L : List Loc) : Prop := v = some (.int 1) ∧ Fr n0 L ∧ h = h0
set_option maxRecDepth 65536 in
set_option maxHeartbeats 40000000 in
theorem own_eqs (l : Launch) (Z : State) (a0 : Array Value) (hw : ∀ d ∈ tables_1, d.before a0 Z = true) (ws : List Jvm.Cond) (cz : Int32) (a : Addr) (h0 : Heap) (n0 : Nat) (O0 : Old Z n0 h0) (S_CZ : Sta Z Z.heap "java/lang/String" "COMPACT_STRINGS" "Z" (.int cz)) (hcz : ¬ cz = (0 : Int32)) :
    MetFree l (⟨"java/lang/String", "equals", "(Ljava/lang/Object;)Z"⟩ : MethodName) (head1 (Jvm.Cond.code (⟨"java/lang/String", "equals", "(Ljava/lang/Object;)Z"⟩ : MethodName) jdk_42_method_66_code 3 (some .boolean) :: ws) ({ frames := 0, cells := 0, slots := 0, locals := 0 } : Room)) (fun ar U => ar = #[(.ref a), (.ref a)] ∧ Z.Warmed39 U.vm ∧ U.heap = h0) (fun _ _ _ _ _ => True) (fun _ U oc U' => ∃ v L, oc = .returned v ∧ own_eqs_Q Z cz a h0 n0 v U'.heap L ∧ FrameEnd U oc U' L ({ frames := 0, cells := 0, slots := 0, locals := 0 } : Room).cells ({ frames := 0, cells := 0, slots := 0, locals := 0 } : Room).slots) := by
  refine MetFree.of_bodySF (plainFor_of_name own_pn1) hisR ?_
  intro p e s m args below meth c s₁ Bd hml0 hP hK
  obtain ⟨rfl, hZ, hh⟩ := hP
  have hx := Bd.exec
  have hby := Bd.bytes
  have hml : c.maxLocals = 3 := hml0
  have hown : s.vm.findClass "java/lang/String" = some m.cls := findClass_of_methodNamed Bd.named
  have hnm := (name_of_methodNamed Bd.named Bd.method).1
  have X0 : Stand p l e ({ frames := 0, cells := 0, slots := 0, locals := 0 } : Room) s m #[(.ref a), (.ref a)] below meth c s₁ [] 0 0 := Stand.of_body Bd
  have e0 : s₁.heap = h0 := by rw [← hh, Bd.state]; rfl
  have N0 := Fr.nil n0
  have pre0 : ∀ t, Steps p.tables e below (s₁.setTop (mkF m 0 #[rv a, rv a, .unset] [])) t → Steps p.tables e below (s₁.setTop (entryFrame m #[(.ref a), (.ref a)] 3)) t := fun t k => castTop (own_eqs_ef m a) k
  obtain ⟨fs, hr, hrun, hended, hW, hsame⟩ := X0.leave (v := some (.int 1)) (fun h => by rw [Bd.returns] at h; cases h)
  refine ⟨_, _, pre0 _ ?_, hrun, hended, _, _, rfl, ?_, ⟨_, rfl⟩, hW, hsame.mono (by decide) (by decide)⟩
  · show Steps p.tables e below (s₁.setTop (mkF m 0 #[rv a, rv a, .unset] [])) _
    refine XS.aloadN X0.here hx rfl (hb hby own_d11_0) rfl rfl ?_
    show Steps p.tables e below (s₁.setTop (mkF m 1 #[rv a, rv a, .unset] [(.ref a)])) _
    refine XS.aloadN X0.here hx rfl (hb hby own_d11_1) rfl rfl ?_
    show Steps p.tables e below (s₁.setTop (mkF m 2 #[rv a, rv a, .unset] [(.ref a), (.ref a)])) _
    refine Jvm.RoadKit.acmp (g := (mkF m 2 #[rv a, rv a, .unset] [(.ref a), (.ref a)])) X0 hx rfl rfl rfl (pc0 := 2) (pc' := 5) (same := true) rfl (hb hby own_d11_2) rfl (decide_eq_true rfl) (by decide) (by decide) ?_
    show Steps p.tables e below (s₁.setTop (mkF m 5 #[rv a, rv a, .unset] [])) _
    refine XS.iconst X0.here hx rfl (hb hby own_d11_5) ?_
    show Steps p.tables e below (s₁.setTop (mkF m 6 #[rv a, rv a, .unset] [(.int 1)])) _
    exact retN X0 hx (t := .boolean) Bd.returns (by simp) (hb hby own_d11_6) hr
  · show own_eqs_Q Z cz a h0 n0 _ s₁.heap _
    rw [e0]
    exact ⟨rfl, N0, rfl⟩
theorem own_emp_ef (m : MethodId) (a : Addr) : entryFrame m #[(.ref a)] 1 = mkF m 0 #[rv a] [] := by first | (simp [entryFrame, mkF, argsToLocals, Value.category]; done) | rfl
def own_emp_Q (Z : State) (cz : Int32) (a : Addr) (b : Addr) (kb : ClassId) (h0 : Heap) (n0 : Nat) (v : Option Value) (h : Heap) (L : List Loc) : Prop := v = some (.int 1) ∧ Fr n0 L ∧ h = h0
set_option maxRecDepth 65536 in
set_option maxHeartbeats 40000000 in
theorem own_emp (l : Launch) (Z : State) (a0 : Array Value) (hw : ∀ d ∈ tables_1, d.before a0 Z = true) (ws : List Jvm.Cond) (cz : Int32) (a : Addr) (b : Addr) (kb : ClassId) (h0 : Heap) (n0 : Nat) (O0 : Old Z n0 h0) (S_CZ : Sta Z Z.heap "java/lang/String" "COMPACT_STRINGS" "Z" (.int cz)) (hcz : ¬ cz = (0 : Int32)) (F_v : Fld Z h0 a "java/lang/String" "value" "[B" (.ref b)) (V_b : Arv Z h0 b kb .byte (0 : Int32) [] (.int 0)) :
    MetFree l (⟨"java/lang/String", "isEmpty", "()Z"⟩ : MethodName) (head1 (Jvm.Cond.code (⟨"java/lang/String", "isEmpty", "()Z"⟩ : MethodName) jdk_42_method_55_code 1 (some .boolean) :: ws) ({ frames := 0, cells := 0, slots := 0, locals := 0 } : Room)) (fun ar U => ar = #[(.ref a)] ∧ Z.Warmed39 U.vm ∧ U.heap = h0) (fun _ _ _ _ _ => True) (fun _ U oc U' => ∃ v L, oc = .returned v ∧ own_emp_Q Z cz a b kb h0 n0 v U'.heap L ∧ FrameEnd U oc U' L ({ frames := 0, cells := 0, slots := 0, locals := 0 } : Room).cells ({ frames := 0, cells := 0, slots := 0, locals := 0 } : Room).slots) := by
  refine MetFree.of_bodySF (plainFor_of_name own_pn1) hisR ?_
  intro p e s m args below meth c s₁ Bd hml0 hP hK
  obtain ⟨rfl, hZ, hh⟩ := hP
  have hx := Bd.exec
  have hby := Bd.bytes
  have hml : c.maxLocals = 1 := hml0
  have hown : s.vm.findClass "java/lang/String" = some m.cls := findClass_of_methodNamed Bd.named
  have hnm := (name_of_methodNamed Bd.named Bd.method).1
  have X0 : Stand p l e ({ frames := 0, cells := 0, slots := 0, locals := 0 } : Room) s m #[(.ref a)] below meth c s₁ [] 0 0 := Stand.of_body Bd
  have e0 : s₁.heap = h0 := by rw [← hh, Bd.state]; rfl
  have N0 := Fr.nil n0
  have pre0 : ∀ t, Steps p.tables e below (s₁.setTop (mkF m 0 #[rv a] [])) t → Steps p.tables e below (s₁.setTop (entryFrame m #[(.ref a)] 1)) t := fun t k => castTop (own_emp_ef m a) k
  obtain ⟨T1, X1, e1, st1⟩ := getF X0 hx hZ hown (host := "") (Or.inl (hw _ (own_m 24 rfl))) Via.refl e0 F_v (g := (mkF m 1 #[rv a] [(.ref a)])) rfl rfl (hb hby own_d12_1)
  obtain ⟨c2, c2A, c2q, c2S, c2N, c2H, c2G⟩ := id V_b
  obtain ⟨fs, hr, hrun, hended, hW, hsame⟩ := X1.leave (v := some (.int 1)) (fun h => by rw [Bd.returns] at h; cases h)
  refine ⟨_, _, pre0 _ ?_, hrun, hended, _, _, rfl, ?_, ⟨_, rfl⟩, hW, hsame.mono (by decide) (by decide)⟩
  · show Steps p.tables e below (s₁.setTop (mkF m 0 #[rv a] [])) _
    refine XS.aloadN X0.here hx rfl (hb hby own_d12_0) rfl rfl ?_
    show Steps p.tables e below (s₁.setTop (mkF m 1 #[rv a] [(.ref a)])) _
    refine st1 _ ?_
    show Steps p.tables e below (T1.setTop (mkF m 4 #[rv a] [(.ref b)])) _
    refine X1.arraylength hx (by rw [e1]; exact c2A.1) (State.isArrayOf_alike hZ.alike c2A.2.1) (g := (mkF m 4 #[rv a] [(.ref b)])) rfl rfl (hb hby own_d12_4) _ ?_
    rw [len_of c2S c2N]
    show Steps p.tables e below (T1.setTop (mkF m 5 #[rv a] [(.int 0)])) _
    refine XS.ifNo X1.here hx rfl (hb hby own_d12_5) rfl ((if0 _ _).trans (teq (by decide)).2) ?_
    show Steps p.tables e below (T1.setTop (mkF m 8 #[rv a] [])) _
    refine XS.iconst X1.here hx rfl (hb hby own_d12_8) ?_
    show Steps p.tables e below (T1.setTop (mkF m 9 #[rv a] [(.int 1)])) _
    refine XS.goto X1.here hx rfl (pc0 := 9) (pc' := 13) rfl (hb hby own_d12_9) (by decide) (by decide) ?_
    show Steps p.tables e below (T1.setTop (mkF m 13 #[rv a] [(.int 1)])) _
    exact retN X1 hx (t := .boolean) Bd.returns (by simp) (hb hby own_d12_13) hr
  · show own_emp_Q Z cz a b kb h0 n0 _ T1.heap _
    rw [e1]
    exact ⟨rfl, N0, rfl⟩
theorem own_law_ef (m : MethodId) (p0 : Int32) (p1 : Int32) (p2 : Int32) : entryFrame m #[(.int p0), (.int p1), (.int p2)] maxLocals = mkF m 0 #[iv p0, iv p1, iv p2, .unset, .unset, .unset, .unset, .unset, .unset, .unset] [] := by first | (simp [entryFrame, mkF, argsToLocals, Value.category, maxLocals]; done) | rfl
def own_law_Q (Z : State) (cz : Int32) (p0 : Int32) (p1 : Int32) (p2 : Int32) (h0 : Heap) (n0 : Nat) (v : Option Value) (h : Heap) (L : List Loc) : Prop := v = some (.int 1) ∧ Fr n0 L
set_option maxRecDepth 65536 in
set_option maxHeartbeats 40000000 in
theorem own_law (l : Launch) (Z : State) (a0 : Array Value) (hw : ∀ d ∈ tables_1, d.before a0 Z = true) (ws : List Jvm.Cond) (cz : Int32) (p0 : Int32) (p1 : Int32) (p2 : Int32) (h0 : Heap) (n0 : Nat) (O0 : Old Z n0 h0) (S_CZ : Sta Z Z.heap "java/lang/String" "COMPACT_STRINGS" "Z" (.int cz)) (hcz : ¬ cz = (0 : Int32)) :
    MetFree l x (head1 (Jvm.Cond.code x code maxLocals ret :: ws) room_1) (fun ar U => ar = #[(.int p0), (.int p1), (.int p2)] ∧ Z.Warmed39 U.vm ∧ U.heap = h0 ∧ CHv Z own_EL U.vm h0) (fun _ _ _ _ _ => True) (fun _ U oc U' => ∃ v L, oc = .returned v ∧ own_law_Q Z cz p0 p1 p2 h0 n0 v U'.heap L ∧ CHr Z own_EL U.vm U.heap U'.vm U'.heap ∧ ReturnedEndW U oc U' L 40 2240) := by
  refine MetFree.of_bodySF (plainFor_of_name own_pn3) hisR ?_
  intro p e s m args below meth c s₁ Bd hml0 hP hK
  obtain ⟨rfl, hZ, hh, hC⟩ := hP
  have hx := Bd.exec
  have hZ : Z.Warmed39 (s.setVm s.vm).vm := hZ
  have hby := Bd.bytes
  have hml : c.maxLocals = 10 := hml0
  have hown : (s.setVm s.vm).vm.findClass "com/example/vaxwire/vaxwire/model/PatientIdentifierComponentsPinLaw" = some m.cls := findClass_of_methodNamed Bd.named
  have hnm := (name_of_methodNamed Bd.named Bd.method).1
  have X0 : Stand p l e room_1 (s.setVm s.vm) m #[(.int p0), (.int p1), (.int p2)] below meth c s₁ [] 0 0 := Stand.of_body Bd
  have e0 : s₁.heap = h0 := by rw [← hh, Bd.state]; rfl
  have N0 := Fr.nil n0
  have hS0 : s.Since s.vm 0 := (State.WarmedH.refl s).since 0
  have hk0 : 0 ≤ h0.size := Nat.zero_le _
  have hC0 : CHv Z own_EL (s.setVm s.vm).vm h0 := hC
  have cr0 : CHr Z own_EL s.vm h0 (s.setVm s.vm).vm h0 := CHr.refl hC
  have pre0 : ∀ t, Steps p.tables e below (s₁.setTop (mkF m 0 #[iv p0, iv p1, iv p2, .unset, .unset, .unset, .unset, .unset, .unset, .unset] [])) t → Steps p.tables e below (s₁.setTop (entryFrame m #[(.int p0), (.int p1), (.int p2)] maxLocals)) t := fun t k => castTop (own_law_ef m p0 p1 p2) k
  have kp0 := Keep.refl h0 ([] : List Addr)
  obtain ⟨_, _, ⟨T1, L1, k1, n1⟩, -, X1, hSq1, hgr1, ⟨Lc1, hQ1, l1, y1, z1, hR1⟩, st1⟩ := callSS X0 hx (y := (⟨"com/example/vaxwire/vaxwire/model/PatientIdentifierComponentsPinLaw", "drawn", "(I)Ljava/lang/String;"⟩ : MethodName)) hown (mvT hZ (hw _ (own_m 0 rfl))) (mvT hZ (hw _ (own_m 1 rfl))) (mvT hZ (hw _ (own_m 2 rfl))) (mvT hZ (hw _ (own_m 3 rfl))) (by decide) (backOfSH (W := 0) (own_drawn l Z a0 hw [] cz p0 h0 n0 O0 S_CZ hcz ) hZ (hw _ (own_m 3 rfl)) (hw _ (own_m 2 rfl)) (by decide) (by decide) (own_ew hw) hC0) (g := (mkF m 1 #[iv p0, iv p1, iv p2, .unset, .unset, .unset, .unset, .unset, .unset, .unset] [(.int p0)])) rfl (by rw [hml]; rfl) (argsL := [(.int p0)]) (rest := []) (lenOf own_pd10 rfl) rfl (by show 2 * 0 + _ ≤ _; exact Nat.le_of_eq rfl) (hb hby at_1) (fun _ _ => ⟨rfl, e0, (by decide : 0 + 6 ≤ _), (by decide : 0 + 12 ≤ _)⟩)
  dsimp only [Pt.U, Pt.locs, Pt.cells, Pt.slots] at X1 hSq1 hgr1 l1 y1 z1 st1 hQ1 hR1
  subst l1 y1 z1
  obtain ⟨X1, hS1, hZ1, hown1⟩ := rebS hS0 hk0 X1 hSq1 (by rw [← e0]; exact hgr1) hZ hown
  obtain ⟨y1, rfl, N1q, K1, Ey1⟩ := hQ1
  have N1 := Fr.app N0 N1q
  have crx2 := hR1
  have cr2 := CHr.trans cr0 crx2
  have hC2 := crx2.1
  have O3 := O0.keep K1 all0
  have kp4 := kp0.trans K1 (all0)
  have pre5 : ∀ t, Steps p.tables e below (T1.setTop (mkF m 4 #[iv p0, iv p1, iv p2, .unset, .unset, .unset, .unset, .unset, .unset, .unset] [(.ref y1)])) t → Steps p.tables e below (s₁.setTop (entryFrame m #[(.int p0), (.int p1), (.int p2)] maxLocals)) t := fun t kt => by
    refine pre0 _ ?_
    show Steps p.tables e below (s₁.setTop (mkF m 0 #[iv p0, iv p1, iv p2, .unset, .unset, .unset, .unset, .unset, .unset, .unset] [])) _
    refine XS.iloadN X0.here hx rfl (hb hby at_0) rfl ?_
    show Steps p.tables e below (s₁.setTop (mkF m 1 #[iv p0, iv p1, iv p2, .unset, .unset, .unset, .unset, .unset, .unset, .unset] [(.int p0)])) _
    refine st1.trans ?_
    show Steps p.tables e below (T1.setTop (mkF m 4 #[iv p0, iv p1, iv p2, .unset, .unset, .unset, .unset, .unset, .unset, .unset] [(.ref y1)])) _
    exact kt
  have hZ := hZ1
  have hown := hown1
  obtain ⟨K1q, gK1⟩ : ∃ z, z = T1.heap.size := ⟨_, rfl⟩
  rw [← gK1] at hS1
  have hkq1 : K1q ≤ T1.heap.size := Nat.le_of_eq gK1
  obtain ⟨_, _, ⟨T6, L6, k6, n6⟩, -, X6, hSq6, hgr6, ⟨Lc6, hQ6, l6, y6, z6, hR6⟩, st6⟩ := callSS X1 hx (y := (⟨"com/example/vaxwire/vaxwire/model/PatientIdentifierComponentsPinLaw", "drawn", "(I)Ljava/lang/String;"⟩ : MethodName)) hown (mvT hZ (hw _ (own_m 0 rfl))) (mvT hZ (hw _ (own_m 1 rfl))) (mvT hZ (hw _ (own_m 2 rfl))) (mvT hZ (hw _ (own_m 3 rfl))) (by decide) (backOfSH (W := 0) (own_drawn l Z a0 hw [] cz p1 T1.heap n0 O3 S_CZ hcz ) hZ (hw _ (own_m 3 rfl)) (hw _ (own_m 2 rfl)) (by decide) (by decide) (own_ew hw) hC2) (g := (mkF m 6 #[iv p0, iv p1, iv p2, rv y1, .unset, .unset, .unset, .unset, .unset, .unset] [(.int p1)])) rfl (by rw [hml]; rfl) (argsL := [(.int p1)]) (rest := []) (lenOf own_pd10 rfl) rfl (by show 2 * 0 + _ ≤ _; exact Nat.le_of_eq rfl) (hb hby at_6) (fun _ _ => ⟨rfl, rfl, (by decide : 6 + 6 ≤ _), (by decide : 12 + 12 ≤ _)⟩)
  dsimp only [Pt.U, Pt.locs, Pt.cells, Pt.slots] at X6 hSq6 hgr6 l6 y6 z6 st6 hQ6 hR6
  subst l6 y6 z6
  obtain ⟨X6, hS6, hZ6, hown6⟩ := rebS hS1 hkq1 X6 hSq6 hgr6 hZ hown
  obtain ⟨y2, rfl, N6q, K6, Ey2⟩ := hQ6
  have N6 := Fr.app N1 N6q
  have crx7 := hR6
  have cr7 := CHr.trans cr2 crx7
  have hC7 := crx7.1
  have O8 := O3.keep K6 all0
  have kp9 := kp4.trans K6 (all0)
  have pre10 : ∀ t, Steps p.tables e below (T6.setTop (mkF m 9 #[iv p0, iv p1, iv p2, rv y1, .unset, .unset, .unset, .unset, .unset, .unset] [(.ref y2)])) t → Steps p.tables e below (s₁.setTop (entryFrame m #[(.int p0), (.int p1), (.int p2)] maxLocals)) t := fun t kt => by
    refine pre5 _ ?_
    show Steps p.tables e below (T1.setTop (mkF m 4 #[iv p0, iv p1, iv p2, .unset, .unset, .unset, .unset, .unset, .unset, .unset] [(.ref y1)])) _
    refine XS.astoreN X1.here hx rfl (hb hby at_4) rfl rfl (l' := #[iv p0, iv p1, iv p2, rv y1, .unset, .unset, .unset, .unset, .unset, .unset]) rfl ?_
    show Steps p.tables e below (T1.setTop (mkF m 5 #[iv p0, iv p1, iv p2, rv y1, .unset, .unset, .unset, .unset, .unset, .unset] [])) _
    refine XS.iloadN X1.here hx rfl (hb hby at_5) rfl ?_
    show Steps p.tables e below (T1.setTop (mkF m 6 #[iv p0, iv p1, iv p2, rv y1, .unset, .unset, .unset, .unset, .unset, .unset] [(.int p1)])) _
    refine st6.trans ?_
    show Steps p.tables e below (T6.setTop (mkF m 9 #[iv p0, iv p1, iv p2, rv y1, .unset, .unset, .unset, .unset, .unset, .unset] [(.ref y2)])) _
    exact kt
  have hZ := hZ6
  have hown := hown6
  obtain ⟨K6q, gK6⟩ : ∃ z, z = T6.heap.size := ⟨_, rfl⟩
  rw [← gK6] at hS6
  have hkq6 : K6q ≤ T6.heap.size := Nat.le_of_eq gK6
  obtain ⟨_, _, ⟨T11, L11, k11, n11⟩, -, X11, hSq11, hgr11, ⟨Lc11, hQ11, l11, y11, z11, hR11⟩, st11⟩ := callSS X6 hx (y := (⟨"com/example/vaxwire/vaxwire/model/PatientIdentifierComponentsPinLaw", "drawn", "(I)Ljava/lang/String;"⟩ : MethodName)) hown (mvT hZ (hw _ (own_m 0 rfl))) (mvT hZ (hw _ (own_m 1 rfl))) (mvT hZ (hw _ (own_m 2 rfl))) (mvT hZ (hw _ (own_m 3 rfl))) (by decide) (backOfSH (W := 0) (own_drawn l Z a0 hw [] cz p2 T6.heap n0 O8 S_CZ hcz ) hZ (hw _ (own_m 3 rfl)) (hw _ (own_m 2 rfl)) (by decide) (by decide) (own_ew hw) hC7) (g := (mkF m 12 #[iv p0, iv p1, iv p2, rv y1, rv y2, .unset, .unset, .unset, .unset, .unset] [(.int p2)])) rfl (by rw [hml]; rfl) (argsL := [(.int p2)]) (rest := []) (lenOf own_pd10 rfl) rfl (by show 2 * 0 + _ ≤ _; exact Nat.le_of_eq rfl) (hb hby at_12) (fun _ _ => ⟨rfl, rfl, (by decide : 12 + 6 ≤ _), (by decide : 24 + 12 ≤ _)⟩)
  dsimp only [Pt.U, Pt.locs, Pt.cells, Pt.slots] at X11 hSq11 hgr11 l11 y11 z11 st11 hQ11 hR11
  subst l11 y11 z11
  obtain ⟨X11, hS11, hZ11, hown11⟩ := rebS hS6 hkq6 X11 hSq11 hgr11 hZ hown
  obtain ⟨y3, rfl, N11q, K11, Ey3⟩ := hQ11
  have N11 := Fr.app N6 N11q
  have crx12 := hR11
  have cr12 := CHr.trans cr7 crx12
  have hC12 := crx12.1
  have O13 := O8.keep K11 all0
  have kp14 := kp9.trans K11 (all0)
  have pre15 : ∀ t, Steps p.tables e below (T11.setTop (mkF m 15 #[iv p0, iv p1, iv p2, rv y1, rv y2, .unset, .unset, .unset, .unset, .unset] [(.ref y3)])) t → Steps p.tables e below (s₁.setTop (entryFrame m #[(.int p0), (.int p1), (.int p2)] maxLocals)) t := fun t kt => by
    refine pre10 _ ?_
    show Steps p.tables e below (T6.setTop (mkF m 9 #[iv p0, iv p1, iv p2, rv y1, .unset, .unset, .unset, .unset, .unset, .unset] [(.ref y2)])) _
    refine XS.astore X6.here hx rfl (hb hby at_9) rfl rfl (l' := #[iv p0, iv p1, iv p2, rv y1, rv y2, .unset, .unset, .unset, .unset, .unset]) rfl ?_
    show Steps p.tables e below (T6.setTop (mkF m 11 #[iv p0, iv p1, iv p2, rv y1, rv y2, .unset, .unset, .unset, .unset, .unset] [])) _
    refine XS.iloadN X6.here hx rfl (hb hby at_11) rfl ?_
    show Steps p.tables e below (T6.setTop (mkF m 12 #[iv p0, iv p1, iv p2, rv y1, rv y2, .unset, .unset, .unset, .unset, .unset] [(.int p2)])) _
    refine st11.trans ?_
    show Steps p.tables e below (T11.setTop (mkF m 15 #[iv p0, iv p1, iv p2, rv y1, rv y2, .unset, .unset, .unset, .unset, .unset] [(.ref y3)])) _
    exact kt
  have hZ := hZ11
  have hown := hown11
  obtain ⟨K11q, gK11⟩ : ∃ z, z = T11.heap.size := ⟨_, rfl⟩
  rw [← gK11] at hS11
  have hkq11 : K11q ≤ T11.heap.size := Nat.le_of_eq gK11
  have f16 := ((Ey1.keep K6).keep K11)
  have f17 := (Ey2.keep K11)
  obtain ⟨T18, h18, X18, e18, E18, A18, D18, -, st18⟩ := newO X11 hx hZ hown (hw _ (own_m 37 rfl)) (hw _ (own_m 38 rfl)) (hw _ (own_m 39 rfl)) rfl (g := (mkF m 17 #[iv p0, iv p1, iv p2, rv y1, rv y2, rv y3, .unset, .unset, .unset, .unset] [])) rfl (hb hby at_17) (by decide) (by decide)
  obtain ⟨b18, g18⟩ : ∃ z, z = T11.heap.size := ⟨_, rfl⟩
  rw [← g18] at A18 D18 st18
  have ne_y1_b18 : y1 ≠ b18 := Nat.ne_of_lt (g18 ▸ f16.lt)
  have ne_y2_b18 : y2 ≠ b18 := Nat.ne_of_lt (g18 ▸ f17.lt)
  have ne_y3_b18 : y3 ≠ b18 := Nat.ne_of_lt (g18 ▸ Ey3.lt)
  have gg_b18 : n0 ≤ b18 := g18 ▸ own_le O13
  have sz_b18 : h0.size ≤ b18 := g18 ▸ kp14.1
  have crx19 := CHr.ext E18 hC12
  have cr19 := CHr.trans cr12 crx19
  have hC19 := crx19.1
  have sf19_b18 := Safe.ext E18 hC12 (Safe.new (Nat.le_of_eq g18.symm))
  have hk19 := Nat.le_trans hkq11 E18.1
  have O20 := O13.ext E18
  have kp21 := kp14.ext E18
  have F_idNumber_b18 : Fld Z h18 b18 "com/example/vaxwire/vaxwire/model/PatientIdentifier" "idNumber" "Ljava/lang/String;" .null := D18 (Or.inr (hw _ (own_m 50 rfl))) (ty := (.object "java/lang/String")) (by decide)
  have F_assigningAuthority_b18 : Fld Z h18 b18 "com/example/vaxwire/vaxwire/model/PatientIdentifier" "assigningAuthority" "Ljava/lang/String;" .null := D18 (Or.inr (hw _ (own_m 52 rfl))) (ty := (.object "java/lang/String")) (by decide)
  have F_typeCode_b18 : Fld Z h18 b18 "com/example/vaxwire/vaxwire/model/PatientIdentifier" "typeCode" "Ljava/lang/String;" .null := D18 (Or.inr (hw _ (own_m 54 rfl))) (ty := (.object "java/lang/String")) (by decide)
  obtain ⟨_, _, ⟨T22, L22, k22, n22⟩, -, X22, ⟨Lc22, hQ22, l22, y22, z22⟩, st22⟩ := X18.specialBack hx (y := (⟨"com/example/vaxwire/vaxwire/model/PatientIdentifier", "<init>", "(Ljava/lang/String;Ljava/lang/String;Ljava/lang/String;)V"⟩ : MethodName)) rfl hown (mvT hZ (hw _ (own_m 40 rfl))) (mvT hZ (hw _ (own_m 41 rfl))) (mvT hZ (hw _ (own_m 42 rfl))) (by decide) (backOf (W := 1) (own_pid l Z a0 hw [] cz b18 y1 y2 y3 h18 n0 O20 S_CZ hcz gg_b18 A18 F_idNumber_b18 F_assigningAuthority_b18 F_typeCode_b18) hZ (hw _ (own_m 42 rfl)) (hw _ (own_m 39 rfl)) (by decide) (by decide)) (g := (mkF m 26 #[iv p0, iv p1, iv p2, rv y1, rv y2, rv y3, .unset, .unset, .unset, .unset] [(.ref y3), (.ref y2), (.ref y1), (.ref b18), (.ref b18)])) rfl (by rw [hml]; rfl) (Steps.refl _) (a := b18) (argsL := [(.ref y1), (.ref y2), (.ref y3)]) (rest := [(.ref b18)]) (lenOf own_pd11 rfl) rfl (by show 2 * 0 + _ ≤ _; exact Nat.le_of_eq rfl) (hb hby at_26) (fun _ _ => ⟨rfl, e18, (by decide : 19 + 0 ≤ _), (by decide : 39 + 0 ≤ _)⟩)
  dsimp only [Pt.U, Pt.locs, Pt.cells, Pt.slots] at X22 l22 y22 z22 st22 hQ22
  subst l22 y22 z22
  obtain ⟨rfl, N22q, K22, q23, q24, q25, q26⟩ := hQ22
  have N22 := Fr.app N11 N22q
  have crx27 := CHr.keep K22 (sfS sf19_b18 sf0) hC19
  have cr27 := CHr.trans cr19 crx27
  have hC27 := crx27.1
  have sf27_b18 := Safe.keep K22 (sfS sf19_b18 sf0) hC19 sf19_b18
  have hk27 := Nat.le_trans hk19 K22.1
  have O28 := O20.keep K22 (allS gg_b18 all0)
  have kp29 := kp21.trans K22 ((allS (P := fun x => x ∈ ([] : List Addr) ∨ h0.size ≤ x) (Or.inr sz_b18) all0))
  have f30 := ((f16.ext E18).keep K22)
  have f31 := ((f17.ext E18).keep K22)
  have f32 := ((Ey3.ext E18).keep K22)
  obtain ⟨cq33, kq33, q33a, q33b, q33c⟩ := isOf hZ rfl q23
  obtain ⟨_, _, ⟨T33, L33, k33, n33⟩, -, X33, hSq33, hgr33, ⟨Lc33, hQ33, l33, y33, z33, hR33⟩, st33⟩ := X22.virtualBackS hx (y := (⟨"com/example/vaxwire/vaxwire/model/PatientIdentifier", "components", "()[Ljava/lang/String;"⟩ : MethodName)) (z := (⟨"com/example/vaxwire/vaxwire/model/PatientIdentifier", "components", "()[Ljava/lang/String;"⟩ : MethodName)) hown (mvT hZ (hw _ (own_m 55 rfl))) (mvT hZ (hw _ (own_m 56 rfl))) (notFace_of_selects (args := #[]) (mvT hZ (hw _ (own_m 58 rfl)))) (mvT hZ (hw _ (own_m 58 rfl))) (mvT hZ (hw _ (own_m 57 rfl))) (by decide) (backOfSH (W := 0) (own_comp l Z a0 hw [] cz b18 y1 y2 y3 T22.heap n0 O28 S_CZ hcz gg_b18 q23 q24 q25 q26 f30 f31 f32) hZ (hw _ (own_m 59 rfl)) (hw _ (own_m 39 rfl)) (by decide) (by decide) (own_ew hw) hC27) q33a q33c (g := (mkF m 33 #[iv p0, iv p1, iv p2, rv y1, rv y2, rv y3, rv b18, .unset, .unset, .unset] [(.ref b18)])) rfl (by rw [hml]; rfl) (Steps.refl _) (argsL := []) (rest := []) (lenOf own_pd12 rfl) rfl (by show 2 * 0 + _ ≤ _; exact Nat.le_of_eq rfl) (hb hby at_33) (fun _ _ => ⟨rfl, rfl, (by decide : 19 + 5 ≤ _), (by decide : 39 + 13 ≤ _)⟩)
  dsimp only [Pt.U, Pt.locs, Pt.cells, Pt.slots] at X33 hSq33 hgr33 l33 y33 z33 st33 hQ33 hR33
  subst l33 y33 z33
  obtain ⟨X33, hS33, hZ33, hown33⟩ := rebS hS11 hk27 X33 hSq33 hgr33 hZ hown
  obtain ⟨r1, kr_1, l1_1, l2_1, b1_1, b2_1, k1_1, k2_1, rfl, N33q, K33, szr, Vr_1, Or_1, E1_1, F1_1, V1_1, E2_1, F2_1, V2_1⟩ := hQ33
  have N33 := Fr.app N22 N33q
  have g_r1 : n0 ≤ r1 := Nat.le_trans (own_le O28) szr
  have sz_r1 : h0.size ≤ r1 := Nat.le_trans kp29.1 szr
  have ne_y1_r1 : y1 ≠ r1 := Nat.ne_of_lt (Nat.lt_of_lt_of_le f30.lt szr)
  have ne_y2_r1 : y2 ≠ r1 := Nat.ne_of_lt (Nat.lt_of_lt_of_le f31.lt szr)
  have ne_y3_r1 : y3 ≠ r1 := Nat.ne_of_lt (Nat.lt_of_lt_of_le f32.lt szr)
  have ne_b18_r1 : b18 ≠ r1 := Nat.ne_of_lt (Nat.lt_of_lt_of_le q23.lt szr)
  have crx34 := hR33
  have cr34 := CHr.trans cr27 crx34
  have hC34 := crx34.1
  have sf34_b18 := CHr.safe hR33 q23.lt sf27_b18
  have O35 := O28.keep K33 all0
  have kp36 := kp29.trans K33 (all0)
  have pre37 : ∀ t, Steps p.tables e below (T33.setTop (mkF m 36 #[iv p0, iv p1, iv p2, rv y1, rv y2, rv y3, rv b18, .unset, .unset, .unset] [(.ref r1)])) t → Steps p.tables e below (s₁.setTop (entryFrame m #[(.int p0), (.int p1), (.int p2)] maxLocals)) t := fun t kt => by
    refine pre15 _ ?_
    show Steps p.tables e below (T11.setTop (mkF m 15 #[iv p0, iv p1, iv p2, rv y1, rv y2, .unset, .unset, .unset, .unset, .unset] [(.ref y3)])) _
    refine XS.astore X11.here hx rfl (hb hby at_15) rfl rfl (l' := #[iv p0, iv p1, iv p2, rv y1, rv y2, rv y3, .unset, .unset, .unset, .unset]) rfl ?_
    show Steps p.tables e below (T11.setTop (mkF m 17 #[iv p0, iv p1, iv p2, rv y1, rv y2, rv y3, .unset, .unset, .unset, .unset] [])) _
    refine st18 _ ?_
    show Steps p.tables e below (T18.setTop (mkF m 20 #[iv p0, iv p1, iv p2, rv y1, rv y2, rv y3, .unset, .unset, .unset, .unset] [(.ref b18)])) _
    refine XS.dup X18.here hx rfl (hb hby at_20) rfl rfl ?_
    show Steps p.tables e below (T18.setTop (mkF m 21 #[iv p0, iv p1, iv p2, rv y1, rv y2, rv y3, .unset, .unset, .unset, .unset] [(.ref b18), (.ref b18)])) _
    refine XS.aloadN X18.here hx rfl (hb hby at_21) rfl rfl ?_
    show Steps p.tables e below (T18.setTop (mkF m 22 #[iv p0, iv p1, iv p2, rv y1, rv y2, rv y3, .unset, .unset, .unset, .unset] [(.ref y1), (.ref b18), (.ref b18)])) _
    refine XS.aload X18.here hx rfl (hb hby at_22) rfl rfl ?_
    show Steps p.tables e below (T18.setTop (mkF m 24 #[iv p0, iv p1, iv p2, rv y1, rv y2, rv y3, .unset, .unset, .unset, .unset] [(.ref y2), (.ref y1), (.ref b18), (.ref b18)])) _
    refine XS.aload X18.here hx rfl (hb hby at_24) rfl rfl ?_
    show Steps p.tables e below (T18.setTop (mkF m 26 #[iv p0, iv p1, iv p2, rv y1, rv y2, rv y3, .unset, .unset, .unset, .unset] [(.ref y3), (.ref y2), (.ref y1), (.ref b18), (.ref b18)])) _
    refine st22.trans ?_
    show Steps p.tables e below (T22.setTop (mkF m 29 #[iv p0, iv p1, iv p2, rv y1, rv y2, rv y3, .unset, .unset, .unset, .unset] [(.ref b18)])) _
    refine XS.astore X22.here hx rfl (hb hby at_29) rfl rfl (l' := #[iv p0, iv p1, iv p2, rv y1, rv y2, rv y3, rv b18, .unset, .unset, .unset]) rfl ?_
    show Steps p.tables e below (T22.setTop (mkF m 31 #[iv p0, iv p1, iv p2, rv y1, rv y2, rv y3, rv b18, .unset, .unset, .unset] [])) _
    refine XS.aload X22.here hx rfl (hb hby at_31) rfl rfl ?_
    show Steps p.tables e below (T22.setTop (mkF m 33 #[iv p0, iv p1, iv p2, rv y1, rv y2, rv y3, rv b18, .unset, .unset, .unset] [(.ref b18)])) _
    refine st33.trans ?_
    show Steps p.tables e below (T33.setTop (mkF m 36 #[iv p0, iv p1, iv p2, rv y1, rv y2, rv y3, rv b18, .unset, .unset, .unset] [(.ref r1)])) _
    exact kt
  have hZ := hZ33
  have hown := hown33
  obtain ⟨K33q, gK33⟩ : ∃ z, z = T33.heap.size := ⟨_, rfl⟩
  rw [← gK33] at hS33
  have hkq33 : K33q ≤ T33.heap.size := Nat.le_of_eq gK33
  obtain ⟨c38, c38A, c38q, c38S, c38N, c38H, c38G⟩ := id Vr_1
  obtain ⟨c39, c39A, c39q, c39S, c39N, c39H, c39G⟩ := id Vr_1
  have c39in : ¬ ((0 : Int32) < 0 ∨ c39.slots.size ≤ ((0 : Int32)).toNatClampNeg) := inb_of c39S ⟨by decide, by decide⟩
  have c39at : c39.slots[((0 : Int32)).toNatClampNeg]? = some (.ref y1) := Has.at c39H c39in rfl
  have f41 := (f30.keep K33)
  obtain ⟨cq40, kq40, q40a, q40b, q40c⟩ := isOf hZ rfl f41
  obtain ⟨_, _, ⟨T40, L40, k40, n40⟩, -, X40, ⟨Lc40, hQ40, l40, y40, z40⟩, st40⟩ := X33.virtualBack hx (y := (⟨"java/lang/String", "equals", "(Ljava/lang/Object;)Z"⟩ : MethodName)) (z := (⟨"java/lang/String", "equals", "(Ljava/lang/Object;)Z"⟩ : MethodName)) hown (mvT hZ (hw _ (own_m 63 rfl))) (mvT hZ (hw _ (own_m 64 rfl))) (notFace_of_selects (args := #[]) (mvT hZ (hw _ (own_m 66 rfl)))) (mvT hZ (hw _ (own_m 66 rfl))) (mvT hZ (hw _ (own_m 65 rfl))) (by decide) (backOf (W := 0) (own_eqs l Z a0 hw [] cz y1 T33.heap n0 O35 S_CZ hcz ) hZ (hw _ (own_m 67 rfl)) (hw _ (own_m 6 rfl)) (by decide) (by decide)) q40a q40c (g := (mkF m 57 #[iv p0, iv p1, iv p2, rv y1, rv y2, rv y3, rv b18, rv r1, .unset, .unset] [(.ref y1), (.ref y1)])) rfl (by rw [hml]; rfl) (Steps.refl _) (argsL := [(.ref y1)]) (rest := []) (lenOf own_pd13 rfl) rfl (by show 2 * 0 + _ ≤ _; exact Nat.le_of_eq rfl) (hb hby at_57) (fun _ _ => ⟨rfl, rfl, (by decide : 24 + 0 ≤ _), (by decide : 52 + 0 ≤ _)⟩)
  dsimp only [Pt.U, Pt.locs, Pt.cells, Pt.slots] at X40 l40 y40 z40 st40 hQ40
  subst l40 y40 z40
  obtain ⟨rfl, N40q, e40⟩ := hQ40
  have N40 := Fr.app N33 N40q
  obtain ⟨c42, c42A, c42q, c42S, c42N, c42H, c42G⟩ := id Vr_1
  have c42in : ¬ ((1 : Int32) < 0 ∨ c42.slots.size ≤ ((1 : Int32)).toNatClampNeg) := inb_of c42S ⟨by decide, by decide⟩
  have c42at : c42.slots[((1 : Int32)).toNatClampNeg]? = some (.ref l1_1) := Has.at c42H c42in rfl
  obtain ⟨cq43, kq43, q43a, q43b, q43c⟩ := isOf hZ e40 E1_1
  obtain ⟨_, _, ⟨T43, L43, k43, n43⟩, -, X43, ⟨Lc43, hQ43, l43, y43, z43⟩, st43⟩ := X40.virtualBack hx (y := (⟨"java/lang/String", "isEmpty", "()Z"⟩ : MethodName)) (z := (⟨"java/lang/String", "isEmpty", "()Z"⟩ : MethodName)) hown (mvT hZ (hw _ (own_m 68 rfl))) (mvT hZ (hw _ (own_m 69 rfl))) (notFace_of_selects (args := #[]) (mvT hZ (hw _ (own_m 71 rfl)))) (mvT hZ (hw _ (own_m 71 rfl))) (mvT hZ (hw _ (own_m 70 rfl))) (by decide) (backOf (W := 0) (own_emp l Z a0 hw [] cz l1_1 b1_1 k1_1 T33.heap n0 O35 S_CZ hcz F1_1 V1_1) hZ (hw _ (own_m 72 rfl)) (hw _ (own_m 6 rfl)) (by decide) (by decide)) q43a q43c (g := (mkF m 67 #[iv p0, iv p1, iv p2, rv y1, rv y2, rv y3, rv b18, rv r1, .unset, .unset] [(.ref l1_1)])) rfl (by rw [hml]; rfl) (Steps.refl _) (argsL := []) (rest := []) (lenOf own_pd14 rfl) rfl (by show 2 * 0 + _ ≤ _; exact Nat.le_of_eq rfl) (hb hby at_67) (fun _ _ => ⟨rfl, e40, (by decide : 24 + 0 ≤ _), (by decide : 52 + 0 ≤ _)⟩)
  dsimp only [Pt.U, Pt.locs, Pt.cells, Pt.slots] at X43 l43 y43 z43 st43 hQ43
  subst l43 y43 z43
  obtain ⟨rfl, N43q, e43⟩ := hQ43
  have N43 := Fr.app N40 N43q
  obtain ⟨c44, c44A, c44q, c44S, c44N, c44H, c44G⟩ := id Vr_1
  have c44in : ¬ ((2 : Int32) < 0 ∨ c44.slots.size ≤ ((2 : Int32)).toNatClampNeg) := inb_of c44S ⟨by decide, by decide⟩
  have c44at : c44.slots[((2 : Int32)).toNatClampNeg]? = some (.ref l2_1) := Has.at c44H c44in rfl
  obtain ⟨cq45, kq45, q45a, q45b, q45c⟩ := isOf hZ e43 E2_1
  obtain ⟨_, _, ⟨T45, L45, k45, n45⟩, -, X45, ⟨Lc45, hQ45, l45, y45, z45⟩, st45⟩ := X43.virtualBack hx (y := (⟨"java/lang/String", "isEmpty", "()Z"⟩ : MethodName)) (z := (⟨"java/lang/String", "isEmpty", "()Z"⟩ : MethodName)) hown (mvT hZ (hw _ (own_m 68 rfl))) (mvT hZ (hw _ (own_m 69 rfl))) (notFace_of_selects (args := #[]) (mvT hZ (hw _ (own_m 71 rfl)))) (mvT hZ (hw _ (own_m 71 rfl))) (mvT hZ (hw _ (own_m 70 rfl))) (by decide) (backOf (W := 0) (own_emp l Z a0 hw [] cz l2_1 b2_1 k2_1 T33.heap n0 O35 S_CZ hcz F2_1 V2_1) hZ (hw _ (own_m 72 rfl)) (hw _ (own_m 6 rfl)) (by decide) (by decide)) q45a q45c (g := (mkF m 77 #[iv p0, iv p1, iv p2, rv y1, rv y2, rv y3, rv b18, rv r1, .unset, .unset] [(.ref l2_1)])) rfl (by rw [hml]; rfl) (Steps.refl _) (argsL := []) (rest := []) (lenOf own_pd14 rfl) rfl (by show 2 * 0 + _ ≤ _; exact Nat.le_of_eq rfl) (hb hby at_77) (fun _ _ => ⟨rfl, e43, (by decide : 24 + 0 ≤ _), (by decide : 52 + 0 ≤ _)⟩)
  dsimp only [Pt.U, Pt.locs, Pt.cells, Pt.slots] at X45 l45 y45 z45 st45 hQ45
  subst l45 y45 z45
  obtain ⟨rfl, N45q, e45⟩ := hQ45
  have N45 := Fr.app N43 N45q
  obtain ⟨c46, c46A, c46q, c46S, c46N, c46H, c46G⟩ := id Vr_1
  have c46in : ¬ ((3 : Int32) < 0 ∨ c46.slots.size ≤ ((3 : Int32)).toNatClampNeg) := inb_of c46S ⟨by decide, by decide⟩
  have c46at : c46.slots[((3 : Int32)).toNatClampNeg]? = some (.ref y2) := Has.at c46H c46in rfl
  have f48 := (f31.keep K33)
  obtain ⟨cq47, kq47, q47a, q47b, q47c⟩ := isOf hZ e45 f48
  obtain ⟨_, _, ⟨T47, L47, k47, n47⟩, -, X47, ⟨Lc47, hQ47, l47, y47, z47⟩, st47⟩ := X45.virtualBack hx (y := (⟨"java/lang/String", "equals", "(Ljava/lang/Object;)Z"⟩ : MethodName)) (z := (⟨"java/lang/String", "equals", "(Ljava/lang/Object;)Z"⟩ : MethodName)) hown (mvT hZ (hw _ (own_m 63 rfl))) (mvT hZ (hw _ (own_m 64 rfl))) (notFace_of_selects (args := #[]) (mvT hZ (hw _ (own_m 66 rfl)))) (mvT hZ (hw _ (own_m 66 rfl))) (mvT hZ (hw _ (own_m 65 rfl))) (by decide) (backOf (W := 0) (own_eqs l Z a0 hw [] cz y2 T33.heap n0 O35 S_CZ hcz ) hZ (hw _ (own_m 67 rfl)) (hw _ (own_m 6 rfl)) (by decide) (by decide)) q47a q47c (g := (mkF m 89 #[iv p0, iv p1, iv p2, rv y1, rv y2, rv y3, rv b18, rv r1, .unset, .unset] [(.ref y2), (.ref y2)])) rfl (by rw [hml]; rfl) (Steps.refl _) (argsL := [(.ref y2)]) (rest := []) (lenOf own_pd13 rfl) rfl (by show 2 * 0 + _ ≤ _; exact Nat.le_of_eq rfl) (hb hby at_89) (fun _ _ => ⟨rfl, e45, (by decide : 24 + 0 ≤ _), (by decide : 52 + 0 ≤ _)⟩)
  dsimp only [Pt.U, Pt.locs, Pt.cells, Pt.slots] at X47 l47 y47 z47 st47 hQ47
  subst l47 y47 z47
  obtain ⟨rfl, N47q, e47⟩ := hQ47
  have N47 := Fr.app N45 N47q
  obtain ⟨c49, c49A, c49q, c49S, c49N, c49H, c49G⟩ := id Vr_1
  have c49in : ¬ ((4 : Int32) < 0 ∨ c49.slots.size ≤ ((4 : Int32)).toNatClampNeg) := inb_of c49S ⟨by decide, by decide⟩
  have c49at : c49.slots[((4 : Int32)).toNatClampNeg]? = some (.ref y3) := Has.at c49H c49in rfl
  have f51 := (f32.keep K33)
  obtain ⟨cq50, kq50, q50a, q50b, q50c⟩ := isOf hZ e47 f51
  obtain ⟨_, _, ⟨T50, L50, k50, n50⟩, -, X50, ⟨Lc50, hQ50, l50, y50, z50⟩, st50⟩ := X47.virtualBack hx (y := (⟨"java/lang/String", "equals", "(Ljava/lang/Object;)Z"⟩ : MethodName)) (z := (⟨"java/lang/String", "equals", "(Ljava/lang/Object;)Z"⟩ : MethodName)) hown (mvT hZ (hw _ (own_m 63 rfl))) (mvT hZ (hw _ (own_m 64 rfl))) (notFace_of_selects (args := #[]) (mvT hZ (hw _ (own_m 66 rfl)))) (mvT hZ (hw _ (own_m 66 rfl))) (mvT hZ (hw _ (own_m 65 rfl))) (by decide) (backOf (W := 0) (own_eqs l Z a0 hw [] cz y3 T33.heap n0 O35 S_CZ hcz ) hZ (hw _ (own_m 67 rfl)) (hw _ (own_m 6 rfl)) (by decide) (by decide)) q50a q50c (g := (mkF m 101 #[iv p0, iv p1, iv p2, rv y1, rv y2, rv y3, rv b18, rv r1, .unset, .unset] [(.ref y3), (.ref y3)])) rfl (by rw [hml]; rfl) (Steps.refl _) (argsL := [(.ref y3)]) (rest := []) (lenOf own_pd13 rfl) rfl (by show 2 * 0 + _ ≤ _; exact Nat.le_of_eq rfl) (hb hby at_101) (fun _ _ => ⟨rfl, e47, (by decide : 24 + 0 ≤ _), (by decide : 52 + 0 ≤ _)⟩)
  dsimp only [Pt.U, Pt.locs, Pt.cells, Pt.slots] at X50 l50 y50 z50 st50 hQ50
  subst l50 y50 z50
  obtain ⟨rfl, N50q, e50⟩ := hQ50
  have N50 := Fr.app N47 N50q
  obtain ⟨c52, c52A, c52q, c52S, c52N, c52H, c52G⟩ := id Vr_1
  have c52in : ¬ ((0 : Int32) < 0 ∨ c52.slots.size ≤ ((0 : Int32)).toNatClampNeg) := inb_of c52S ⟨by decide, by decide⟩
  obtain ⟨T53, h53, X53, e53, W53, st53⟩ := stR X50 hx hZ e50 c52A (j := (0 : Int32)) c52in rfl (Or.inl rfl) (g := (mkF m 118 #[iv p0, iv p1, iv p2, rv y1, rv y2, rv y3, rv b18, rv r1, iv 1, .unset] [.null, (.int 0), (.ref r1)])) rfl rfl (hb hby at_118)
  have V53 : Arv Z h53 r1 kr_1 (.object "java/lang/String") (5 : Int32) [.null, (.ref l1_1), (.ref l2_1), (.ref y2), (.ref y3)] .null := Arv.set c52A c52q c52S c52N c52H c52G rfl W53 0 rfl (Nat.le_of_ble_eq_true rfl)
  have crx54 := CHr.wr W53 (Safe.arv hZ.alike Vr_1 (by decide)) hC34
  have cr54 := CHr.trans cr34 crx54
  have hC54 := crx54.1
  have sf54_b18 := Safe.wr W53 (Safe.arv hZ.alike Vr_1 (by decide)) hC34 sf34_b18
  have hk54 := Nat.le_trans hkq33 (Nat.le_of_eq W53.size.symm)
  have O55 := O35.wr W53 g_r1
  have kp56 := kp36.wr W53 (Or.inr sz_r1)
  have N53 := Fr.snoc X53 N50 g_r1
  obtain ⟨c57, c57A, c57q, c57S, c57N, c57H, c57G⟩ := id V53
  have c57in : ¬ ((3 : Int32) < 0 ∨ c57.slots.size ≤ ((3 : Int32)).toNatClampNeg) := inb_of c57S ⟨by decide, by decide⟩
  obtain ⟨T58, h58, X58, e58, W58, st58⟩ := stR X53 hx hZ e53 c57A (j := (3 : Int32)) c57in rfl (Or.inl rfl) (g := (mkF m 123 #[iv p0, iv p1, iv p2, rv y1, rv y2, rv y3, rv b18, rv r1, iv 1, .unset] [.null, (.int 3), (.ref r1)])) rfl rfl (hb hby at_123)
  have V58 : Arv Z h58 r1 kr_1 (.object "java/lang/String") (5 : Int32) [.null, (.ref l1_1), (.ref l2_1), .null, (.ref y3)] .null := Arv.set c57A c57q c57S c57N c57H c57G rfl W58 3 rfl (Nat.le_of_ble_eq_true rfl)
  have crx59 := CHr.wr W58 (Safe.arv hZ.alike V53 (by decide)) hC54
  have cr59 := CHr.trans cr54 crx59
  have hC59 := crx59.1
  have sf59_b18 := Safe.wr W58 (Safe.arv hZ.alike V53 (by decide)) hC54 sf54_b18
  have hk59 := Nat.le_trans hk54 (Nat.le_of_eq W58.size.symm)
  have O60 := O55.wr W58 g_r1
  have kp61 := kp56.wr W58 (Or.inr sz_r1)
  have N58 := Fr.snoc X58 N53 g_r1
  have f62 := (((q23.keep K33).wr W53).wr W58)
  have f63 := (((q24.keep K33 nin0).other W53 (Or.inl ne_b18_r1)).other W58 (Or.inl ne_b18_r1))
  have f64 := (((q25.keep K33 nin0).other W53 (Or.inl ne_b18_r1)).other W58 (Or.inl ne_b18_r1))
  have f65 := (((q26.keep K33 nin0).other W53 (Or.inl ne_b18_r1)).other W58 (Or.inl ne_b18_r1))
  have f66 := ((f41.wr W53).wr W58)
  have f67 := ((f48.wr W53).wr W58)
  have f68 := ((f51.wr W53).wr W58)
  obtain ⟨cq69, kq69, q69a, q69b, q69c⟩ := isOf hZ e58 f62
  obtain ⟨_, _, ⟨T69, L69, k69, n69⟩, -, X69, hSq69, hgr69, ⟨Lc69, hQ69, l69, y69, z69, hR69⟩, st69⟩ := X58.virtualBackS hx (y := (⟨"com/example/vaxwire/vaxwire/model/PatientIdentifier", "components", "()[Ljava/lang/String;"⟩ : MethodName)) (z := (⟨"com/example/vaxwire/vaxwire/model/PatientIdentifier", "components", "()[Ljava/lang/String;"⟩ : MethodName)) hown (mvT hZ (hw _ (own_m 55 rfl))) (mvT hZ (hw _ (own_m 56 rfl))) (notFace_of_selects (args := #[]) (mvT hZ (hw _ (own_m 58 rfl)))) (mvT hZ (hw _ (own_m 58 rfl))) (mvT hZ (hw _ (own_m 57 rfl))) (by decide) (backOfSH (W := 0) (own_comp l Z a0 hw [] cz b18 y1 y2 y3 h58 n0 O60 S_CZ hcz gg_b18 f62 f63 f64 f65 f66 f67 f68) hZ (hw _ (own_m 59 rfl)) (hw _ (own_m 39 rfl)) (by decide) (by decide) (own_ew hw) hC59) q69a q69c (g := (mkF m 126 #[iv p0, iv p1, iv p2, rv y1, rv y2, rv y3, rv b18, rv r1, iv 1, .unset] [(.ref b18)])) rfl (by rw [hml]; rfl) (Steps.refl _) (argsL := []) (rest := []) (lenOf own_pd12 rfl) rfl (by show 2 * 0 + _ ≤ _; exact Nat.le_of_eq rfl) (hb hby at_126) (fun _ _ => ⟨rfl, e58, (by decide : 24 + 5 ≤ _), (by decide : 52 + 13 ≤ _)⟩)
  dsimp only [Pt.U, Pt.locs, Pt.cells, Pt.slots] at X69 hSq69 hgr69 l69 y69 z69 st69 hQ69 hR69
  subst l69 y69 z69
  obtain ⟨X69, hS69, hZ69, hown69⟩ := rebS hS33 hk59 X69 hSq69 (by rw [← e58]; exact hgr69) hZ hown
  obtain ⟨r2, kr_2, l1_2, l2_2, b1_2, b2_2, k1_2, k2_2, rfl, N69q, K69, szr, Vr_2, Or_2, E1_2, F1_2, V1_2, E2_2, F2_2, V2_2⟩ := hQ69
  have N69 := Fr.app N58 N69q
  have g_r2 : n0 ≤ r2 := Nat.le_trans (own_le O60) szr
  have sz_r2 : h0.size ≤ r2 := Nat.le_trans kp61.1 szr
  have ne_y1_r2 : y1 ≠ r2 := Nat.ne_of_lt (Nat.lt_of_lt_of_le f66.lt szr)
  have ne_y2_r2 : y2 ≠ r2 := Nat.ne_of_lt (Nat.lt_of_lt_of_le f67.lt szr)
  have ne_y3_r2 : y3 ≠ r2 := Nat.ne_of_lt (Nat.lt_of_lt_of_le f68.lt szr)
  have ne_b18_r2 : b18 ≠ r2 := Nat.ne_of_lt (Nat.lt_of_lt_of_le f62.lt szr)
  have ne_r1_r2 : r1 ≠ r2 := Nat.ne_of_lt (Nat.lt_of_lt_of_le V58.lt szr)
  have crx70 := hR69
  have cr70 := CHr.trans cr59 crx70
  have hC70 := crx70.1
  have sf70_b18 := CHr.safe hR69 f62.lt sf59_b18
  have O71 := O60.keep K69 all0
  have kp72 := kp61.trans K69 (all0)
  have pre73 : ∀ t, Steps p.tables e below (T69.setTop (mkF m 129 #[iv p0, iv p1, iv p2, rv y1, rv y2, rv y3, rv b18, rv r1, iv 1, .unset] [(.ref r2)])) t → Steps p.tables e below (s₁.setTop (entryFrame m #[(.int p0), (.int p1), (.int p2)] maxLocals)) t := fun t kt => by
    refine pre37 _ ?_
    show Steps p.tables e below (T33.setTop (mkF m 36 #[iv p0, iv p1, iv p2, rv y1, rv y2, rv y3, rv b18, .unset, .unset, .unset] [(.ref r1)])) _
    refine XS.astore X33.here hx rfl (hb hby at_36) rfl rfl (l' := #[iv p0, iv p1, iv p2, rv y1, rv y2, rv y3, rv b18, rv r1, .unset, .unset]) rfl ?_
    show Steps p.tables e below (T33.setTop (mkF m 38 #[iv p0, iv p1, iv p2, rv y1, rv y2, rv y3, rv b18, rv r1, .unset, .unset] [])) _
    refine XS.aload X33.here hx rfl (hb hby at_38) rfl rfl ?_
    show Steps p.tables e below (T33.setTop (mkF m 40 #[iv p0, iv p1, iv p2, rv y1, rv y2, rv y3, rv b18, rv r1, .unset, .unset] [(.ref r1)])) _
    refine XS.ifnullNo X33.here hx rfl (hb hby at_40) rfl ?_
    show Steps p.tables e below (T33.setTop (mkF m 43 #[iv p0, iv p1, iv p2, rv y1, rv y2, rv y3, rv b18, rv r1, .unset, .unset] [])) _
    refine XS.aload X33.here hx rfl (hb hby at_43) rfl rfl ?_
    show Steps p.tables e below (T33.setTop (mkF m 45 #[iv p0, iv p1, iv p2, rv y1, rv y2, rv y3, rv b18, rv r1, .unset, .unset] [(.ref r1)])) _
    refine X33.arraylength hx c38A.1 (State.isArrayOf_alike hZ.alike c38A.2.1) (g := (mkF m 45 #[iv p0, iv p1, iv p2, rv y1, rv y2, rv y3, rv b18, rv r1, .unset, .unset] [(.ref r1)])) rfl rfl (hb hby at_45) _ ?_
    rw [len_of c38S c38N]
    show Steps p.tables e below (T33.setTop (mkF m 46 #[iv p0, iv p1, iv p2, rv y1, rv y2, rv y3, rv b18, rv r1, .unset, .unset] [(.int 5)])) _
    refine XS.iconst X33.here hx rfl (hb hby at_46) ?_
    show Steps p.tables e below (T33.setTop (mkF m 47 #[iv p0, iv p1, iv p2, rv y1, rv y2, rv y3, rv b18, rv r1, .unset, .unset] [(.int 5), (.int 5)])) _
    refine XS.icmpYes X33.here hx rfl (pc0 := 47) (pc' := 52) rfl (hb hby at_47) rfl (teq (by decide)).1 (by decide) (by decide) ?_
    show Steps p.tables e below (T33.setTop (mkF m 52 #[iv p0, iv p1, iv p2, rv y1, rv y2, rv y3, rv b18, rv r1, .unset, .unset] [])) _
    refine XS.aload X33.here hx rfl (hb hby at_52) rfl rfl ?_
    show Steps p.tables e below (T33.setTop (mkF m 54 #[iv p0, iv p1, iv p2, rv y1, rv y2, rv y3, rv b18, rv r1, .unset, .unset] [(.ref r1)])) _
    refine XS.iconst X33.here hx rfl (hb hby at_54) ?_
    show Steps p.tables e below (T33.setTop (mkF m 55 #[iv p0, iv p1, iv p2, rv y1, rv y2, rv y3, rv b18, rv r1, .unset, .unset] [(.int 0), (.ref r1)])) _
    refine X33.aaload hx (j := (0 : Int32)) (v := (.ref y1)) c39A.1 (State.isArrayOf_alike hZ.alike c39A.2.1) rfl c39A.2.2 c39in c39at (g := (mkF m 55 #[iv p0, iv p1, iv p2, rv y1, rv y2, rv y3, rv b18, rv r1, .unset, .unset] [(.int 0), (.ref r1)])) rfl rfl (hb hby at_55) _ ?_
    show Steps p.tables e below (T33.setTop (mkF m 56 #[iv p0, iv p1, iv p2, rv y1, rv y2, rv y3, rv b18, rv r1, .unset, .unset] [(.ref y1)])) _
    refine XS.aloadN X33.here hx rfl (hb hby at_56) rfl rfl ?_
    show Steps p.tables e below (T33.setTop (mkF m 57 #[iv p0, iv p1, iv p2, rv y1, rv y2, rv y3, rv b18, rv r1, .unset, .unset] [(.ref y1), (.ref y1)])) _
    refine st40.trans ?_
    show Steps p.tables e below (T40.setTop (mkF m 60 #[iv p0, iv p1, iv p2, rv y1, rv y2, rv y3, rv b18, rv r1, .unset, .unset] [(.int 1)])) _
    refine XS.ifNo X40.here hx rfl (hb hby at_60) rfl ((if0 _ _).trans (feq (by decide)).1) ?_
    show Steps p.tables e below (T40.setTop (mkF m 63 #[iv p0, iv p1, iv p2, rv y1, rv y2, rv y3, rv b18, rv r1, .unset, .unset] [])) _
    refine XS.aload X40.here hx rfl (hb hby at_63) rfl rfl ?_
    show Steps p.tables e below (T40.setTop (mkF m 65 #[iv p0, iv p1, iv p2, rv y1, rv y2, rv y3, rv b18, rv r1, .unset, .unset] [(.ref r1)])) _
    refine XS.iconst X40.here hx rfl (hb hby at_65) ?_
    show Steps p.tables e below (T40.setTop (mkF m 66 #[iv p0, iv p1, iv p2, rv y1, rv y2, rv y3, rv b18, rv r1, .unset, .unset] [(.int 1), (.ref r1)])) _
    refine X40.aaload hx (j := (1 : Int32)) (v := (.ref l1_1)) (by rw [e40]; exact c42A.1) (State.isArrayOf_alike hZ.alike c42A.2.1) rfl c42A.2.2 c42in c42at (g := (mkF m 66 #[iv p0, iv p1, iv p2, rv y1, rv y2, rv y3, rv b18, rv r1, .unset, .unset] [(.int 1), (.ref r1)])) rfl rfl (hb hby at_66) _ ?_
    show Steps p.tables e below (T40.setTop (mkF m 67 #[iv p0, iv p1, iv p2, rv y1, rv y2, rv y3, rv b18, rv r1, .unset, .unset] [(.ref l1_1)])) _
    refine st43.trans ?_
    show Steps p.tables e below (T43.setTop (mkF m 70 #[iv p0, iv p1, iv p2, rv y1, rv y2, rv y3, rv b18, rv r1, .unset, .unset] [(.int 1)])) _
    refine XS.ifNo X43.here hx rfl (hb hby at_70) rfl ((if0 _ _).trans (feq (by decide)).1) ?_
    show Steps p.tables e below (T43.setTop (mkF m 73 #[iv p0, iv p1, iv p2, rv y1, rv y2, rv y3, rv b18, rv r1, .unset, .unset] [])) _
    refine XS.aload X43.here hx rfl (hb hby at_73) rfl rfl ?_
    show Steps p.tables e below (T43.setTop (mkF m 75 #[iv p0, iv p1, iv p2, rv y1, rv y2, rv y3, rv b18, rv r1, .unset, .unset] [(.ref r1)])) _
    refine XS.iconst X43.here hx rfl (hb hby at_75) ?_
    show Steps p.tables e below (T43.setTop (mkF m 76 #[iv p0, iv p1, iv p2, rv y1, rv y2, rv y3, rv b18, rv r1, .unset, .unset] [(.int 2), (.ref r1)])) _
    refine X43.aaload hx (j := (2 : Int32)) (v := (.ref l2_1)) (by rw [e43]; exact c44A.1) (State.isArrayOf_alike hZ.alike c44A.2.1) rfl c44A.2.2 c44in c44at (g := (mkF m 76 #[iv p0, iv p1, iv p2, rv y1, rv y2, rv y3, rv b18, rv r1, .unset, .unset] [(.int 2), (.ref r1)])) rfl rfl (hb hby at_76) _ ?_
    show Steps p.tables e below (T43.setTop (mkF m 77 #[iv p0, iv p1, iv p2, rv y1, rv y2, rv y3, rv b18, rv r1, .unset, .unset] [(.ref l2_1)])) _
    refine st45.trans ?_
    show Steps p.tables e below (T45.setTop (mkF m 80 #[iv p0, iv p1, iv p2, rv y1, rv y2, rv y3, rv b18, rv r1, .unset, .unset] [(.int 1)])) _
    refine XS.ifNo X45.here hx rfl (hb hby at_80) rfl ((if0 _ _).trans (feq (by decide)).1) ?_
    show Steps p.tables e below (T45.setTop (mkF m 83 #[iv p0, iv p1, iv p2, rv y1, rv y2, rv y3, rv b18, rv r1, .unset, .unset] [])) _
    refine XS.aload X45.here hx rfl (hb hby at_83) rfl rfl ?_
    show Steps p.tables e below (T45.setTop (mkF m 85 #[iv p0, iv p1, iv p2, rv y1, rv y2, rv y3, rv b18, rv r1, .unset, .unset] [(.ref r1)])) _
    refine XS.iconst X45.here hx rfl (hb hby at_85) ?_
    show Steps p.tables e below (T45.setTop (mkF m 86 #[iv p0, iv p1, iv p2, rv y1, rv y2, rv y3, rv b18, rv r1, .unset, .unset] [(.int 3), (.ref r1)])) _
    refine X45.aaload hx (j := (3 : Int32)) (v := (.ref y2)) (by rw [e45]; exact c46A.1) (State.isArrayOf_alike hZ.alike c46A.2.1) rfl c46A.2.2 c46in c46at (g := (mkF m 86 #[iv p0, iv p1, iv p2, rv y1, rv y2, rv y3, rv b18, rv r1, .unset, .unset] [(.int 3), (.ref r1)])) rfl rfl (hb hby at_86) _ ?_
    show Steps p.tables e below (T45.setTop (mkF m 87 #[iv p0, iv p1, iv p2, rv y1, rv y2, rv y3, rv b18, rv r1, .unset, .unset] [(.ref y2)])) _
    refine XS.aload X45.here hx rfl (hb hby at_87) rfl rfl ?_
    show Steps p.tables e below (T45.setTop (mkF m 89 #[iv p0, iv p1, iv p2, rv y1, rv y2, rv y3, rv b18, rv r1, .unset, .unset] [(.ref y2), (.ref y2)])) _
    refine st47.trans ?_
    show Steps p.tables e below (T47.setTop (mkF m 92 #[iv p0, iv p1, iv p2, rv y1, rv y2, rv y3, rv b18, rv r1, .unset, .unset] [(.int 1)])) _
    refine XS.ifNo X47.here hx rfl (hb hby at_92) rfl ((if0 _ _).trans (feq (by decide)).1) ?_
    show Steps p.tables e below (T47.setTop (mkF m 95 #[iv p0, iv p1, iv p2, rv y1, rv y2, rv y3, rv b18, rv r1, .unset, .unset] [])) _
    refine XS.aload X47.here hx rfl (hb hby at_95) rfl rfl ?_
    show Steps p.tables e below (T47.setTop (mkF m 97 #[iv p0, iv p1, iv p2, rv y1, rv y2, rv y3, rv b18, rv r1, .unset, .unset] [(.ref r1)])) _
    refine XS.iconst X47.here hx rfl (hb hby at_97) ?_
    show Steps p.tables e below (T47.setTop (mkF m 98 #[iv p0, iv p1, iv p2, rv y1, rv y2, rv y3, rv b18, rv r1, .unset, .unset] [(.int 4), (.ref r1)])) _
    refine X47.aaload hx (j := (4 : Int32)) (v := (.ref y3)) (by rw [e47]; exact c49A.1) (State.isArrayOf_alike hZ.alike c49A.2.1) rfl c49A.2.2 c49in c49at (g := (mkF m 98 #[iv p0, iv p1, iv p2, rv y1, rv y2, rv y3, rv b18, rv r1, .unset, .unset] [(.int 4), (.ref r1)])) rfl rfl (hb hby at_98) _ ?_
    show Steps p.tables e below (T47.setTop (mkF m 99 #[iv p0, iv p1, iv p2, rv y1, rv y2, rv y3, rv b18, rv r1, .unset, .unset] [(.ref y3)])) _
    refine XS.aload X47.here hx rfl (hb hby at_99) rfl rfl ?_
    show Steps p.tables e below (T47.setTop (mkF m 101 #[iv p0, iv p1, iv p2, rv y1, rv y2, rv y3, rv b18, rv r1, .unset, .unset] [(.ref y3), (.ref y3)])) _
    refine st50.trans ?_
    show Steps p.tables e below (T50.setTop (mkF m 104 #[iv p0, iv p1, iv p2, rv y1, rv y2, rv y3, rv b18, rv r1, .unset, .unset] [(.int 1)])) _
    refine XS.ifNo X50.here hx rfl (hb hby at_104) rfl ((if0 _ _).trans (feq (by decide)).1) ?_
    show Steps p.tables e below (T50.setTop (mkF m 107 #[iv p0, iv p1, iv p2, rv y1, rv y2, rv y3, rv b18, rv r1, .unset, .unset] [])) _
    refine XS.iconst X50.here hx rfl (hb hby at_107) ?_
    show Steps p.tables e below (T50.setTop (mkF m 108 #[iv p0, iv p1, iv p2, rv y1, rv y2, rv y3, rv b18, rv r1, .unset, .unset] [(.int 1)])) _
    refine XS.goto X50.here hx rfl (pc0 := 108) (pc' := 112) rfl (hb hby at_108) (by decide) (by decide) ?_
    show Steps p.tables e below (T50.setTop (mkF m 112 #[iv p0, iv p1, iv p2, rv y1, rv y2, rv y3, rv b18, rv r1, .unset, .unset] [(.int 1)])) _
    refine XS.istore X50.here hx rfl (hb hby at_112) rfl (l' := #[iv p0, iv p1, iv p2, rv y1, rv y2, rv y3, rv b18, rv r1, iv 1, .unset]) rfl ?_
    show Steps p.tables e below (T50.setTop (mkF m 114 #[iv p0, iv p1, iv p2, rv y1, rv y2, rv y3, rv b18, rv r1, iv 1, .unset] [])) _
    refine XS.aload X50.here hx rfl (hb hby at_114) rfl rfl ?_
    show Steps p.tables e below (T50.setTop (mkF m 116 #[iv p0, iv p1, iv p2, rv y1, rv y2, rv y3, rv b18, rv r1, iv 1, .unset] [(.ref r1)])) _
    refine XS.iconst X50.here hx rfl (hb hby at_116) ?_
    show Steps p.tables e below (T50.setTop (mkF m 117 #[iv p0, iv p1, iv p2, rv y1, rv y2, rv y3, rv b18, rv r1, iv 1, .unset] [(.int 0), (.ref r1)])) _
    refine XS.aconstNull X50.here hx rfl (hb hby at_117) ?_
    show Steps p.tables e below (T50.setTop (mkF m 118 #[iv p0, iv p1, iv p2, rv y1, rv y2, rv y3, rv b18, rv r1, iv 1, .unset] [.null, (.int 0), (.ref r1)])) _
    refine st53 _ ?_
    show Steps p.tables e below (T53.setTop (mkF m 119 #[iv p0, iv p1, iv p2, rv y1, rv y2, rv y3, rv b18, rv r1, iv 1, .unset] [])) _
    refine XS.aload X53.here hx rfl (hb hby at_119) rfl rfl ?_
    show Steps p.tables e below (T53.setTop (mkF m 121 #[iv p0, iv p1, iv p2, rv y1, rv y2, rv y3, rv b18, rv r1, iv 1, .unset] [(.ref r1)])) _
    refine XS.iconst X53.here hx rfl (hb hby at_121) ?_
    show Steps p.tables e below (T53.setTop (mkF m 122 #[iv p0, iv p1, iv p2, rv y1, rv y2, rv y3, rv b18, rv r1, iv 1, .unset] [(.int 3), (.ref r1)])) _
    refine XS.aconstNull X53.here hx rfl (hb hby at_122) ?_
    show Steps p.tables e below (T53.setTop (mkF m 123 #[iv p0, iv p1, iv p2, rv y1, rv y2, rv y3, rv b18, rv r1, iv 1, .unset] [.null, (.int 3), (.ref r1)])) _
    refine st58 _ ?_
    show Steps p.tables e below (T58.setTop (mkF m 124 #[iv p0, iv p1, iv p2, rv y1, rv y2, rv y3, rv b18, rv r1, iv 1, .unset] [])) _
    refine XS.aload X58.here hx rfl (hb hby at_124) rfl rfl ?_
    show Steps p.tables e below (T58.setTop (mkF m 126 #[iv p0, iv p1, iv p2, rv y1, rv y2, rv y3, rv b18, rv r1, iv 1, .unset] [(.ref b18)])) _
    refine st69.trans ?_
    show Steps p.tables e below (T69.setTop (mkF m 129 #[iv p0, iv p1, iv p2, rv y1, rv y2, rv y3, rv b18, rv r1, iv 1, .unset] [(.ref r2)])) _
    exact kt
  have hZ := hZ69
  have hown := hown69
  obtain ⟨K69q, gK69⟩ : ∃ z, z = T69.heap.size := ⟨_, rfl⟩
  rw [← gK69] at hS69
  have hkq69 : K69q ≤ T69.heap.size := Nat.le_of_eq gK69
  obtain ⟨c74, c74A, c74q, c74S, c74N, c74H, c74G⟩ := id Vr_2
  obtain ⟨c75, c75A, c75q, c75S, c75N, c75H, c75G⟩ := id Vr_2
  have c75in : ¬ ((0 : Int32) < 0 ∨ c75.slots.size ≤ ((0 : Int32)).toNatClampNeg) := inb_of c75S ⟨by decide, by decide⟩
  have c75at : c75.slots[((0 : Int32)).toNatClampNeg]? = some (.ref y1) := Has.at c75H c75in rfl
  obtain ⟨c76, c76A, c76q, c76S, c76N, c76H, c76G⟩ := id Vr_2
  have c76in : ¬ ((3 : Int32) < 0 ∨ c76.slots.size ≤ ((3 : Int32)).toNatClampNeg) := inb_of c76S ⟨by decide, by decide⟩
  have c76at : c76.slots[((3 : Int32)).toNatClampNeg]? = some (.ref y2) := Has.at c76H c76in rfl
  obtain ⟨c77, c77A, c77q, c77S, c77N, c77H, c77G⟩ := id Vr_2
  have c77in : ¬ ((0 : Int32) < 0 ∨ c77.slots.size ≤ ((0 : Int32)).toNatClampNeg) := inb_of c77S ⟨by decide, by decide⟩
  have c77at : c77.slots[((0 : Int32)).toNatClampNeg]? = some (.ref y1) := Has.at c77H c77in rfl
  have f79 := (f66.keep K69)
  obtain ⟨cq78, kq78, q78a, q78b, q78c⟩ := isOf hZ rfl f79
  obtain ⟨_, _, ⟨T78, L78, k78, n78⟩, -, X78, ⟨Lc78, hQ78, l78, y78, z78⟩, st78⟩ := X69.virtualBack hx (y := (⟨"java/lang/String", "equals", "(Ljava/lang/Object;)Z"⟩ : MethodName)) (z := (⟨"java/lang/String", "equals", "(Ljava/lang/Object;)Z"⟩ : MethodName)) hown (mvT hZ (hw _ (own_m 63 rfl))) (mvT hZ (hw _ (own_m 64 rfl))) (notFace_of_selects (args := #[]) (mvT hZ (hw _ (own_m 66 rfl)))) (mvT hZ (hw _ (own_m 66 rfl))) (mvT hZ (hw _ (own_m 65 rfl))) (by decide) (backOf (W := 0) (own_eqs l Z a0 hw [] cz y1 T69.heap n0 O71 S_CZ hcz ) hZ (hw _ (own_m 67 rfl)) (hw _ (own_m 6 rfl)) (by decide) (by decide)) q78a q78c (g := (mkF m 169 #[iv p0, iv p1, iv p2, rv y1, rv y2, rv y3, rv b18, rv r1, iv 1, rv r2] [(.ref y1), (.ref y1)])) rfl (by rw [hml]; rfl) (Steps.refl _) (argsL := [(.ref y1)]) (rest := []) (lenOf own_pd13 rfl) rfl (by show 2 * 0 + _ ≤ _; exact Nat.le_of_eq rfl) (hb hby at_169) (fun _ _ => ⟨rfl, rfl, (by decide : 29 + 0 ≤ _), (by decide : 65 + 0 ≤ _)⟩)
  dsimp only [Pt.U, Pt.locs, Pt.cells, Pt.slots] at X78 l78 y78 z78 st78 hQ78
  subst l78 y78 z78
  obtain ⟨rfl, N78q, e78⟩ := hQ78
  have N78 := Fr.app N69 N78q
  obtain ⟨c80, c80A, c80q, c80S, c80N, c80H, c80G⟩ := id Vr_2
  have c80in : ¬ ((3 : Int32) < 0 ∨ c80.slots.size ≤ ((3 : Int32)).toNatClampNeg) := inb_of c80S ⟨by decide, by decide⟩
  have c80at : c80.slots[((3 : Int32)).toNatClampNeg]? = some (.ref y2) := Has.at c80H c80in rfl
  have f82 := (f67.keep K69)
  obtain ⟨cq81, kq81, q81a, q81b, q81c⟩ := isOf hZ e78 f82
  obtain ⟨_, _, ⟨T81, L81, k81, n81⟩, -, X81, ⟨Lc81, hQ81, l81, y81, z81⟩, st81⟩ := X78.virtualBack hx (y := (⟨"java/lang/String", "equals", "(Ljava/lang/Object;)Z"⟩ : MethodName)) (z := (⟨"java/lang/String", "equals", "(Ljava/lang/Object;)Z"⟩ : MethodName)) hown (mvT hZ (hw _ (own_m 63 rfl))) (mvT hZ (hw _ (own_m 64 rfl))) (notFace_of_selects (args := #[]) (mvT hZ (hw _ (own_m 66 rfl)))) (mvT hZ (hw _ (own_m 66 rfl))) (mvT hZ (hw _ (own_m 65 rfl))) (by decide) (backOf (W := 0) (own_eqs l Z a0 hw [] cz y2 T69.heap n0 O71 S_CZ hcz ) hZ (hw _ (own_m 67 rfl)) (hw _ (own_m 6 rfl)) (by decide) (by decide)) q81a q81c (g := (mkF m 181 #[iv p0, iv p1, iv p2, rv y1, rv y2, rv y3, rv b18, rv r1, iv 1, rv r2] [(.ref y2), (.ref y2)])) rfl (by rw [hml]; rfl) (Steps.refl _) (argsL := [(.ref y2)]) (rest := []) (lenOf own_pd13 rfl) rfl (by show 2 * 0 + _ ≤ _; exact Nat.le_of_eq rfl) (hb hby at_181) (fun _ _ => ⟨rfl, e78, (by decide : 29 + 0 ≤ _), (by decide : 65 + 0 ≤ _)⟩)
  dsimp only [Pt.U, Pt.locs, Pt.cells, Pt.slots] at X81 l81 y81 z81 st81 hQ81
  subst l81 y81 z81
  obtain ⟨rfl, N81q, e81⟩ := hQ81
  have N81 := Fr.app N78 N81q
  have hkz := (e81.symm ▸ hkq69)
  obtain ⟨fs, hr, hrun, hended, hRW⟩ := X81.leaveW hS69 hkz (v := some (.int 1)) (fun h => by rw [Bd.returns] at h; cases h)
  have hcz := CHr.trans cr70 (CHv.at X81 hZ (own_ew hw) hC70)
  refine ⟨_, _, pre73 _ ?_, hrun, hended, _, _, rfl, ?_, ?_, hRW.1, hRW.2.1, hRW.2.2.1, hRW.2.2.2.mono (by decide) (by decide)⟩
  · show Steps p.tables e below (T69.setTop (mkF m 129 #[iv p0, iv p1, iv p2, rv y1, rv y2, rv y3, rv b18, rv r1, iv 1, .unset] [(.ref r2)])) _
    refine XS.astore X69.here hx rfl (hb hby at_129) rfl rfl (l' := #[iv p0, iv p1, iv p2, rv y1, rv y2, rv y3, rv b18, rv r1, iv 1, rv r2]) rfl ?_
    show Steps p.tables e below (T69.setTop (mkF m 131 #[iv p0, iv p1, iv p2, rv y1, rv y2, rv y3, rv b18, rv r1, iv 1, rv r2] [])) _
    refine XS.aload X69.here hx rfl (hb hby at_131) rfl rfl ?_
    show Steps p.tables e below (T69.setTop (mkF m 133 #[iv p0, iv p1, iv p2, rv y1, rv y2, rv y3, rv b18, rv r1, iv 1, rv r2] [(.ref r2)])) _
    refine XS.ifnullNo X69.here hx rfl (hb hby at_133) rfl ?_
    show Steps p.tables e below (T69.setTop (mkF m 136 #[iv p0, iv p1, iv p2, rv y1, rv y2, rv y3, rv b18, rv r1, iv 1, rv r2] [])) _
    refine XS.aload X69.here hx rfl (hb hby at_136) rfl rfl ?_
    show Steps p.tables e below (T69.setTop (mkF m 138 #[iv p0, iv p1, iv p2, rv y1, rv y2, rv y3, rv b18, rv r1, iv 1, rv r2] [(.ref r2)])) _
    refine X69.arraylength hx c74A.1 (State.isArrayOf_alike hZ.alike c74A.2.1) (g := (mkF m 138 #[iv p0, iv p1, iv p2, rv y1, rv y2, rv y3, rv b18, rv r1, iv 1, rv r2] [(.ref r2)])) rfl rfl (hb hby at_138) _ ?_
    rw [len_of c74S c74N]
    show Steps p.tables e below (T69.setTop (mkF m 139 #[iv p0, iv p1, iv p2, rv y1, rv y2, rv y3, rv b18, rv r1, iv 1, rv r2] [(.int 5)])) _
    refine XS.iconst X69.here hx rfl (hb hby at_139) ?_
    show Steps p.tables e below (T69.setTop (mkF m 140 #[iv p0, iv p1, iv p2, rv y1, rv y2, rv y3, rv b18, rv r1, iv 1, rv r2] [(.int 5), (.int 5)])) _
    refine XS.icmpNo X69.here hx rfl (hb hby at_140) rfl (teq (by decide)).2 ?_
    show Steps p.tables e below (T69.setTop (mkF m 143 #[iv p0, iv p1, iv p2, rv y1, rv y2, rv y3, rv b18, rv r1, iv 1, rv r2] [])) _
    refine XS.aload X69.here hx rfl (hb hby at_143) rfl rfl ?_
    show Steps p.tables e below (T69.setTop (mkF m 145 #[iv p0, iv p1, iv p2, rv y1, rv y2, rv y3, rv b18, rv r1, iv 1, rv r2] [(.ref r2)])) _
    refine XS.iconst X69.here hx rfl (hb hby at_145) ?_
    show Steps p.tables e below (T69.setTop (mkF m 146 #[iv p0, iv p1, iv p2, rv y1, rv y2, rv y3, rv b18, rv r1, iv 1, rv r2] [(.int 0), (.ref r2)])) _
    refine X69.aaload hx (j := (0 : Int32)) (v := (.ref y1)) c75A.1 (State.isArrayOf_alike hZ.alike c75A.2.1) rfl c75A.2.2 c75in c75at (g := (mkF m 146 #[iv p0, iv p1, iv p2, rv y1, rv y2, rv y3, rv b18, rv r1, iv 1, rv r2] [(.int 0), (.ref r2)])) rfl rfl (hb hby at_146) _ ?_
    show Steps p.tables e below (T69.setTop (mkF m 147 #[iv p0, iv p1, iv p2, rv y1, rv y2, rv y3, rv b18, rv r1, iv 1, rv r2] [(.ref y1)])) _
    refine XS.ifnullNo X69.here hx rfl (hb hby at_147) rfl ?_
    show Steps p.tables e below (T69.setTop (mkF m 150 #[iv p0, iv p1, iv p2, rv y1, rv y2, rv y3, rv b18, rv r1, iv 1, rv r2] [])) _
    refine XS.aload X69.here hx rfl (hb hby at_150) rfl rfl ?_
    show Steps p.tables e below (T69.setTop (mkF m 152 #[iv p0, iv p1, iv p2, rv y1, rv y2, rv y3, rv b18, rv r1, iv 1, rv r2] [(.ref r2)])) _
    refine XS.iconst X69.here hx rfl (hb hby at_152) ?_
    show Steps p.tables e below (T69.setTop (mkF m 153 #[iv p0, iv p1, iv p2, rv y1, rv y2, rv y3, rv b18, rv r1, iv 1, rv r2] [(.int 3), (.ref r2)])) _
    refine X69.aaload hx (j := (3 : Int32)) (v := (.ref y2)) c76A.1 (State.isArrayOf_alike hZ.alike c76A.2.1) rfl c76A.2.2 c76in c76at (g := (mkF m 153 #[iv p0, iv p1, iv p2, rv y1, rv y2, rv y3, rv b18, rv r1, iv 1, rv r2] [(.int 3), (.ref r2)])) rfl rfl (hb hby at_153) _ ?_
    show Steps p.tables e below (T69.setTop (mkF m 154 #[iv p0, iv p1, iv p2, rv y1, rv y2, rv y3, rv b18, rv r1, iv 1, rv r2] [(.ref y2)])) _
    refine XS.ifnonnullYes X69.here hx rfl (pc0 := 154) (pc' := 159) rfl (hb hby at_154) rfl (by decide) (by decide) ?_
    show Steps p.tables e below (T69.setTop (mkF m 159 #[iv p0, iv p1, iv p2, rv y1, rv y2, rv y3, rv b18, rv r1, iv 1, rv r2] [])) _
    refine XS.iload X69.here hx rfl (hb hby at_159) rfl ?_
    show Steps p.tables e below (T69.setTop (mkF m 161 #[iv p0, iv p1, iv p2, rv y1, rv y2, rv y3, rv b18, rv r1, iv 1, rv r2] [(.int 1)])) _
    refine XS.ifNo X69.here hx rfl (hb hby at_161) rfl ((if0 _ _).trans (feq (by decide)).1) ?_
    show Steps p.tables e below (T69.setTop (mkF m 164 #[iv p0, iv p1, iv p2, rv y1, rv y2, rv y3, rv b18, rv r1, iv 1, rv r2] [])) _
    refine XS.aload X69.here hx rfl (hb hby at_164) rfl rfl ?_
    show Steps p.tables e below (T69.setTop (mkF m 166 #[iv p0, iv p1, iv p2, rv y1, rv y2, rv y3, rv b18, rv r1, iv 1, rv r2] [(.ref r2)])) _
    refine XS.iconst X69.here hx rfl (hb hby at_166) ?_
    show Steps p.tables e below (T69.setTop (mkF m 167 #[iv p0, iv p1, iv p2, rv y1, rv y2, rv y3, rv b18, rv r1, iv 1, rv r2] [(.int 0), (.ref r2)])) _
    refine X69.aaload hx (j := (0 : Int32)) (v := (.ref y1)) c77A.1 (State.isArrayOf_alike hZ.alike c77A.2.1) rfl c77A.2.2 c77in c77at (g := (mkF m 167 #[iv p0, iv p1, iv p2, rv y1, rv y2, rv y3, rv b18, rv r1, iv 1, rv r2] [(.int 0), (.ref r2)])) rfl rfl (hb hby at_167) _ ?_
    show Steps p.tables e below (T69.setTop (mkF m 168 #[iv p0, iv p1, iv p2, rv y1, rv y2, rv y3, rv b18, rv r1, iv 1, rv r2] [(.ref y1)])) _
    refine XS.aloadN X69.here hx rfl (hb hby at_168) rfl rfl ?_
    show Steps p.tables e below (T69.setTop (mkF m 169 #[iv p0, iv p1, iv p2, rv y1, rv y2, rv y3, rv b18, rv r1, iv 1, rv r2] [(.ref y1), (.ref y1)])) _
    refine st78.trans ?_
    show Steps p.tables e below (T78.setTop (mkF m 172 #[iv p0, iv p1, iv p2, rv y1, rv y2, rv y3, rv b18, rv r1, iv 1, rv r2] [(.int 1)])) _
    refine XS.ifNo X78.here hx rfl (hb hby at_172) rfl ((if0 _ _).trans (feq (by decide)).1) ?_
    show Steps p.tables e below (T78.setTop (mkF m 175 #[iv p0, iv p1, iv p2, rv y1, rv y2, rv y3, rv b18, rv r1, iv 1, rv r2] [])) _
    refine XS.aload X78.here hx rfl (hb hby at_175) rfl rfl ?_
    show Steps p.tables e below (T78.setTop (mkF m 177 #[iv p0, iv p1, iv p2, rv y1, rv y2, rv y3, rv b18, rv r1, iv 1, rv r2] [(.ref r2)])) _
    refine XS.iconst X78.here hx rfl (hb hby at_177) ?_
    show Steps p.tables e below (T78.setTop (mkF m 178 #[iv p0, iv p1, iv p2, rv y1, rv y2, rv y3, rv b18, rv r1, iv 1, rv r2] [(.int 3), (.ref r2)])) _
    refine X78.aaload hx (j := (3 : Int32)) (v := (.ref y2)) (by rw [e78]; exact c80A.1) (State.isArrayOf_alike hZ.alike c80A.2.1) rfl c80A.2.2 c80in c80at (g := (mkF m 178 #[iv p0, iv p1, iv p2, rv y1, rv y2, rv y3, rv b18, rv r1, iv 1, rv r2] [(.int 3), (.ref r2)])) rfl rfl (hb hby at_178) _ ?_
    show Steps p.tables e below (T78.setTop (mkF m 179 #[iv p0, iv p1, iv p2, rv y1, rv y2, rv y3, rv b18, rv r1, iv 1, rv r2] [(.ref y2)])) _
    refine XS.aload X78.here hx rfl (hb hby at_179) rfl rfl ?_
    show Steps p.tables e below (T78.setTop (mkF m 181 #[iv p0, iv p1, iv p2, rv y1, rv y2, rv y3, rv b18, rv r1, iv 1, rv r2] [(.ref y2), (.ref y2)])) _
    refine st81.trans ?_
    show Steps p.tables e below (T81.setTop (mkF m 184 #[iv p0, iv p1, iv p2, rv y1, rv y2, rv y3, rv b18, rv r1, iv 1, rv r2] [(.int 1)])) _
    refine XS.ifNo X81.here hx rfl (hb hby at_184) rfl ((if0 _ _).trans (feq (by decide)).1) ?_
    show Steps p.tables e below (T81.setTop (mkF m 187 #[iv p0, iv p1, iv p2, rv y1, rv y2, rv y3, rv b18, rv r1, iv 1, rv r2] [])) _
    refine XS.iconst X81.here hx rfl (hb hby at_187) ?_
    show Steps p.tables e below (T81.setTop (mkF m 188 #[iv p0, iv p1, iv p2, rv y1, rv y2, rv y3, rv b18, rv r1, iv 1, rv r2] [(.int 1)])) _
    refine XS.goto X81.here hx rfl (pc0 := 188) (pc' := 192) rfl (hb hby at_188) (by decide) (by decide) ?_
    show Steps p.tables e below (T81.setTop (mkF m 192 #[iv p0, iv p1, iv p2, rv y1, rv y2, rv y3, rv b18, rv r1, iv 1, rv r2] [(.int 1)])) _
    exact retN X81 hx (t := .boolean) Bd.returns (by simp) (hb hby at_192) hr
  · show own_law_Q Z cz p0 p1 p2 h0 n0 _ T81.heap _
    rw [e81]
    exact ⟨rfl, N81⟩
  · show CHr Z own_EL s.vm s.heap T81.vm T81.heap
    rw [hh, e81]
    exact hcz
set_option maxRecDepth 65536 in
set_option maxHeartbeats 40000000 in
theorem comes_1 {Post : Tables → Env → Array Value → State → Outcome → State → Prop} (hpost : ∀ tb e args s v u, (limb_1_1.after args s (.returned v) u = true ∧ limb_1_2.after args s (.returned v) u = true ∧ True) → ReturnedEndW s (.returned v) u (Jvm.fieldLocs frame_1_writes args s ++ Jvm.arrayLocs frame_1_arrays args s ++ Jvm.staticLocs frame_1_statics s) 40 2240 → Post tb e args s (.returned v) u) :
    ArmFor flags0 classFile x code maxLocals ret World_1 tables_1 room_1 Calls_1 rest_1 Pre_1 Post := by
  intro l hfl _ _ p e ha hc hk s m args below hf hA hF happ hP
  obtain ⟨hcalls, hrest, hpre⟩ := hP
  obtain ⟨-, -, -, hnamed, -, -, -, hat⟩ := (Spec.applies_iff hf).mp happ
  obtain ⟨hg, hn⟩ := and_e (Cond.before_iff.mp (show (Jvm.Cond.and given_1 narrow_1).before args s = true from hpre))
  obtain ⟨hq1, hq2⟩ := and_e hg
  obtain ⟨hq3, hq4⟩ := and_e hq2
  obtain ⟨hq5, hq6⟩ := and_e hq4
  obtain ⟨w0, w1, w2, rfl⟩ : ∃ w0 w1 w2 : Value, args = #[w0, w1, w2] := by
    have hs : args.size = 3 := by simpa [Cond.value, given_1] using hq1
    obtain ⟨L⟩ := args
    match L, hs with
    | [w0, w1, w2], _ => exact ⟨w0, w1, w2, rfl⟩
  have hw := fun d (hd : d ∈ tables_1) => atoms_spec (ws := Jvm.Cond.code x code maxLocals ret :: tables_1) hat d (List.mem_cons_of_mem _ hd)
  have hfit : Fit s := fun {y c} hc i hi => by
    obtain ⟨ha, rfl⟩ := Array.getElem?_eq_some_iff.mp hc
    have q := List.all_eq_true.mp ((Array.all_eq_true_iff_forall_mem.mp hF) _ (Array.getElem_mem ha)) i (List.mem_range.mpr hi)
    simpa [Array.getElem?_eq_getElem hi] using q
  obtain ⟨hsets, hown0⟩ := atoms_of _ (rest_1_c_eq ▸ (show rest_1_c.before _ s = true from hrest))
  obtain ⟨i0, ei0⟩ := is_v hq3
  obtain rfl : w0 = (.int i0) := Option.some.inj ei0
  obtain ⟨i1, ei1⟩ := is_v hq5
  obtain rfl : w1 = (.int i1) := Option.some.inj ei1
  obtain ⟨i2, ei2⟩ := is_v hq6
  obtain rfl : w2 = (.int i2) := Option.some.inj ei2
  obtain ⟨cz, ev_CZ⟩ := is_v (Cond.before_iff.mp (hsets _ (own_m 1 rfl)))
  have S_CZ : Sta s s.heap "java/lang/String" "COMPACT_STRINGS" "Z" (.int cz) := Sta.start ev_CZ (Or.inl (hsets _ (own_m 0 rfl)))
  have hcz : ¬ (cz = (0 : Int32)) := gotF (Cond.eq_ints ev_CZ (Term.int_eval (0))) (not_v (Cond.before_iff.mp (hsets _ (own_m 2 rfl))))
  have hCS : CHv s own_EL s.vm s.heap := CHv.start (own_ew hw) (fun q hq => hcalls.1 q hq) (hsets _ (own_m 2 rfl)) (hw _ (own_m 19 rfl)) (hw _ (own_m 5 rfl))
  obtain ⟨n, o, h1, h2, h3, _, L, rfl, ⟨rfl, N⟩, -, hq⟩ := own_law l s _ hw tables_1 cz i0 i1 i2 s.heap s.heap.size (Old.start s) S_CZ hcz p e ha hc hk s m _ below hf ((Spec.applies_iff_loose hf).mp happ).1 ⟨rfl, State.Warmed39.refl s, rfl, hCS⟩ trivial
  refine ⟨n, _, h1, h2, h3, hpost _ _ _ _ _ _ ⟨Cond.after_iff.mpr rfl, Cond.after_iff.mpr (eq_i res_at (Term.int_eval (1)) rfl), trivial⟩ ⟨hq.1, hq.2.1, hq.2.2.1, (hq.2.2.2.sift fun y hy => Or.inr (N y hy)).mono (by decide) (by decide)⟩⟩
theorem main_1_1 : Claimed_1_1 := comes_1 fun _ _ _ _ _ _ h hF => ⟨h.1, hF⟩
theorem main_1_2 : Claimed_1_2 := comes_1 fun _ _ _ _ _ _ h hF => ⟨h.2.1, hF⟩
end Jvm.Pilot.@@N@@
namespace Jvm.Pilot.@@N@@
open Jvm Jvm.ClassFile Sem Op Lib Jvm.Free Jvm.Stand Jvm.Pilot.@@N@@.Jvm.D
/-! MADE BY PROGRAM (witnessworld.py) out of the Statement's table words and the real class files: 22 classes; the members and pool entries that the words name. The judged class is class 1, her method 2. -/
namespace start1
open Jvm.ClassFile
def u (s : String) : CpInfo := .utf8 (stringToUtf16 s)
/-- a pool by its gaps: so many unusable entries, then the entry; so many at the end -/
def gap : Nat → List CpInfo → List CpInfo
  | 0, r => r
  | n + 1, r => .unusable :: gap n r
def poolList (es : List (Nat × CpInfo)) (last : Nat) : List CpInfo := es.foldr (fun e r => gap e.1 (e.2 :: r)) (gap last [])
def pool (es : List (Nat × CpInfo)) (last : Nat) : Array CpInfo := ⟨poolList es last⟩
def fileOf (pool : Array CpInfo) (this : Nat) (attrs : Array Attribute := #[]) (ms : Array MethodInfo := #[]) (fl : Nat := 33) (sup : Nat := 0) (ifs : Array Nat := #[]) (fds : Array FieldInfo := #[]) : ClassFile where
  minorVersion := 0
  majorVersion := 65
  constantPool := pool
  accessFlags := fl
  thisClass := this
  superClass := sup
  interfaces := ifs
  fields := fds
  methods := ms
  attributes := attrs
def plain (name : String) (sup : Option ClassId) : Class where
  name := name
  kind := .ordinary
  loader := none
  accessFlags := 33
  super := sup
  interfaces := #[]
  cf := none
  fields := #[]
  methods := #[]
  instanceTypes := #[]
  staticTypes := #[]
  resolved := #[]
  callSites := []
  init := .initialized
  statics := none
  mirror := none

def pool0 : Array CpInfo := pool [(5, u "<init>"), (0, u "()V"), (1, .class_ 10), (1, u "java/lang/Object")] 113

def k0c0 : Code := { maxStack := 0, maxLocals := 1, code := object_method_1_code, exceptionTable := #[], attributes := #[] }
def k0m0 : Method := { name := "<init>", desc := "()V", sig := { parameters := [], returnType := none }, accessFlags := 1, code := some k0c0 }
/-- java/lang/Object -/
def k0 : Class := { plain "java/lang/Object" none with
  accessFlags := 33
  interfaces := #[]
  cf := some (fileOf pool0 8 #[] #[{ accessFlags := 1, nameIndex := 5, descriptorIndex := 6, attributes := #[] }] 33 0 #[] #[])
  fields := #[]
  methods := #[k0m0]
  instanceTypes := #[]
  staticTypes := #[]
  resolved := Array.replicate 124 none
  statics := none }

def pool1 : Array CpInfo := pool [(2, .class_ 4), (1, u "java/lang/Object"), (0, u "<init>"), (0, u "()V"), (0, .class_ 8), (0, u "java/lang/String"), (0, .methodref 7 10), (0, .nameAndType 5 11), (0, u "([C)V"), (0, .methodref 7 13), (0, .nameAndType 14 15), (0, u "valueOf"), (0, u "(C)Ljava/lang/String;"), (0, .methodref 17 18), (0, .class_ 19), (0, .nameAndType 20 21), (0, u "com/example/vaxwire/vaxwire/model/PatientIdentifierComponentsPinLaw"), (0, u "drawn"), (0, u "(I)Ljava/lang/String;"), (0, .class_ 23), (0, u "com/example/vaxwire/vaxwire/model/PatientIdentifier"), (0, .methodref 22 25), (0, .nameAndType 5 26), (0, u "(Ljava/lang/String;Ljava/lang/String;Ljava/lang/String;)V"), (0, .methodref 22 28), (0, .nameAndType 29 30), (0, u "components"), (0, u "()[Ljava/lang/String;"), (0, .methodref 7 32), (0, .nameAndType 33 34), (0, u "equals"), (0, u "(Ljava/lang/Object;)Z"), (0, .methodref 7 36), (0, .nameAndType 37 38), (0, u "isEmpty"), (0, u "()Z"), (3, u "law"), (0, u "(III)Z")] 4

def k1m0 : Method := { name := "<init>", desc := "()V", sig := { parameters := [], returnType := none }, accessFlags := 1, code := none }
def k1c1 : Code := { maxStack := 6, maxLocals := 4, code := method_2_code, exceptionTable := #[], attributes := #[] }
def k1m1 : Method := { name := "drawn", desc := "(I)Ljava/lang/String;", sig := { parameters := [.int], returnType := some (.object "java/lang/String") }, accessFlags := 10, code := some k1c1 }
def k1c2 : Code := { maxStack := 5, maxLocals := 10, code := code, exceptionTable := #[], attributes := #[] }
def k1m2 : Method := { name := "law", desc := "(III)Z", sig := { parameters := [.int, .int, .int], returnType := some .boolean }, accessFlags := 9, code := some k1c2 }
/-- com/example/vaxwire/vaxwire/model/PatientIdentifierComponentsPinLaw -/
def k1 : Class := { plain "com/example/vaxwire/vaxwire/model/PatientIdentifierComponentsPinLaw" (some 0) with
  accessFlags := 49
  interfaces := #[]
  cf := some (fileOf pool1 17 #[] #[{ accessFlags := 1, nameIndex := 5, descriptorIndex := 6, attributes := #[] }, { accessFlags := 10, nameIndex := 20, descriptorIndex := 21, attributes := #[] }, { accessFlags := 9, nameIndex := 42, descriptorIndex := 43, attributes := #[] }] 49 2 #[] #[])
  fields := #[]
  methods := #[k1m0, k1m1, k1m2]
  instanceTypes := #[]
  staticTypes := #[]
  resolved := Array.replicate 48 none
  statics := none }

def pool2 : Array CpInfo := pool [(1, .class_ 2), (0, u "java/io/Serializable"), (0, .class_ 4), (0, u "java/lang/Object")] 2

/-- java/io/Serializable -/
def k2 : Class := { plain "java/io/Serializable" (some 0) with
  accessFlags := 1537
  interfaces := #[]
  cf := some (fileOf pool2 1 #[] #[] 1537 3 #[] #[])
  fields := #[]
  methods := #[]
  instanceTypes := #[]
  staticTypes := #[]
  resolved := Array.replicate 7 none
  statics := none }

def pool3 : Array CpInfo := pool [(1, .class_ 2), (0, u "java/lang/Comparable"), (0, .class_ 4), (0, u "java/lang/Object")] 7

/-- java/lang/Comparable -/
def k3 : Class := { plain "java/lang/Comparable" (some 0) with
  accessFlags := 1537
  interfaces := #[]
  cf := some (fileOf pool3 1 #[] #[] 1537 3 #[] #[])
  fields := #[]
  methods := #[]
  instanceTypes := #[]
  staticTypes := #[]
  resolved := Array.replicate 12 none
  statics := none }

def pool4 : Array CpInfo := pool [(2, .class_ 4), (1, u "java/lang/CharSequence"), (42, .class_ 48), (0, u "java/lang/CharSequence$1CodePointIterator"), (10, .class_ 60), (0, u "java/lang/CharSequence$1CharIterator"), (5, .class_ 67), (0, u "java/lang/Object")] 63

/-- java/lang/CharSequence -/
def k4 : Class := { plain "java/lang/CharSequence" (some 0) with
  accessFlags := 1537
  interfaces := #[]
  cf := some (fileOf pool4 2 #[.nestMembers #[47, 59]] #[] 1537 66 #[] #[])
  fields := #[]
  methods := #[]
  instanceTypes := #[]
  staticTypes := #[]
  resolved := Array.replicate 131 none
  statics := none }

def pool5 : Array CpInfo := pool [(1, .class_ 2), (0, u "java/lang/constant/Constable"), (0, .class_ 4), (0, u "java/lang/Object")] 6

/-- java/lang/constant/Constable -/
def k5 : Class := { plain "java/lang/constant/Constable" (some 0) with
  accessFlags := 1537
  interfaces := #[]
  cf := some (fileOf pool5 1 #[] #[] 1537 3 #[] #[])
  fields := #[]
  methods := #[]
  instanceTypes := #[]
  staticTypes := #[]
  resolved := Array.replicate 11 none
  statics := none }

def pool6 : Array CpInfo := pool [(1, .class_ 2), (0, u "java/lang/constant/ConstantDesc"), (0, .class_ 4), (0, u "java/lang/Object")] 32

/-- java/lang/constant/ConstantDesc -/
def k6 : Class := { plain "java/lang/constant/ConstantDesc" (some 0) with
  accessFlags := 1537
  interfaces := #[]
  cf := some (fileOf pool6 1 #[] #[] 1537 3 #[] #[])
  fields := #[]
  methods := #[]
  instanceTypes := #[]
  staticTypes := #[]
  resolved := Array.replicate 37 none
  statics := none }

def pool7 : Array CpInfo := pool [(1, .methodref 2 3), (0, .class_ 4), (0, .nameAndType 5 6), (0, u "java/lang/Object"), (0, u "<init>"), (0, u "()V"), (0, .string 8), (0, u ""), (0, .fieldref 10 11), (0, .class_ 12), (0, .nameAndType 13 14), (0, u "java/lang/String"), (0, u "value"), (0, u "[B"), (0, .fieldref 10 16), (0, .nameAndType 17 18), (0, u "coder"), (0, u "B"), (2, u "hash"), (0, u "I"), (2, u "hashIsZero"), (0, u "Z"), (0, .methodref 10 28), (0, .nameAndType 5 29), (0, u "([CIILjava/lang/Void;)V"), (8, .fieldref 10 39), (0, .nameAndType 40 26), (0, u "COMPACT_STRINGS"), (1, .class_ 44), (1, u "java/lang/StringUTF16"), (0, u "compress"), (1, .methodref 42 48), (0, .nameAndType 49 50), (0, u "coderFromArrayLen"), (0, u "([BI)B"), (2, u "toBytes"), (53, .class_ 109), (1, u "java/lang/StringLatin1"), (32, u "()Z"), (34, .methodref 42 178), (0, .nameAndType 45 179), (0, u "([CII)[B"), (29, .methodref 10 210), (0, .nameAndType 5 211), (0, u "([BB)V"), (157, u "(C)Z"), (173, u "equals"), (29, u "(Ljava/lang/Object;)Z"), (1, .class_ 576), (0, u "java/lang/CharSequence"), (22, u "CASE_INSENSITIVE_ORDER"), (0, u "Ljava/util/Comparator;"), (91, u "isEmpty"), (89, u "valueOf"), (0, u "(C)Ljava/lang/String;"), (226, u "([C)V"), (4, .methodref 107 1016), (0, .nameAndType 1017 369), (0, u "canEncode"), (0, .methodref 107 1019), (0, .nameAndType 53 1020), (0, u "(C)[B"), (80, u "serialPersistentFields"), (0, u "[Ljava/io/ObjectStreamField;"), (0, .class_ 1104), (0, u "java/lang/String$CaseInsensitiveComparator"), (1, .class_ 1107), (0, u "java/io/Serializable"), (0, .class_ 1109), (0, u "java/lang/Comparable"), (0, .class_ 1111), (0, u "java/lang/constant/Constable"), (0, .class_ 1113), (0, u "java/lang/constant/ConstantDesc"), (2, u "serialVersionUID"), (0, u "J"), (3, u "REPL"), (0, u "C"), (2, u "LATIN1"), (1, u "UTF16")] 323

def k7m0 : Method := { name := "<init>", desc := "()V", sig := { parameters := [], returnType := none }, accessFlags := 1, code := none }
def k7c1 : Code := { maxStack := 5, maxLocals := 2, code := jdk_42_method_3_code, exceptionTable := #[], attributes := #[] }
def k7m1 : Method := { name := "<init>", desc := "([C)V", sig := { parameters := [(.array .char)], returnType := none }, accessFlags := 1, code := some k7c1 }
def k7c2 : Code := { maxStack := 1, maxLocals := 1, code := jdk_42_method_55_code, exceptionTable := #[], attributes := #[] }
def k7m2 : Method := { name := "isEmpty", desc := "()Z", sig := { parameters := [], returnType := some .boolean }, accessFlags := 1, code := some k7c2 }
def k7c3 : Code := { maxStack := 2, maxLocals := 3, code := jdk_42_method_66_code, exceptionTable := #[], attributes := #[] }
def k7m3 : Method := { name := "equals", desc := "(Ljava/lang/Object;)Z", sig := { parameters := [(.object "java/lang/Object")], returnType := some .boolean }, accessFlags := 1, code := some k7c3 }
def k7c4 : Code := { maxStack := 4, maxLocals := 1, code := jdk_42_method_139_code, exceptionTable := #[], attributes := #[] }
def k7m4 : Method := { name := "valueOf", desc := "(C)Ljava/lang/String;", sig := { parameters := [.char], returnType := some (.object "java/lang/String") }, accessFlags := 9, code := some k7c4 }
def k7c5 : Code := { maxStack := 4, maxLocals := 6, code := jdk_42_method_149_code, exceptionTable := #[], attributes := #[] }
def k7m5 : Method := { name := "<init>", desc := "([CIILjava/lang/Void;)V", sig := { parameters := [(.array .char), .int, .int, (.object "java/lang/Void")], returnType := none }, accessFlags := 2, code := some k7c5 }
def k7c6 : Code := { maxStack := 2, maxLocals := 3, code := jdk_42_method_151_code, exceptionTable := #[], attributes := #[] }
def k7m6 : Method := { name := "<init>", desc := "([BB)V", sig := { parameters := [(.array .byte), .byte], returnType := none }, accessFlags := 0, code := some k7c6 }
/-- java/lang/String -/
def k7 : Class := { plain "java/lang/String" (some 0) with
  accessFlags := 49
  interfaces := #[2, 3, 4, 5, 6]
  cf := some (fileOf pool7 10 #[.nestMembers #[1103]] #[{ accessFlags := 1, nameIndex := 5, descriptorIndex := 6, attributes := #[] }, { accessFlags := 1, nameIndex := 5, descriptorIndex := 1010, attributes := #[] }, { accessFlags := 1, nameIndex := 692, descriptorIndex := 142, attributes := #[] }, { accessFlags := 1, nameIndex := 543, descriptorIndex := 573, attributes := #[] }, { accessFlags := 9, nameIndex := 782, descriptorIndex := 783, attributes := #[] }, { accessFlags := 2, nameIndex := 5, descriptorIndex := 29, attributes := #[] }, { accessFlags := 0, nameIndex := 5, descriptorIndex := 211, attributes := #[] }] 49 2 #[1106, 1108, 575, 1110, 1112] #[{ accessFlags := 18, nameIndex := 13, descriptorIndex := 14, attributes := #[] }, { accessFlags := 18, nameIndex := 17, descriptorIndex := 18, attributes := #[] }, { accessFlags := 2, nameIndex := 21, descriptorIndex := 22, attributes := #[] }, { accessFlags := 2, nameIndex := 25, descriptorIndex := 26, attributes := #[] }, { accessFlags := 26, nameIndex := 1116, descriptorIndex := 1117, attributes := #[] }, { accessFlags := 24, nameIndex := 40, descriptorIndex := 26, attributes := #[] }, { accessFlags := 26, nameIndex := 1101, descriptorIndex := 1102, attributes := #[] }, { accessFlags := 26, nameIndex := 1121, descriptorIndex := 1122, attributes := #[] }, { accessFlags := 25, nameIndex := 599, descriptorIndex := 600, attributes := #[] }, { accessFlags := 24, nameIndex := 1125, descriptorIndex := 18, attributes := #[] }, { accessFlags := 24, nameIndex := 1127, descriptorIndex := 18, attributes := #[] }])
  fields := #[{ name := "value", type := (.array .byte), accessFlags := 18, slot := 0, constantValue := 0 }, { name := "coder", type := .byte, accessFlags := 18, slot := 1, constantValue := 0 }, { name := "hash", type := .int, accessFlags := 2, slot := 2, constantValue := 0 }, { name := "hashIsZero", type := .boolean, accessFlags := 2, slot := 3, constantValue := 0 }, { name := "serialVersionUID", type := .long, accessFlags := 26, slot := 0, constantValue := 0 }, { name := "COMPACT_STRINGS", type := .boolean, accessFlags := 24, slot := 1, constantValue := 0 }, { name := "serialPersistentFields", type := (.array (.object "java/io/ObjectStreamField")), accessFlags := 26, slot := 2, constantValue := 0 }, { name := "REPL", type := .char, accessFlags := 26, slot := 3, constantValue := 0 }, { name := "CASE_INSENSITIVE_ORDER", type := (.object "java/util/Comparator"), accessFlags := 25, slot := 4, constantValue := 0 }, { name := "LATIN1", type := .byte, accessFlags := 24, slot := 5, constantValue := 0 }, { name := "UTF16", type := .byte, accessFlags := 24, slot := 6, constantValue := 0 }]
  methods := #[k7m0, k7m1, k7m2, k7m3, k7m4, k7m5, k7m6]
  instanceTypes := #[(.array .byte), .byte, .int, .boolean]
  staticTypes := #[.long, .boolean, (.array (.object "java/io/ObjectStreamField")), .char, (.object "java/util/Comparator"), .byte, .byte]
  resolved := Array.replicate 1451 none
  statics := some 0 }

def pool8 : Array CpInfo := pool [(6, .class_ 8), (1, u "java/lang/Object"), (0, u "<init>"), (0, u "()V"), (1, .class_ 14), (1, u "java/lang/StringUTF16"), (31, u "$assertionsDisabled"), (0, u "Z"), (13, u "HI_BYTE_SHIFT"), (0, u "I"), (2, u "LO_BYTE_SHIFT"), (49, .methodref 12 116), (0, .nameAndType 117 118), (0, u "compress"), (0, u "([CI[BII)I"), (3, u "([CII)[B"), (138, u "coderFromArrayLen"), (0, u "([BI)B"), (106, .class_ 371), (1, u "java/lang/StringUTF16$LinesSpliterator"), (58, u "MAX_LENGTH"), (196, .class_ 628), (0, u "java/lang/StringUTF16$CodePointsSpliterator"), (0, .class_ 630), (0, u "java/lang/StringUTF16$CharsSpliterator")] 4

def k8m0 : Method := { name := "<init>", desc := "()V", sig := { parameters := [], returnType := none }, accessFlags := 0, code := none }
def k8c1 : Code := { maxStack := 2, maxLocals := 2, code := jdk_52_method_15_code, exceptionTable := #[], attributes := #[] }
def k8m1 : Method := { name := "coderFromArrayLen", desc := "([BI)B", sig := { parameters := [(.array .byte), .int], returnType := some .byte }, accessFlags := 8, code := some k8c1 }
def k8c2 : Code := { maxStack := 5, maxLocals := 6, code := jdk_52_method_16_code, exceptionTable := #[], attributes := #[] }
def k8m2 : Method := { name := "compress", desc := "([CII)[B", sig := { parameters := [(.array .char), .int, .int], returnType := some (.array .byte) }, accessFlags := 9, code := some k8c2 }
def k8c3 : Code := { maxStack := 3, maxLocals := 7, code := jdk_52_method_21_code, exceptionTable := #[], attributes := #[] }
def k8m3 : Method := { name := "compress", desc := "([CI[BII)I", sig := { parameters := [(.array .char), .int, (.array .byte), .int, .int], returnType := some .int }, accessFlags := 9, code := some k8c3 }
/-- java/lang/StringUTF16 -/
def k8 : Class := { plain "java/lang/StringUTF16" (some 0) with
  accessFlags := 48
  interfaces := #[]
  cf := some (fileOf pool8 12 #[.nestMembers #[627, 629, 369]] #[{ accessFlags := 0, nameIndex := 9, descriptorIndex := 10, attributes := #[] }, { accessFlags := 8, nameIndex := 261, descriptorIndex := 262, attributes := #[] }, { accessFlags := 9, nameIndex := 117, descriptorIndex := 122, attributes := #[] }, { accessFlags := 9, nameIndex := 117, descriptorIndex := 118, attributes := #[] }] 48 6 #[] #[{ accessFlags := 26, nameIndex := 61, descriptorIndex := 62, attributes := #[] }, { accessFlags := 26, nameIndex := 65, descriptorIndex := 62, attributes := #[] }, { accessFlags := 24, nameIndex := 430, descriptorIndex := 62, attributes := #[] }, { accessFlags := 4120, nameIndex := 46, descriptorIndex := 47, attributes := #[] }])
  fields := #[{ name := "HI_BYTE_SHIFT", type := .int, accessFlags := 26, slot := 0, constantValue := 0 }, { name := "LO_BYTE_SHIFT", type := .int, accessFlags := 26, slot := 1, constantValue := 0 }, { name := "MAX_LENGTH", type := .int, accessFlags := 24, slot := 2, constantValue := 0 }, { name := "$assertionsDisabled", type := .boolean, accessFlags := 4120, slot := 3, constantValue := 0 }]
  methods := #[k8m0, k8m1, k8m2, k8m3]
  instanceTypes := #[]
  staticTypes := #[.int, .int, .int, .boolean]
  resolved := Array.replicate 635 none
  statics := none }

def pool9 : Array CpInfo := pool [(1, .methodref 2 3), (0, .class_ 4), (0, .nameAndType 5 6), (0, u "java/lang/Object"), (0, u "<init>"), (0, u "()V"), (0, .class_ 8), (0, u "java/lang/Record")] 13

def k9c0 : Code := { maxStack := 1, maxLocals := 1, code := jdk_30_method_1_code, exceptionTable := #[], attributes := #[] }
def k9m0 : Method := { name := "<init>", desc := "()V", sig := { parameters := [], returnType := none }, accessFlags := 4, code := some k9c0 }
/-- java/lang/Record -/
def k9 : Class := { plain "java/lang/Record" (some 0) with
  accessFlags := 1057
  interfaces := #[]
  cf := some (fileOf pool9 7 #[] #[{ accessFlags := 4, nameIndex := 5, descriptorIndex := 6, attributes := #[] }] 1057 2 #[] #[])
  fields := #[]
  methods := #[k9m0]
  instanceTypes := #[]
  staticTypes := #[]
  resolved := Array.replicate 22 none
  statics := none }

def pool10 : Array CpInfo := pool [(1, .methodref 2 3), (0, .class_ 4), (0, .nameAndType 5 6), (0, u "java/lang/Record"), (0, u "<init>"), (0, u "()V"), (0, .fieldref 8 9), (0, .class_ 10), (0, .nameAndType 11 12), (0, u "com/example/vaxwire/vaxwire/model/PatientIdentifier"), (0, u "idNumber"), (0, u "Ljava/lang/String;"), (0, .fieldref 8 14), (0, .nameAndType 15 12), (0, u "assigningAuthority"), (0, .fieldref 8 17), (0, .nameAndType 18 12), (0, u "typeCode"), (1, .class_ 22), (1, u "java/lang/String"), (2, .string 26), (0, u ""), (4, u "(Ljava/lang/String;Ljava/lang/String;Ljava/lang/String;)V"), (57, u "REGISTRY_TYPE"), (12, u "components"), (0, u "()[Ljava/lang/String;")] 24

def k10c0 : Code := { maxStack := 2, maxLocals := 4, code := prog_139_method_1_code, exceptionTable := #[], attributes := #[] }
def k10m0 : Method := { name := "<init>", desc := "(Ljava/lang/String;Ljava/lang/String;Ljava/lang/String;)V", sig := { parameters := [(.object "java/lang/String"), (.object "java/lang/String"), (.object "java/lang/String")], returnType := none }, accessFlags := 1, code := some k10c0 }
def k10c1 : Code := { maxStack := 4, maxLocals := 1, code := prog_139_method_5_code, exceptionTable := #[], attributes := #[] }
def k10m1 : Method := { name := "components", desc := "()[Ljava/lang/String;", sig := { parameters := [], returnType := some (.array (.object "java/lang/String")) }, accessFlags := 1, code := some k10c1 }
/-- com/example/vaxwire/vaxwire/model/PatientIdentifier -/
def k10 : Class := { plain "com/example/vaxwire/vaxwire/model/PatientIdentifier" (some 9) with
  accessFlags := 49
  interfaces := #[]
  cf := some (fileOf pool10 8 #[] #[{ accessFlags := 1, nameIndex := 5, descriptorIndex := 31, attributes := #[] }, { accessFlags := 1, nameIndex := 102, descriptorIndex := 103, attributes := #[] }] 49 2 #[] #[{ accessFlags := 18, nameIndex := 11, descriptorIndex := 12, attributes := #[] }, { accessFlags := 18, nameIndex := 15, descriptorIndex := 12, attributes := #[] }, { accessFlags := 18, nameIndex := 18, descriptorIndex := 12, attributes := #[] }, { accessFlags := 26, nameIndex := 89, descriptorIndex := 12, attributes := #[] }])
  fields := #[{ name := "idNumber", type := (.object "java/lang/String"), accessFlags := 18, slot := 0, constantValue := 0 }, { name := "assigningAuthority", type := (.object "java/lang/String"), accessFlags := 18, slot := 1, constantValue := 0 }, { name := "typeCode", type := (.object "java/lang/String"), accessFlags := 18, slot := 2, constantValue := 0 }, { name := "REGISTRY_TYPE", type := (.object "java/lang/String"), accessFlags := 26, slot := 0, constantValue := 0 }]
  methods := #[k10m0, k10m1]
  instanceTypes := #[(.object "java/lang/String"), (.object "java/lang/String"), (.object "java/lang/String")]
  staticTypes := #[(.object "java/lang/String")]
  resolved := Array.replicate 128 none
  statics := none }

def pool11 : Array CpInfo := pool [(4, .class_ 6), (1, u "java/lang/Object"), (0, u "<init>"), (0, u "()V"), (5, .class_ 16), (1, u "java/lang/StringLatin1"), (73, u "canEncode"), (14, u "(C)Z"), (15, u "$assertionsDisabled"), (0, u "Z"), (98, .class_ 223), (1, u "java/lang/StringLatin1$LinesSpliterator"), (156, u "toBytes"), (1, u "(C)[B"), (7, .class_ 391), (0, u "java/lang/StringLatin1$CharsSpliterator")] 3

def k11m0 : Method := { name := "<init>", desc := "()V", sig := { parameters := [], returnType := none }, accessFlags := 0, code := none }
def k11c1 : Code := { maxStack := 2, maxLocals := 1, code := jdk_43_method_3_code, exceptionTable := #[], attributes := #[] }
def k11m1 : Method := { name := "canEncode", desc := "(C)Z", sig := { parameters := [.char], returnType := some .boolean }, accessFlags := 9, code := some k11c1 }
def k11c2 : Code := { maxStack := 4, maxLocals := 1, code := jdk_43_method_46_code, exceptionTable := #[], attributes := #[] }
def k11m2 : Method := { name := "toBytes", desc := "(C)[B", sig := { parameters := [.char], returnType := some (.array .byte) }, accessFlags := 9, code := some k11c2 }
/-- java/lang/StringLatin1 -/
def k11 : Class := { plain "java/lang/StringLatin1" (some 0) with
  accessFlags := 48
  interfaces := #[]
  cf := some (fileOf pool11 14 #[.nestMembers #[390, 221]] #[{ accessFlags := 0, nameIndex := 7, descriptorIndex := 8, attributes := #[] }, { accessFlags := 9, nameIndex := 90, descriptorIndex := 105, attributes := #[] }, { accessFlags := 9, nameIndex := 380, descriptorIndex := 382, attributes := #[] }] 48 4 #[] #[{ accessFlags := 4120, nameIndex := 121, descriptorIndex := 122, attributes := #[] }])
  fields := #[{ name := "$assertionsDisabled", type := .boolean, accessFlags := 4120, slot := 0, constantValue := 0 }]
  methods := #[k11m0, k11m1, k11m2]
  instanceTypes := #[]
  staticTypes := #[.boolean]
  resolved := Array.replicate 395 none
  statics := none }

def pool12 : Array CpInfo := pool [(2, .class_ 4), (1, u "java/lang/Object"), (0, u "<init>"), (0, u "()V"), (17, .class_ 26), (1, u "jdk/internal/util/Preconditions"), (28, .class_ 56), (0, u "jdk/internal/util/Preconditions$4"), (57, .class_ 115), (0, u "jdk/internal/util/Preconditions$1"), (7, u "SIOOBE_FORMATTER"), (0, u "Ljava/util/function/BiFunction;"), (0, .class_ 126), (0, u "jdk/internal/util/Preconditions$2"), (3, u "AIOOBE_FORMATTER"), (0, .class_ 132), (0, u "jdk/internal/util/Preconditions$3"), (3, u "IOOBE_FORMATTER")] 57

def k12m0 : Method := { name := "<init>", desc := "()V", sig := { parameters := [], returnType := none }, accessFlags := 1, code := none }
/-- jdk/internal/util/Preconditions -/
def k12 : Class := { plain "jdk/internal/util/Preconditions" (some 0) with
  accessFlags := 33
  interfaces := #[]
  cf := some (fileOf pool12 24 #[.nestMembers #[55, 131, 125, 114]] #[{ accessFlags := 1, nameIndex := 5, descriptorIndex := 6, attributes := #[] }] 33 2 #[] #[{ accessFlags := 25, nameIndex := 123, descriptorIndex := 124, attributes := #[] }, { accessFlags := 25, nameIndex := 130, descriptorIndex := 124, attributes := #[] }, { accessFlags := 25, nameIndex := 136, descriptorIndex := 124, attributes := #[] }])
  fields := #[{ name := "SIOOBE_FORMATTER", type := (.object "java/util/function/BiFunction"), accessFlags := 25, slot := 0, constantValue := 0 }, { name := "AIOOBE_FORMATTER", type := (.object "java/util/function/BiFunction"), accessFlags := 25, slot := 1, constantValue := 0 }, { name := "IOOBE_FORMATTER", type := (.object "java/util/function/BiFunction"), accessFlags := 25, slot := 2, constantValue := 0 }]
  methods := #[k12m0]
  instanceTypes := #[]
  staticTypes := #[(.object "java/util/function/BiFunction"), (.object "java/util/function/BiFunction"), (.object "java/util/function/BiFunction")]
  resolved := Array.replicate 194 none
  statics := some 1 }

def pool13 : Array CpInfo := pool [(9, u "<init>"), (6, .class_ 18), (1, u "java/lang/Object"), (0, u "()V"), (1, .class_ 23), (1, u "jdk/internal/util/ArraysSupport"), (0, u "LOG2_ARRAY_LONG_INDEX_SCALE"), (0, u "I"), (2, u "U"), (0, u "Ljdk/internal/misc/Unsafe;"), (8, u "BIG_ENDIAN"), (0, u "Z"), (8, u "LOG2_BYTE_BIT_SIZE"), (4, u "LOG2_ARRAY_INT_INDEX_SCALE"), (54, u "JLA"), (0, u "Ljdk/internal/access/JavaLangAccess;"), (11, u "LOG2_ARRAY_BOOLEAN_INDEX_SCALE"), (9, u "LOG2_ARRAY_BYTE_INDEX_SCALE"), (5, u "LOG2_ARRAY_CHAR_INDEX_SCALE"), (5, u "LOG2_ARRAY_SHORT_INDEX_SCALE"), (18, u "LOG2_ARRAY_FLOAT_INDEX_SCALE"), (24, u "LOG2_ARRAY_DOUBLE_INDEX_SCALE"), (89, u "T_BOOLEAN"), (2, u "T_CHAR"), (1, u "T_FLOAT"), (1, u "T_DOUBLE"), (1, u "T_BYTE"), (1, u "T_SHORT"), (1, u "T_INT"), (1, u "T_LONG"), (1, u "SOFT_MAX_ARRAY_LENGTH")] 83

def k13m0 : Method := { name := "<init>", desc := "()V", sig := { parameters := [], returnType := none }, accessFlags := 2, code := none }
/-- jdk/internal/util/ArraysSupport -/
def k13 : Class := { plain "jdk/internal/util/ArraysSupport" (some 0) with
  accessFlags := 33
  interfaces := #[]
  cf := some (fileOf pool13 21 #[] #[{ accessFlags := 2, nameIndex := 9, descriptorIndex := 19, attributes := #[] }] 33 16 #[] #[{ accessFlags := 24, nameIndex := 28, descriptorIndex := 29, attributes := #[] }, { accessFlags := 26, nameIndex := 38, descriptorIndex := 39, attributes := #[] }, { accessFlags := 25, nameIndex := 121, descriptorIndex := 25, attributes := #[] }, { accessFlags := 25, nameIndex := 131, descriptorIndex := 25, attributes := #[] }, { accessFlags := 25, nameIndex := 137, descriptorIndex := 25, attributes := #[] }, { accessFlags := 25, nameIndex := 143, descriptorIndex := 25, attributes := #[] }, { accessFlags := 25, nameIndex := 53, descriptorIndex := 25, attributes := #[] }, { accessFlags := 25, nameIndex := 24, descriptorIndex := 25, attributes := #[] }, { accessFlags := 25, nameIndex := 162, descriptorIndex := 25, attributes := #[] }, { accessFlags := 25, nameIndex := 187, descriptorIndex := 25, attributes := #[] }, { accessFlags := 26, nameIndex := 48, descriptorIndex := 25, attributes := #[] }, { accessFlags := 25, nameIndex := 277, descriptorIndex := 25, attributes := #[] }, { accessFlags := 25, nameIndex := 280, descriptorIndex := 25, attributes := #[] }, { accessFlags := 25, nameIndex := 282, descriptorIndex := 25, attributes := #[] }, { accessFlags := 25, nameIndex := 284, descriptorIndex := 25, attributes := #[] }, { accessFlags := 25, nameIndex := 286, descriptorIndex := 25, attributes := #[] }, { accessFlags := 25, nameIndex := 288, descriptorIndex := 25, attributes := #[] }, { accessFlags := 25, nameIndex := 290, descriptorIndex := 25, attributes := #[] }, { accessFlags := 25, nameIndex := 292, descriptorIndex := 25, attributes := #[] }, { accessFlags := 26, nameIndex := 108, descriptorIndex := 109, attributes := #[] }, { accessFlags := 25, nameIndex := 294, descriptorIndex := 25, attributes := #[] }])
  fields := #[{ name := "U", type := (.object "jdk/internal/misc/Unsafe"), accessFlags := 24, slot := 0, constantValue := 0 }, { name := "BIG_ENDIAN", type := .boolean, accessFlags := 26, slot := 1, constantValue := 0 }, { name := "LOG2_ARRAY_BOOLEAN_INDEX_SCALE", type := .int, accessFlags := 25, slot := 2, constantValue := 0 }, { name := "LOG2_ARRAY_BYTE_INDEX_SCALE", type := .int, accessFlags := 25, slot := 3, constantValue := 0 }, { name := "LOG2_ARRAY_CHAR_INDEX_SCALE", type := .int, accessFlags := 25, slot := 4, constantValue := 0 }, { name := "LOG2_ARRAY_SHORT_INDEX_SCALE", type := .int, accessFlags := 25, slot := 5, constantValue := 0 }, { name := "LOG2_ARRAY_INT_INDEX_SCALE", type := .int, accessFlags := 25, slot := 6, constantValue := 0 }, { name := "LOG2_ARRAY_LONG_INDEX_SCALE", type := .int, accessFlags := 25, slot := 7, constantValue := 0 }, { name := "LOG2_ARRAY_FLOAT_INDEX_SCALE", type := .int, accessFlags := 25, slot := 8, constantValue := 0 }, { name := "LOG2_ARRAY_DOUBLE_INDEX_SCALE", type := .int, accessFlags := 25, slot := 9, constantValue := 0 }, { name := "LOG2_BYTE_BIT_SIZE", type := .int, accessFlags := 26, slot := 10, constantValue := 0 }, { name := "T_BOOLEAN", type := .int, accessFlags := 25, slot := 11, constantValue := 0 }, { name := "T_CHAR", type := .int, accessFlags := 25, slot := 12, constantValue := 0 }, { name := "T_FLOAT", type := .int, accessFlags := 25, slot := 13, constantValue := 0 }, { name := "T_DOUBLE", type := .int, accessFlags := 25, slot := 14, constantValue := 0 }, { name := "T_BYTE", type := .int, accessFlags := 25, slot := 15, constantValue := 0 }, { name := "T_SHORT", type := .int, accessFlags := 25, slot := 16, constantValue := 0 }, { name := "T_INT", type := .int, accessFlags := 25, slot := 17, constantValue := 0 }, { name := "T_LONG", type := .int, accessFlags := 25, slot := 18, constantValue := 0 }, { name := "JLA", type := (.object "jdk/internal/access/JavaLangAccess"), accessFlags := 26, slot := 19, constantValue := 0 }, { name := "SOFT_MAX_ARRAY_LENGTH", type := .int, accessFlags := 25, slot := 20, constantValue := 0 }]
  methods := #[k13m0]
  instanceTypes := #[]
  staticTypes := #[(.object "jdk/internal/misc/Unsafe"), .boolean, .int, .int, .int, .int, .int, .int, .int, .int, .int, .int, .int, .int, .int, .int, .int, .int, .int, (.object "jdk/internal/access/JavaLangAccess"), .int]
  resolved := Array.replicate 378 none
  statics := none }

def pool14 : Array CpInfo := pool [(1, u "java/lang/Cloneable"), (0, .class_ 1), (0, u "java/lang/Object"), (0, .class_ 3)] 3

/-- java/lang/Cloneable -/
def k14 : Class := { plain "java/lang/Cloneable" (some 0) with
  accessFlags := 1537
  interfaces := #[]
  cf := some (fileOf pool14 2 #[] #[] 1537 4 #[] #[])
  fields := #[]
  methods := #[]
  instanceTypes := #[]
  staticTypes := #[]
  resolved := Array.replicate 8 none
  statics := none }

/-- the primitive byte -/
def k15 : Class := { plain "byte" none with kind := .primitive 'B', accessFlags := 0x411 }
/-- [B -/
def k16 : Class := { plain "[B" (some 0) with kind := .array 15 .byte, interfaces := #[14, 2], accessFlags := 1041 }

/-- the primitive char -/
def k17 : Class := { plain "char" none with kind := .primitive 'C', accessFlags := 0x411 }
/-- [C -/
def k18 : Class := { plain "[C" (some 0) with kind := .array 17 .char, interfaces := #[14, 2], accessFlags := 1041 }

/-- the primitive int -/
def k19 : Class := { plain "int" none with kind := .primitive 'I', accessFlags := 0x411 }
/-- [I -/
def k20 : Class := { plain "[I" (some 0) with kind := .array 19 .int, interfaces := #[14, 2], accessFlags := 1041 }

/-- [Ljava/lang/String; -/
def k21 : Class := { plain "[Ljava/lang/String;" (some 0) with kind := .array 7 (.object "java/lang/String"), interfaces := #[14, 2], accessFlags := 1041 }

def heap : Heap := #[{ cls := 7, slots := #[.long 0, .int 1, .null, .int 0, .null, .int 0, .int 0], vm := .statics 7 },
  { cls := 12, slots := #[.null, .null, .null], vm := .statics 12 }]
def classes : Array Class := #[k0, k1, k2, k3, k4, k5, k6, k7, k8, k9, k10, k11, k12, k13, k14, k15, k16, k17, k18, k19, k20, k21]
def interned : List (Array UInt16 × Addr) := []
def slotsUsed : Nat := 10
def theMethod : MethodId := ⟨1, 2⟩
def args0 : Array Value := #[.int 5, .int 6, .int 7]
def aboutOver (below : List Frame) : State where
  vm := { classes := classes, interned := interned.toArray }
  heap := heap
  slotsUsed := slotsUsed
  threads := #[{ frames := .invoking theMethod args0 :: below }]
def below0 : List Frame := [.native { method := ⟨0, 0⟩, args := #[] }]
def about1 : State := aboutOver below0
def p0 : Program := .bare "" "" ""
def e0 : Env := launch0.env 0 0 0
theorem w_frames : about1.frames = Frame.invoking theMethod args0 :: below0 := rfl
set_option maxRecDepth 65536 in
theorem w_args : argsFit about1.vm theMethod args0 = true := by decide +kernel
set_option maxRecDepth 65536 in
theorem w_heap : heapFits about1 = true := by decide +kernel
set_option maxRecDepth 65536 in
theorem w_runnable : about1.curStatus? = some .runnable := by decide +kernel
set_option maxRecDepth 65536 in
theorem w_alone : about1.alone = true := by decide +kernel
set_option maxRecDepth 65536 in
theorem w_named : about1.methodNamed? x = some theMethod := by decide +kernel
set_option maxRecDepth 65536 in
theorem w_hears : about1.hears theMethod below0 = true := by decide +kernel
set_option maxRecDepth 65536 in
theorem w_ripe : about1.ripe theMethod args0 below0 = true := by decide +kernel
theorem w_running : about1.status = .running := rfl
set_option maxRecDepth 65536 in
theorem w_room : about1.hasRoom e0.platform room_1 = true :=
  launch0.hasRoom_least _ room_1 (by decide +kernel) (by decide +kernel) (by decide +kernel) (by decide +kernel) (by decide +kernel) (by decide +kernel)
theorem allAtoms_all (ts : List Jvm.Cond) (a : Array Jvm.Value) (st : Jvm.State) : (allAtoms ts).before a st = ts.all (fun c => c.before a st) := by
  induction ts with
  | nil => rfl
  | cons c t ih =>
    show (Jvm.Cond.and c (allAtoms t)).before a st = _
    rw [Jvm.Cond.before_and, ih, List.all_cons]
def words1 : List Jvm.Cond := Jvm.Cond.code x code maxLocals ret :: tables_1
/-- a 'code' word, met by the world's own term for the bytes: nothing is compared byte by byte -/
theorem code_word {y : MethodName} {bytes : ByteArray} {mx : Nat} {rt : Option FieldType} {a : Array Value} {s : State} {m : MethodId} {meth : Method} {c : Code} (h1 : s.methodNamed? y = some m) (h2 : s.vm.method? m = some meth) (h3 : meth.code = some c) (h4 : c.code = bytes)
    (h5 : (c.maxLocals == mx && c.exceptionTable.isEmpty && decide (c.maxStack ≤ mostOperands) && decide (meth.sig.returnType = rt) && !meth.locks && decide (parseMethodDescriptor y.desc = some meth.sig)) = true) : (Jvm.Cond.code y bytes mx rt).before a s = true := by
  simp only [Bool.and_eq_true, beq_iff_eq, Bool.not_eq_true', decide_eq_true_eq] at h5
  obtain ⟨⟨⟨⟨⟨g1, g2⟩, g3⟩, g4⟩, g5⟩, g6⟩ := h5
  simp [Cond.before, Cond.holds, Cond.value, h1, h2, h3, h4, g1, g2, g3, g4, g5, g6]
def isCode : Jvm.Cond → Bool
  | .code _ _ _ _ => true
  | _ => false
theorem all_split {L : List Jvm.Cond} {P : Jvm.Cond → Bool} (h1 : L.all (fun c => isCode c || P c) = true) (h2 : ∀ c ∈ L.filter isCode, P c = true) : L.all P = true := by
  refine List.all_eq_true.mpr fun c hc => ?_
  have h := List.all_eq_true.mp h1 c hc
  rcases Bool.eq_false_or_eq_true (isCode c) with hi | hi
  · exact h2 c (List.mem_filter.mpr ⟨hc, hi⟩)
  · simpa [hi] using h
set_option maxRecDepth 65536 in
theorem w_c0 : (Jvm.Cond.code x code maxLocals ret).before args0 about1 = true := code_word (m := ⟨1, 2⟩) (meth := k1m2) (c := k1c2) (by decide +kernel) rfl rfl rfl (by decide +kernel)
set_option maxRecDepth 65536 in
theorem w_c1 : (Jvm.Cond.code ({ cls := "com/example/vaxwire/vaxwire/model/PatientIdentifierComponentsPinLaw", name := "drawn", desc := "(I)Ljava/lang/String;" } : Jvm.MethodName) method_2_code (4 : Nat) (Option.some (Jvm.ClassFile.FieldType.object "java/lang/String"))).before args0 about1 = true := code_word (m := ⟨1, 1⟩) (meth := k1m1) (c := k1c1) (by decide +kernel) rfl rfl rfl (by decide +kernel)
set_option maxRecDepth 65536 in
theorem w_c2 : (Jvm.Cond.code ({ cls := "java/lang/String", name := "<init>", desc := "([C)V" } : Jvm.MethodName) jdk_42_method_3_code (2 : Nat) (Option.none : Option Jvm.ClassFile.FieldType)).before args0 about1 = true := code_word (m := ⟨7, 1⟩) (meth := k7m1) (c := k7c1) (by decide +kernel) rfl rfl rfl (by decide +kernel)
set_option maxRecDepth 65536 in
theorem w_c3 : (Jvm.Cond.code ({ cls := "java/lang/String", name := "<init>", desc := "([CIILjava/lang/Void;)V" } : Jvm.MethodName) jdk_42_method_149_code (6 : Nat) (Option.none : Option Jvm.ClassFile.FieldType)).before args0 about1 = true := code_word (m := ⟨7, 5⟩) (meth := k7m5) (c := k7c5) (by decide +kernel) rfl rfl rfl (by decide +kernel)
set_option maxRecDepth 65536 in
theorem w_c4 : (Jvm.Cond.code ({ cls := "java/lang/Object", name := "<init>", desc := "()V" } : Jvm.MethodName) object_method_1_code (1 : Nat) (Option.none : Option Jvm.ClassFile.FieldType)).before args0 about1 = true := code_word (m := ⟨0, 0⟩) (meth := k0m0) (c := k0c0) (by decide +kernel) rfl rfl rfl (by decide +kernel)
set_option maxRecDepth 65536 in
theorem w_c5 : (Jvm.Cond.code ({ cls := "java/lang/StringUTF16", name := "compress", desc := "([CII)[B" } : Jvm.MethodName) jdk_52_method_16_code (6 : Nat) (Option.some (Jvm.ClassFile.FieldType.array Jvm.ClassFile.FieldType.byte))).before args0 about1 = true := code_word (m := ⟨8, 2⟩) (meth := k8m2) (c := k8c2) (by decide +kernel) rfl rfl rfl (by decide +kernel)
set_option maxRecDepth 65536 in
theorem w_c6 : (Jvm.Cond.code ({ cls := "java/lang/StringUTF16", name := "compress", desc := "([CI[BII)I" } : Jvm.MethodName) jdk_52_method_21_code (7 : Nat) (Option.some Jvm.ClassFile.FieldType.int)).before args0 about1 = true := code_word (m := ⟨8, 3⟩) (meth := k8m3) (c := k8c3) (by decide +kernel) rfl rfl rfl (by decide +kernel)
set_option maxRecDepth 65536 in
theorem w_c7 : (Jvm.Cond.code ({ cls := "java/lang/StringUTF16", name := "coderFromArrayLen", desc := "([BI)B" } : Jvm.MethodName) jdk_52_method_15_code (2 : Nat) (Option.some Jvm.ClassFile.FieldType.byte)).before args0 about1 = true := code_word (m := ⟨8, 1⟩) (meth := k8m1) (c := k8c1) (by decide +kernel) rfl rfl rfl (by decide +kernel)
set_option maxRecDepth 65536 in
theorem w_c8 : (Jvm.Cond.code ({ cls := "com/example/vaxwire/vaxwire/model/PatientIdentifier", name := "<init>", desc := "(Ljava/lang/String;Ljava/lang/String;Ljava/lang/String;)V" } : Jvm.MethodName) prog_139_method_1_code (4 : Nat) (Option.none : Option Jvm.ClassFile.FieldType)).before args0 about1 = true := code_word (m := ⟨10, 0⟩) (meth := k10m0) (c := k10c0) (by decide +kernel) rfl rfl rfl (by decide +kernel)
set_option maxRecDepth 65536 in
theorem w_c9 : (Jvm.Cond.code ({ cls := "java/lang/Record", name := "<init>", desc := "()V" } : Jvm.MethodName) jdk_30_method_1_code (1 : Nat) (Option.none : Option Jvm.ClassFile.FieldType)).before args0 about1 = true := code_word (m := ⟨9, 0⟩) (meth := k9m0) (c := k9c0) (by decide +kernel) rfl rfl rfl (by decide +kernel)
set_option maxRecDepth 65536 in
theorem w_c10 : (Jvm.Cond.code ({ cls := "com/example/vaxwire/vaxwire/model/PatientIdentifier", name := "components", desc := "()[Ljava/lang/String;" } : Jvm.MethodName) prog_139_method_5_code (1 : Nat) (Option.some (Jvm.ClassFile.FieldType.array (Jvm.ClassFile.FieldType.object "java/lang/String")))).before args0 about1 = true := code_word (m := ⟨10, 1⟩) (meth := k10m1) (c := k10c1) (by decide +kernel) rfl rfl rfl (by decide +kernel)
set_option maxRecDepth 65536 in
theorem w_c11 : (Jvm.Cond.code ({ cls := "java/lang/String", name := "equals", desc := "(Ljava/lang/Object;)Z" } : Jvm.MethodName) jdk_42_method_66_code (3 : Nat) (Option.some Jvm.ClassFile.FieldType.boolean)).before args0 about1 = true := code_word (m := ⟨7, 3⟩) (meth := k7m3) (c := k7c3) (by decide +kernel) rfl rfl rfl (by decide +kernel)
set_option maxRecDepth 65536 in
theorem w_c12 : (Jvm.Cond.code ({ cls := "java/lang/String", name := "isEmpty", desc := "()Z" } : Jvm.MethodName) jdk_42_method_55_code (1 : Nat) (Option.some Jvm.ClassFile.FieldType.boolean)).before args0 about1 = true := code_word (m := ⟨7, 2⟩) (meth := k7m2) (c := k7c2) (by decide +kernel) rfl rfl rfl (by decide +kernel)
set_option maxRecDepth 65536 in
theorem w_c13 : (Jvm.Cond.code ({ cls := "java/lang/String", name := "valueOf", desc := "(C)Ljava/lang/String;" } : Jvm.MethodName) jdk_42_method_139_code (1 : Nat) (Option.some (Jvm.ClassFile.FieldType.object "java/lang/String"))).before args0 about1 = true := code_word (m := ⟨7, 4⟩) (meth := k7m4) (c := k7c4) (by decide +kernel) rfl rfl rfl (by decide +kernel)
set_option maxRecDepth 65536 in
theorem w_c14 : (Jvm.Cond.code ({ cls := "java/lang/StringLatin1", name := "canEncode", desc := "(C)Z" } : Jvm.MethodName) jdk_43_method_3_code (1 : Nat) (Option.some Jvm.ClassFile.FieldType.boolean)).before args0 about1 = true := code_word (m := ⟨11, 1⟩) (meth := k11m1) (c := k11c1) (by decide +kernel) rfl rfl rfl (by decide +kernel)
set_option maxRecDepth 65536 in
theorem w_c15 : (Jvm.Cond.code ({ cls := "java/lang/StringLatin1", name := "toBytes", desc := "(C)[B" } : Jvm.MethodName) jdk_43_method_46_code (1 : Nat) (Option.some (Jvm.ClassFile.FieldType.array Jvm.ClassFile.FieldType.byte))).before args0 about1 = true := code_word (m := ⟨11, 2⟩) (meth := k11m2) (c := k11c2) (by decide +kernel) rfl rfl rfl (by decide +kernel)
set_option maxRecDepth 65536 in
theorem w_c16 : (Jvm.Cond.code ({ cls := "java/lang/String", name := "<init>", desc := "([BB)V" } : Jvm.MethodName) jdk_42_method_151_code (3 : Nat) (Option.none : Option Jvm.ClassFile.FieldType)).before args0 about1 = true := code_word (m := ⟨7, 6⟩) (meth := k7m6) (c := k7c6) (by decide +kernel) rfl rfl rfl (by decide +kernel)
def codes1 : List Jvm.Cond := [Jvm.Cond.code x code maxLocals ret, Jvm.Cond.code ({ cls := "com/example/vaxwire/vaxwire/model/PatientIdentifierComponentsPinLaw", name := "drawn", desc := "(I)Ljava/lang/String;" } : Jvm.MethodName) method_2_code (4 : Nat) (Option.some (Jvm.ClassFile.FieldType.object "java/lang/String")), Jvm.Cond.code ({ cls := "java/lang/String", name := "<init>", desc := "([C)V" } : Jvm.MethodName) jdk_42_method_3_code (2 : Nat) (Option.none : Option Jvm.ClassFile.FieldType), Jvm.Cond.code ({ cls := "java/lang/String", name := "<init>", desc := "([CIILjava/lang/Void;)V" } : Jvm.MethodName) jdk_42_method_149_code (6 : Nat) (Option.none : Option Jvm.ClassFile.FieldType), Jvm.Cond.code ({ cls := "java/lang/Object", name := "<init>", desc := "()V" } : Jvm.MethodName) object_method_1_code (1 : Nat) (Option.none : Option Jvm.ClassFile.FieldType), Jvm.Cond.code ({ cls := "java/lang/StringUTF16", name := "compress", desc := "([CII)[B" } : Jvm.MethodName) jdk_52_method_16_code (6 : Nat) (Option.some (Jvm.ClassFile.FieldType.array Jvm.ClassFile.FieldType.byte)), Jvm.Cond.code ({ cls := "java/lang/StringUTF16", name := "compress", desc := "([CI[BII)I" } : Jvm.MethodName) jdk_52_method_21_code (7 : Nat) (Option.some Jvm.ClassFile.FieldType.int), Jvm.Cond.code ({ cls := "java/lang/StringUTF16", name := "coderFromArrayLen", desc := "([BI)B" } : Jvm.MethodName) jdk_52_method_15_code (2 : Nat) (Option.some Jvm.ClassFile.FieldType.byte), Jvm.Cond.code ({ cls := "com/example/vaxwire/vaxwire/model/PatientIdentifier", name := "<init>", desc := "(Ljava/lang/String;Ljava/lang/String;Ljava/lang/String;)V" } : Jvm.MethodName) prog_139_method_1_code (4 : Nat) (Option.none : Option Jvm.ClassFile.FieldType), Jvm.Cond.code ({ cls := "java/lang/Record", name := "<init>", desc := "()V" } : Jvm.MethodName) jdk_30_method_1_code (1 : Nat) (Option.none : Option Jvm.ClassFile.FieldType), Jvm.Cond.code ({ cls := "com/example/vaxwire/vaxwire/model/PatientIdentifier", name := "components", desc := "()[Ljava/lang/String;" } : Jvm.MethodName) prog_139_method_5_code (1 : Nat) (Option.some (Jvm.ClassFile.FieldType.array (Jvm.ClassFile.FieldType.object "java/lang/String"))), Jvm.Cond.code ({ cls := "java/lang/String", name := "equals", desc := "(Ljava/lang/Object;)Z" } : Jvm.MethodName) jdk_42_method_66_code (3 : Nat) (Option.some Jvm.ClassFile.FieldType.boolean), Jvm.Cond.code ({ cls := "java/lang/String", name := "isEmpty", desc := "()Z" } : Jvm.MethodName) jdk_42_method_55_code (1 : Nat) (Option.some Jvm.ClassFile.FieldType.boolean), Jvm.Cond.code ({ cls := "java/lang/String", name := "valueOf", desc := "(C)Ljava/lang/String;" } : Jvm.MethodName) jdk_42_method_139_code (1 : Nat) (Option.some (Jvm.ClassFile.FieldType.object "java/lang/String")), Jvm.Cond.code ({ cls := "java/lang/StringLatin1", name := "canEncode", desc := "(C)Z" } : Jvm.MethodName) jdk_43_method_3_code (1 : Nat) (Option.some Jvm.ClassFile.FieldType.boolean), Jvm.Cond.code ({ cls := "java/lang/StringLatin1", name := "toBytes", desc := "(C)[B" } : Jvm.MethodName) jdk_43_method_46_code (1 : Nat) (Option.some (Jvm.ClassFile.FieldType.array Jvm.ClassFile.FieldType.byte)), Jvm.Cond.code ({ cls := "java/lang/String", name := "<init>", desc := "([BB)V" } : Jvm.MethodName) jdk_42_method_151_code (3 : Nat) (Option.none : Option Jvm.ClassFile.FieldType)]
set_option maxRecDepth 65536 in
theorem codes_eq : words1.filter isCode = codes1 := rfl
theorem w_codes : ∀ c ∈ words1.filter isCode, c.before args0 about1 = true := by
  rw [codes_eq]
  intro c hc
  simp only [codes1, List.mem_cons, List.not_mem_nil, or_false] at hc
  rcases hc with rfl | rfl | rfl | rfl | rfl | rfl | rfl | rfl | rfl | rfl | rfl | rfl | rfl | rfl | rfl | rfl | rfl
  · exact w_c0
  · exact w_c1
  · exact w_c2
  · exact w_c3
  · exact w_c4
  · exact w_c5
  · exact w_c6
  · exact w_c7
  · exact w_c8
  · exact w_c9
  · exact w_c10
  · exact w_c11
  · exact w_c12
  · exact w_c13
  · exact w_c14
  · exact w_c15
  · exact w_c16
set_option maxRecDepth 65536 in
theorem w_t1 : (words1.take 24).all (fun c => isCode c || c.before args0 about1) = true := by decide +kernel
set_option maxRecDepth 65536 in
theorem w_t2 : ((words1.drop 24).take 24).all (fun c => isCode c || c.before args0 about1) = true := by decide +kernel
set_option maxRecDepth 65536 in
theorem w_t3 : (((words1.drop 24).drop 24).take 24).all (fun c => isCode c || c.before args0 about1) = true := by decide +kernel
set_option maxRecDepth 65536 in
theorem w_t4 : (((words1.drop 24).drop 24).drop 24).all (fun c => isCode c || c.before args0 about1) = true := by decide +kernel
theorem w_tables : (allAtoms (Jvm.Cond.code x code maxLocals ret :: tables_1)).before args0 about1 = true := by
  rw [allAtoms_all]
  show words1.all (fun c => c.before args0 about1) = true
  refine all_split ?_ w_codes
  rw [← List.take_append_drop 24 words1, List.all_append, w_t1, ← List.take_append_drop 24 (words1.drop 24), List.all_append, w_t2, ← List.take_append_drop 24 ((words1.drop 24).drop 24), List.all_append, w_t3, w_t4]
  rfl
set_option maxRecDepth 65536 in
theorem w_rest : rest_1_c.before args0 about1 = true := by decide +kernel
set_option maxRecDepth 65536 in
theorem w_case : (Jvm.Cond.and given_1 narrow_1).before args0 about1 = true := by decide +kernel
set_option maxRecDepth 65536 in
theorem w_consts : constsHeld consts_1 about1 := Jvm.Lit.constsHeldB_iff.mp (by decide +kernel)
theorem w_applies : (headSpec (Jvm.Cond.code x code maxLocals ret :: tables_1) room_1).applies x e0.platform about1 = true :=
  (Spec.applies_iff w_frames).mpr ⟨w_running, w_runnable, w_alone, w_named, w_hears, w_ripe, w_room, w_tables⟩
theorem atStart : AtStart classFile x code maxLocals ret World_1 tables_1 room_1 Calls_1 rest_1 Pre_1 launch0 p0 e0 about1 theMethod args0 below0 :=
  ⟨lists_1, trivial, launch0.admits_env _ _ _, launch0.least_env, fairChoices_fair.cas, fairChoices_fair.clock, w_frames, w_args, w_heap, w_applies, ⟨w_consts, trivial⟩, w_rest, w_case⟩
end start1
theorem witness_1 : WitnessClaimed_1 := ⟨start1.p0, start1.e0, start1.about1, start1.theMethod, start1.args0, start1.below0, start1.atStart⟩
end Jvm.Pilot.@@N@@
