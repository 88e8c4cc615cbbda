import JvmDerived
import JvmDerived.Pilot.@@N@@Statement
import JvmDerived.Pilot.@@N@@Code
set_option linter.unusedVariables false
set_option linter.unusedSimpArgs false
namespace Jvm.RoadKit
open Sem ClassFile Op Lib Jvm.Stand Jvm.Free Jvm.LawKit
section New
variable {p : Program} {l : Launch} {e : Env} {R : Room} {s : State} {m : MethodId} {args : Array Value} {below : List Frame} {meth : Method} {c : Code} {T : State} {locs : List Loc} {cells slots : Nat}
theorem retI (X : Stand p l e R s m args below meth c T locs cells slots) (hx : p.tables.exec = Jvm.exec) {pc : Nat} {Ls : Array Slot} {z : Int32} {rest : List Value} (hret : meth.sig.returnType = some .int) (hd : decode c.code pc = .ok (.ireturn, 1)) {fs : List Frame}
    (hl : ∀ (f : JFrame) (acts : List Action), f.method = m → f.locked = none → f.entered = [] → (doReturn e (T.setTop f) acts (some (.int z))).1 = T.setFrames fs) : Steps p.tables e below (T.setTop (mkF m pc Ls (.int z :: rest))) (T.setFrames fs) := by
  have hm' : T.vm.method? m = some meth := X.method'
  have hn : narrow .int (.int z) = .int z := rfl
  show Steps p.tables e below (T.setTop { method := m, pc := pc, locals := Ls, stack := _ :: rest, locked := none }) _
  jvm_step X.here [X.here.top, hx, hd, hm', hret, hn]
  first | (intro acts; rw [hl _ acts rfl rfl rfl]) | rw [hl _ _ rfl rfl rfl]
  exact Steps.refl _
end New
end Jvm.RoadKit
namespace Jvm.Pilot.@@N@@
open Jvm Jvm.ClassFile Sem Op Lib Jvm.Free Jvm.Stand Jvm.LawKit Jvm.RoadKit Bundle Jvm.Pilot.@@N@@.Jvm.D
theorem own_m {α : Type} {L : List α} {x : α} (i : Nat) (h : L[i]? = some x) : x ∈ L := List.mem_of_getElem? h
theorem own_top {tb : Tables} {e : Env} {below : List Frame} {T t : State} {m : MethodId} {pc : Nat} {Ls : Array Slot} {v v' : Value} {rest : List Value} (q : v = v') (k : Steps tb e below (T.setTop (mkF m pc Ls (v' :: rest))) t) : Steps tb e below (T.setTop (mkF m pc Ls (v :: rest))) t := q ▸ k
theorem own_le {Z : State} {n0 : Nat} {h : Heap} (O : Old Z n0 h) : n0 ≤ h.size := O.1 ▸ O.2.1
theorem own_eqI {args : Array Value} {first s : State} {o : Option Outcome} {idx : List Nat} {t : Term} {k : Int32} (h : (Jvm.Cond.eq t (.int k)).value args first o s idx = some true) : t.eval args first o idx s = some (.int k) := by
  cases ht : t.eval args first o idx s with
  | none => simp [Cond.value, Term.eval, ht] at h
  | some x => cases x <;> simp [Cond.value, Term.eval, ht] at h ⊢; exact h
theorem own_eqJ {args : Array Value} {first s : State} {o : Option Outcome} {idx : List Nat} {t : Term} {k : Int64} (h : (Jvm.Cond.eq t (.long k)).value args first o s idx = some true) : t.eval args first o idx s = some (.long k) := by
  cases ht : t.eval args first o idx s with
  | none => simp [Cond.value, Term.eval, ht] at h
  | some x => cases x <;> simp [Cond.value, Term.eval, ht] at h ⊢; exact h
theorem own_eqR {args : Array Value} {first s : State} {o : Option Outcome} {idx : List Nat} {t u : Term} {b : Addr} (h : (Jvm.Cond.eq t u).value args first o s idx = some true) (hu : u.eval args first o idx s = some (.ref b)) : t.eval args first o idx s = some (.ref b) := by
  cases ht : t.eval args first o idx s with
  | none => simp [Cond.value, ht] at h
  | some x => cases x <;> simp [Cond.value, ht, hu] at h ⊢; exact h
def own_En (Z : State) (h : Heap) (C f d : String) (w : Addr) (k : Int32) : Prop := Sta Z h C f d (.ref w) ∧ Exa Z h w C ∧ Fld Z h w "java/lang/Enum" "ordinal" "I" (.int k)
theorem own_d1_0 : decode jdk_38_method_2_code 0 = .ok (.aload_n 0, 1) := by decide +kernel
theorem own_d1_1 : decode jdk_38_method_2_code 1 = .ok (.invokespecial 1, 3) := by decide +kernel
theorem own_d1_4 : decode jdk_38_method_2_code 4 = .ok (.aload_n 0, 1) := by decide +kernel
theorem own_d1_5 : decode jdk_38_method_2_code 5 = .ok (.getstatic 39, 3) := by decide +kernel
theorem own_d1_8 : decode jdk_38_method_2_code 8 = .ok (.putfield 9, 3) := by decide +kernel
theorem own_d1_11 : decode jdk_38_method_2_code 11 = .ok (.return_, 1) := by decide +kernel
theorem own_d2_0 : decode jdk_39_method_1_code 0 = .ok (.aload_n 0, 1) := by decide +kernel
theorem own_d2_1 : decode jdk_39_method_1_code 1 = .ok (.invokespecial 1, 3) := by decide +kernel
theorem own_d2_4 : decode jdk_39_method_1_code 4 = .ok (.aload_n 0, 1) := by decide +kernel
theorem own_d2_5 : decode jdk_39_method_1_code 5 = .ok (.iconst 0, 1) := by decide +kernel
theorem own_d2_6 : decode jdk_39_method_1_code 6 = .ok (.putfield 7, 3) := by decide +kernel
theorem own_d2_9 : decode jdk_39_method_1_code 9 = .ok (.return_, 1) := by decide +kernel
theorem own_d3_0 : decode jdk_22_method_1_code 0 = .ok (.aload_n 0, 1) := by decide +kernel
theorem own_d3_1 : decode jdk_22_method_1_code 1 = .ok (.invokespecial 1, 3) := by decide +kernel
theorem own_d3_4 : decode jdk_22_method_1_code 4 = .ok (.return_, 1) := by decide +kernel
theorem own_d5_0 : decode jdk_35_method_24_code 0 = .ok (.sipush 128, 3) := by decide +kernel
theorem own_d5_3 : decode jdk_35_method_24_code 3 = .ok (.istore_n 2, 1) := by decide +kernel
theorem own_d5_4 : decode jdk_35_method_24_code 4 = .ok (.lload_n 0, 1) := by decide +kernel
theorem own_d5_5 : decode jdk_35_method_24_code 5 = .ok (.ldc2_w 230, 3) := by decide +kernel
theorem own_d5_8 : decode jdk_35_method_24_code 8 = .ok (.lcmp, 1) := by decide +kernel
theorem own_d5_9 : decode jdk_35_method_24_code 9 = .ok (.ifCond .lt 22, 3) := by decide +kernel
theorem own_d5_12 : decode jdk_35_method_24_code 12 = .ok (.lload_n 0, 1) := by decide +kernel
theorem own_d5_13 : decode jdk_35_method_24_code 13 = .ok (.ldc2_w 232, 3) := by decide +kernel
theorem own_d5_16 : decode jdk_35_method_24_code 16 = .ok (.lcmp, 1) := by decide +kernel
theorem own_d5_17 : decode jdk_35_method_24_code 17 = .ok (.ifCond .gt 14, 3) := by decide +kernel
theorem own_d5_20 : decode jdk_35_method_24_code 20 = .ok (.getstatic 234, 3) := by decide +kernel
theorem own_d5_23 : decode jdk_35_method_24_code 23 = .ok (.lload_n 0, 1) := by decide +kernel
theorem own_d5_24 : decode jdk_35_method_24_code 24 = .ok (.l2i, 1) := by decide +kernel
theorem own_d5_25 : decode jdk_35_method_24_code 25 = .ok (.sipush 128, 3) := by decide +kernel
theorem own_d5_28 : decode jdk_35_method_24_code 28 = .ok (.iadd, 1) := by decide +kernel
theorem own_d5_29 : decode jdk_35_method_24_code 29 = .ok (.aaload, 1) := by decide +kernel
theorem own_d5_30 : decode jdk_35_method_24_code 30 = .ok (.areturn, 1) := by decide +kernel
theorem own_d5_31 : decode jdk_35_method_24_code 31 = .ok (.new 1, 3) := by decide +kernel
theorem own_d5_34 : decode jdk_35_method_24_code 34 = .ok (.dup, 1) := by decide +kernel
theorem own_d5_35 : decode jdk_35_method_24_code 35 = .ok (.lload_n 0, 1) := by decide +kernel
theorem own_d5_36 : decode jdk_35_method_24_code 36 = .ok (.invokespecial 240, 3) := by decide +kernel
theorem own_d5_39 : decode jdk_35_method_24_code 39 = .ok (.areturn, 1) := by decide +kernel
theorem own_d6_0 : decode jdk_38_method_25_code 0 = .ok (.aload_n 0, 1) := by decide +kernel
theorem own_d6_1 : decode jdk_38_method_25_code 1 = .ok (.dup, 1) := by decide +kernel
theorem own_d6_2 : decode jdk_38_method_25_code 2 = .ok (.getfield 63, 3) := by decide +kernel
theorem own_d6_5 : decode jdk_38_method_25_code 5 = .ok (.iconst 1, 1) := by decide +kernel
theorem own_d6_6 : decode jdk_38_method_25_code 6 = .ok (.iadd, 1) := by decide +kernel
theorem own_d6_7 : decode jdk_38_method_25_code 7 = .ok (.putfield 63, 3) := by decide +kernel
theorem own_d6_10 : decode jdk_38_method_25_code 10 = .ok (.aload_n 0, 1) := by decide +kernel
theorem own_d6_11 : decode jdk_38_method_25_code 11 = .ok (.aload_n 1, 1) := by decide +kernel
theorem own_d6_12 : decode jdk_38_method_25_code 12 = .ok (.aload_n 0, 1) := by decide +kernel
theorem own_d6_13 : decode jdk_38_method_25_code 13 = .ok (.getfield 9, 3) := by decide +kernel
theorem own_d6_16 : decode jdk_38_method_25_code 16 = .ok (.aload_n 0, 1) := by decide +kernel
theorem own_d6_17 : decode jdk_38_method_25_code 17 = .ok (.getfield 48, 3) := by decide +kernel
theorem own_d6_20 : decode jdk_38_method_25_code 20 = .ok (.invokevirtual 131, 3) := by decide +kernel
theorem own_d6_23 : decode jdk_38_method_25_code 23 = .ok (.iconst 1, 1) := by decide +kernel
theorem own_d6_24 : decode jdk_38_method_25_code 24 = .ok (.ireturn, 1) := by decide +kernel
theorem own_d7_0 : decode jdk_38_method_24_code 0 = .ok (.iload_n 3, 1) := by decide +kernel
theorem own_d7_1 : decode jdk_38_method_24_code 1 = .ok (.aload_n 2, 1) := by decide +kernel
theorem own_d7_2 : decode jdk_38_method_24_code 2 = .ok (.arraylength, 1) := by decide +kernel
theorem own_d7_3 : decode jdk_38_method_24_code 3 = .ok (.if_icmp .ne 8, 3) := by decide +kernel
theorem own_d7_6 : decode jdk_38_method_24_code 6 = .ok (.aload_n 0, 1) := by decide +kernel
theorem own_d7_7 : decode jdk_38_method_24_code 7 = .ok (.invokevirtual 129, 3) := by decide +kernel
theorem own_d7_10 : decode jdk_38_method_24_code 10 = .ok (.astore_n 2, 1) := by decide +kernel
theorem own_d7_11 : decode jdk_38_method_24_code 11 = .ok (.aload_n 2, 1) := by decide +kernel
theorem own_d7_12 : decode jdk_38_method_24_code 12 = .ok (.iload_n 3, 1) := by decide +kernel
theorem own_d7_13 : decode jdk_38_method_24_code 13 = .ok (.aload_n 1, 1) := by decide +kernel
theorem own_d7_14 : decode jdk_38_method_24_code 14 = .ok (.aastore, 1) := by decide +kernel
theorem own_d7_15 : decode jdk_38_method_24_code 15 = .ok (.aload_n 0, 1) := by decide +kernel
theorem own_d7_16 : decode jdk_38_method_24_code 16 = .ok (.iload_n 3, 1) := by decide +kernel
theorem own_d7_17 : decode jdk_38_method_24_code 17 = .ok (.iconst 1, 1) := by decide +kernel
theorem own_d7_18 : decode jdk_38_method_24_code 18 = .ok (.iadd, 1) := by decide +kernel
theorem own_d7_19 : decode jdk_38_method_24_code 19 = .ok (.putfield 48, 3) := by decide +kernel
theorem own_d7_22 : decode jdk_38_method_24_code 22 = .ok (.return_, 1) := by decide +kernel
theorem own_d8_0 : decode jdk_38_method_7_code 0 = .ok (.aload_n 0, 1) := by decide +kernel
theorem own_d8_1 : decode jdk_38_method_7_code 1 = .ok (.aload_n 0, 1) := by decide +kernel
theorem own_d8_2 : decode jdk_38_method_7_code 2 = .ok (.getfield 48, 3) := by decide +kernel
theorem own_d8_5 : decode jdk_38_method_7_code 5 = .ok (.iconst 1, 1) := by decide +kernel
theorem own_d8_6 : decode jdk_38_method_7_code 6 = .ok (.iadd, 1) := by decide +kernel
theorem own_d8_7 : decode jdk_38_method_7_code 7 = .ok (.invokevirtual 69, 3) := by decide +kernel
theorem own_d8_10 : decode jdk_38_method_7_code 10 = .ok (.areturn, 1) := by decide +kernel
theorem own_d9_0 : decode jdk_38_method_6_code 0 = .ok (.aload_n 0, 1) := by decide +kernel
theorem own_d9_1 : decode jdk_38_method_6_code 1 = .ok (.getfield 9, 3) := by decide +kernel
theorem own_d9_4 : decode jdk_38_method_6_code 4 = .ok (.arraylength, 1) := by decide +kernel
theorem own_d9_5 : decode jdk_38_method_6_code 5 = .ok (.istore_n 2, 1) := by decide +kernel
theorem own_d9_6 : decode jdk_38_method_6_code 6 = .ok (.iload_n 2, 1) := by decide +kernel
theorem own_d9_7 : decode jdk_38_method_6_code 7 = .ok (.ifCond .gt 13, 3) := by decide +kernel
theorem own_d9_10 : decode jdk_38_method_6_code 10 = .ok (.aload_n 0, 1) := by decide +kernel
theorem own_d9_11 : decode jdk_38_method_6_code 11 = .ok (.getfield 9, 3) := by decide +kernel
theorem own_d9_14 : decode jdk_38_method_6_code 14 = .ok (.getstatic 39, 3) := by decide +kernel
theorem own_d9_17 : decode jdk_38_method_6_code 17 = .ok (.if_acmp .eq 28, 3) := by decide +kernel
theorem own_d9_45 : decode jdk_38_method_6_code 45 = .ok (.aload_n 0, 1) := by decide +kernel
theorem own_d9_46 : decode jdk_38_method_6_code 46 = .ok (.bipush 10, 2) := by decide +kernel
theorem own_d9_48 : decode jdk_38_method_6_code 48 = .ok (.iload_n 1, 1) := by decide +kernel
theorem own_d9_49 : decode jdk_38_method_6_code 49 = .ok (.invokestatic 79, 3) := by decide +kernel
theorem own_d9_52 : decode jdk_38_method_6_code 52 = .ok (.anewarray 7, 3) := by decide +kernel
theorem own_d9_55 : decode jdk_38_method_6_code 55 = .ok (.dup_x1, 1) := by decide +kernel
theorem own_d9_56 : decode jdk_38_method_6_code 56 = .ok (.putfield 9, 3) := by decide +kernel
theorem own_d9_59 : decode jdk_38_method_6_code 59 = .ok (.areturn, 1) := by decide +kernel
theorem own_d10_0 : decode jdk_29_method_65_code 0 = .ok (.iload_n 0, 1) := by decide +kernel
theorem own_d10_1 : decode jdk_29_method_65_code 1 = .ok (.iload_n 1, 1) := by decide +kernel
theorem own_d10_2 : decode jdk_29_method_65_code 2 = .ok (.if_icmp .lt 7, 3) := by decide +kernel
theorem own_d10_5 : decode jdk_29_method_65_code 5 = .ok (.iload_n 0, 1) := by decide +kernel
theorem own_d10_6 : decode jdk_29_method_65_code 6 = .ok (.goto 4, 3) := by decide +kernel
theorem own_d10_10 : decode jdk_29_method_65_code 10 = .ok (.ireturn, 1) := by decide +kernel
theorem own_d11_0 : decode prog_4_method_2_code 0 = .ok (.new 8, 3) := by decide +kernel
theorem own_d11_3 : decode prog_4_method_2_code 3 = .ok (.dup, 1) := by decide +kernel
theorem own_d11_4 : decode prog_4_method_2_code 4 = .ok (.aload_n 0, 1) := by decide +kernel
theorem own_d11_5 : decode prog_4_method_2_code 5 = .ok (.iconst 0, 1) := by decide +kernel
theorem own_d11_6 : decode prog_4_method_2_code 6 = .ok (.invokeinterface 16 2, 5) := by decide +kernel
theorem own_d11_11 : decode prog_4_method_2_code 11 = .ok (.checkcast 22, 3) := by decide +kernel
theorem own_d11_14 : decode prog_4_method_2_code 14 = .ok (.invokevirtual 24, 3) := by decide +kernel
theorem own_d11_17 : decode prog_4_method_2_code 17 = .ok (.aload_n 0, 1) := by decide +kernel
theorem own_d11_18 : decode prog_4_method_2_code 18 = .ok (.iconst 1, 1) := by decide +kernel
theorem own_d11_19 : decode prog_4_method_2_code 19 = .ok (.invokeinterface 16 2, 5) := by decide +kernel
theorem own_d11_24 : decode prog_4_method_2_code 24 = .ok (.checkcast 22, 3) := by decide +kernel
theorem own_d11_27 : decode prog_4_method_2_code 27 = .ok (.invokevirtual 24, 3) := by decide +kernel
theorem own_d11_30 : decode prog_4_method_2_code 30 = .ok (.invokespecial 28, 3) := by decide +kernel
theorem own_d11_33 : decode prog_4_method_2_code 33 = .ok (.areturn, 1) := by decide +kernel
theorem own_d12_0 : decode jdk_38_method_20_code 0 = .ok (.iload_n 1, 1) := by decide +kernel
theorem own_d12_1 : decode jdk_38_method_20_code 1 = .ok (.aload_n 0, 1) := by decide +kernel
theorem own_d12_2 : decode jdk_38_method_20_code 2 = .ok (.getfield 48, 3) := by decide +kernel
theorem own_d12_5 : decode jdk_38_method_20_code 5 = .ok (.invokestatic 118, 3) := by decide +kernel
theorem own_d12_8 : decode jdk_38_method_20_code 8 = .ok (.pop, 1) := by decide +kernel
theorem own_d12_9 : decode jdk_38_method_20_code 9 = .ok (.aload_n 0, 1) := by decide +kernel
theorem own_d12_10 : decode jdk_38_method_20_code 10 = .ok (.iload_n 1, 1) := by decide +kernel
theorem own_d12_11 : decode jdk_38_method_20_code 11 = .ok (.invokevirtual 123, 3) := by decide +kernel
theorem own_d12_14 : decode jdk_38_method_20_code 14 = .ok (.areturn, 1) := by decide +kernel
theorem own_d13_0 : decode jdk_31_method_17_code 0 = .ok (.iload_n 0, 1) := by decide +kernel
theorem own_d13_1 : decode jdk_31_method_17_code 1 = .ok (.iload_n 1, 1) := by decide +kernel
theorem own_d13_2 : decode jdk_31_method_17_code 2 = .ok (.aconst_null, 1) := by decide +kernel
theorem own_d13_3 : decode jdk_31_method_17_code 3 = .ok (.invokestatic 105, 3) := by decide +kernel
theorem own_d13_6 : decode jdk_31_method_17_code 6 = .ok (.ireturn, 1) := by decide +kernel
theorem own_d14_0 : decode jdk_41_method_11_code 0 = .ok (.iload_n 0, 1) := by decide +kernel
theorem own_d14_1 : decode jdk_41_method_11_code 1 = .ok (.ifCond .lt 8, 3) := by decide +kernel
theorem own_d14_4 : decode jdk_41_method_11_code 4 = .ok (.iload_n 0, 1) := by decide +kernel
theorem own_d14_5 : decode jdk_41_method_11_code 5 = .ok (.iload_n 1, 1) := by decide +kernel
theorem own_d14_6 : decode jdk_41_method_11_code 6 = .ok (.if_icmp .lt 10, 3) := by decide +kernel
theorem own_d14_16 : decode jdk_41_method_11_code 16 = .ok (.iload_n 0, 1) := by decide +kernel
theorem own_d14_17 : decode jdk_41_method_11_code 17 = .ok (.ireturn, 1) := by decide +kernel
theorem own_d15_0 : decode jdk_38_method_18_code 0 = .ok (.aload_n 0, 1) := by decide +kernel
theorem own_d15_1 : decode jdk_38_method_18_code 1 = .ok (.getfield 9, 3) := by decide +kernel
theorem own_d15_4 : decode jdk_38_method_18_code 4 = .ok (.iload_n 1, 1) := by decide +kernel
theorem own_d15_5 : decode jdk_38_method_18_code 5 = .ok (.aaload, 1) := by decide +kernel
theorem own_d15_6 : decode jdk_38_method_18_code 6 = .ok (.areturn, 1) := by decide +kernel
theorem own_d16_0 : decode jdk_35_method_31_code 0 = .ok (.aload_n 0, 1) := by decide +kernel
theorem own_d16_1 : decode jdk_35_method_31_code 1 = .ok (.getfield 273, 3) := by decide +kernel
theorem own_d16_4 : decode jdk_35_method_31_code 4 = .ok (.lreturn, 1) := by decide +kernel
theorem own_d17_0 : decode prog_4_method_1_code 0 = .ok (.aload_n 0, 1) := by decide +kernel
theorem own_d17_1 : decode prog_4_method_1_code 1 = .ok (.invokespecial 1, 3) := by decide +kernel
theorem own_d17_4 : decode prog_4_method_1_code 4 = .ok (.aload_n 0, 1) := by decide +kernel
theorem own_d17_5 : decode prog_4_method_1_code 5 = .ok (.lload_n 1, 1) := by decide +kernel
theorem own_d17_6 : decode prog_4_method_1_code 6 = .ok (.putfield 7, 3) := by decide +kernel
theorem own_d17_9 : decode prog_4_method_1_code 9 = .ok (.aload_n 0, 1) := by decide +kernel
theorem own_d17_10 : decode prog_4_method_1_code 10 = .ok (.lload_n 3, 1) := by decide +kernel
theorem own_d17_11 : decode prog_4_method_1_code 11 = .ok (.putfield 13, 3) := by decide +kernel
theorem own_d17_14 : decode prog_4_method_1_code 14 = .ok (.return_, 1) := by decide +kernel
theorem own_d18_0 : decode jdk_30_method_1_code 0 = .ok (.aload_n 0, 1) := by decide +kernel
theorem own_d18_1 : decode jdk_30_method_1_code 1 = .ok (.invokespecial 1, 3) := by decide +kernel
theorem own_d18_4 : decode jdk_30_method_1_code 4 = .ok (.return_, 1) := by decide +kernel
theorem own_d19_0 : decode prog_4_method_6_code 0 = .ok (.aload_n 0, 1) := by decide +kernel
theorem own_d19_1 : decode prog_4_method_6_code 1 = .ok (.getfield 7, 3) := by decide +kernel
theorem own_d19_4 : decode prog_4_method_6_code 4 = .ok (.lreturn, 1) := by decide +kernel
theorem own_d20_0 : decode prog_4_method_7_code 0 = .ok (.aload_n 0, 1) := by decide +kernel
theorem own_d20_1 : decode prog_4_method_7_code 1 = .ok (.getfield 13, 3) := by decide +kernel
theorem own_d20_4 : decode prog_4_method_7_code 4 = .ok (.lreturn, 1) := by decide +kernel
theorem own_d21_0 : decode jdk_35_method_26_code 0 = .ok (.aload_n 0, 1) := by decide +kernel
theorem own_d21_1 : decode jdk_35_method_26_code 1 = .ok (.invokespecial 270, 3) := by decide +kernel
theorem own_d21_4 : decode jdk_35_method_26_code 4 = .ok (.aload_n 0, 1) := by decide +kernel
theorem own_d21_5 : decode jdk_35_method_26_code 5 = .ok (.lload_n 1, 1) := by decide +kernel
theorem own_d21_6 : decode jdk_35_method_26_code 6 = .ok (.putfield 273, 3) := by decide +kernel
theorem own_d21_9 : decode jdk_35_method_26_code 9 = .ok (.return_, 1) := by decide +kernel
theorem own_d22_0 : decode jdk_18_method_1_code 0 = .ok (.aload_n 0, 1) := by decide +kernel
theorem own_d22_1 : decode jdk_18_method_1_code 1 = .ok (.invokespecial 1, 3) := by decide +kernel
theorem own_d22_4 : decode jdk_18_method_1_code 4 = .ok (.return_, 1) := by decide +kernel
theorem own_pn0 : plainName "java/util/AbstractCollection" = true := by first | (simp [plainName, overriddenIn]; done) | decide +kernel
theorem own_pn1 : plainName "java/lang/Number" = true := by first | (simp [plainName, overriddenIn]; done) | decide +kernel
theorem own_pn2 : plainName "java/lang/Record" = true := by first | (simp [plainName, overriddenIn]; done) | decide +kernel
theorem own_pn3 : plainName "java/util/AbstractList" = true := by first | (simp [plainName, overriddenIn]; done) | decide +kernel
theorem own_pn4 : plainName "java/util/ArrayList" = true := by first | (simp [plainName, overriddenIn]; done) | decide +kernel
theorem own_pn5 : plainName "java/lang/Long" = true := by first | (simp [plainName, overriddenIn]; done) | decide +kernel
theorem own_pn6 : plainName "jdk/internal/util/Preconditions" = true := by first | (simp [plainName, overriddenIn]; done) | decide +kernel
theorem own_pn7 : plainName "java/util/Objects" = true := by first | (simp [plainName, overriddenIn]; done) | decide +kernel
theorem own_pn8 : plainName "com/example/horkos/horkos/internal/AcquireReply" = true := by first | (simp [plainName, overriddenIn]; done) | decide +kernel
theorem own_pn9 : plainName "com/example/horkos/horkos/internal/AcquireReplyOfPinLaw" = true := by first | (simp [plainName, overriddenIn]; done) | decide +kernel
theorem own_pd0 : parseMethodDescriptor "()V" = some ⟨[], none⟩ := by decide +kernel
theorem own_pd1 : parseMethodDescriptor "(J)V" = some ⟨[.long], none⟩ := by decide +kernel
theorem own_pd2 : parseMethodDescriptor "(II)I" = some ⟨[.int, .int], some .int⟩ := by decide +kernel
theorem own_pd3 : parseMethodDescriptor "(I)[Ljava/lang/Object;" = some ⟨[.int], some (.array (.object "java/lang/Object"))⟩ := by decide +kernel
theorem own_pd4 : parseMethodDescriptor "()[Ljava/lang/Object;" = some ⟨[], some (.array (.object "java/lang/Object"))⟩ := by decide +kernel
theorem own_pd5 : parseMethodDescriptor "(Ljava/lang/Object;[Ljava/lang/Object;I)V" = some ⟨[(.object "java/lang/Object"), (.array (.object "java/lang/Object")), .int], none⟩ := by decide +kernel
theorem own_pd6 : parseMethodDescriptor "(IILjava/util/function/BiFunction;)I" = some ⟨[.int, .int, (.object "java/util/function/BiFunction")], some .int⟩ := by decide +kernel
theorem own_pd7 : parseMethodDescriptor "(I)Ljava/lang/Object;" = some ⟨[.int], some (.object "java/lang/Object")⟩ := by decide +kernel
theorem own_pd8 : parseMethodDescriptor "()J" = some ⟨[], some .long⟩ := by decide +kernel
theorem own_pd9 : parseMethodDescriptor "(JJ)V" = some ⟨[.long, .long], none⟩ := by decide +kernel
theorem own_pd10 : parseMethodDescriptor "(J)Ljava/lang/Long;" = some ⟨[.long], some (.object "java/lang/Long")⟩ := by decide +kernel
theorem own_pd11 : parseMethodDescriptor "(Ljava/lang/Object;)Z" = some ⟨[(.object "java/lang/Object")], some .boolean⟩ := by decide +kernel
theorem own_pd12 : parseMethodDescriptor "(Ljava/util/List;)Lcom/example/horkos/horkos/internal/AcquireReply;" = some ⟨[(.object "java/util/List")], some (.object "com/example/horkos/horkos/internal/AcquireReply")⟩ := by decide +kernel
def own_Cache (Z : State) (w : Addr) : Prop := ∀ q : Int64, ¬ q < (-128 : Int64) → ¬ (127 : Int64) < q → ∃ (y : Addr) (cl : Cell), Arr Z Z.heap w cl (.object "java/lang/Long") ∧ ¬ (((q.toInt32) + (128 : Int32)) < 0 ∨ cl.slots.size ≤ (((q.toInt32) + (128 : Int32))).toNatClampNeg) ∧ cl.slots[(((q.toInt32) + (128 : Int32))).toNatClampNeg]? = some (.ref y) ∧ Exa Z Z.heap y "java/lang/Long" ∧ Fld Z Z.heap y "java/lang/Long" "value" "J" (.long q)
theorem own_exaI {Z : State} {args : Array Value} {idx : List Nat} {t : Term} {a : Addr} {K : String} (ev : t.eval args Z none idx Z = some (.ref a)) (hx : (Jvm.Cond.exactly t K).value args Z none Z idx = some true) : Exa Z Z.heap a K := by
  obtain ⟨a', c', cell, k, e1, e2, e3, e4, e5, rfl, e7⟩ := Cond.exactly_spec (beq_iff_eq.mpr hx : (Jvm.Cond.exactly t K).holds args Z none Z idx = true)
  cases ev.symm.trans e1
  exact ⟨cell, k, e3, e2, e4, e5, e7⟩
theorem own_size {s : State} {args : Array Value} {t : Term} {a : Addr} {cl : Cell} {ty : FieldType} {k : Int32} (ev : t.eval args s none [] s = some (.ref a)) (A : Arr s s.heap a cl ty) (h : (Jvm.Cond.eq (.length t) (.int k)).value args s none s [] = some true) : cl.slots.size < 2 ^ 31 ∧ cl.slots.size.toInt32 = k := by
  have h2 := own_eqI h
  have ha : s.arrayAt? a = some cl := A.fin (Vm.Alike.refl _)
  by_cases q : cl.slots.size < 2 ^ 31
  · rw [len_f ev ha q] at h2
    exact ⟨q, by simpa using h2⟩
  · simp [Term.eval, ev, ha, q] at h2
theorem own_empty {s : State} {args : Array Value} {t : Term} {a : Addr} {cl : Cell} {ty : FieldType} {dv : Value} (ev : t.eval args s none [] s = some (.ref a)) (A : Arr s s.heap a cl ty) (h : (Jvm.Cond.eq (.length t) (.int 0)).value args s none s [] = some true) : Arv s s.heap a cl.cls ty (0 : Int32) [] dv := by
  obtain ⟨q1, q2⟩ := own_size ev A h
  have e := len_toInt q1
  rw [q2] at e
  have e0 : cl.slots.size = 0 := by
    have : (0 : Int32).toInt = 0 := by decide
    omega
  exact ⟨cl, A, rfl, by rw [e0]; rfl, by decide, fun k hk => absurd hk (by omega), fun k hk => absurd hk (by omega)⟩
theorem own_eqL {args : Array Value} {first s : State} {o : Option Outcome} {idx : List Nat} {t u : Term} {k : Int64} (h : (Jvm.Cond.eq t u).value args first o s idx = some true) (hu : u.eval args first o idx s = some (.long k)) : t.eval args first o idx s = some (.long k) := by
  cases ht : t.eval args first o idx s with
  | none => simp [Cond.value, ht] at h
  | some x => cases x <;> simp [Cond.value, ht, hu] at h ⊢; exact h
theorem own_cache {s : State} {args : Array Value} {w : Addr} {K n d : String} (ev : (Term.static K n d).eval args s none [] s = some (.ref w)) (hA : (Jvm.Cond.arrayOf (.static K n d) (.object "java/lang/Long")).value args s none s [] = some true) (hL : (Jvm.Cond.eq (.length (.static K n d)) (.int 256)).value args s none s [] = some true)
    (hAll : (Jvm.Cond.all (.static K n d) (.and (.exactly (.elem (.static K n d) (.index 0)) "java/lang/Long") (.eq (.field (.elem (.static K n d) (.index 0)) "java/lang/Long" "value" "J") (.op1 .i2l (.sub (.index 0) (.int 128)))))).value args s none s [] = some true) : own_Cache s w := by
  intro q h1 h2
  obtain ⟨cl, A⟩ := Arr.start ev hA
  obtain ⟨b1, b2⟩ := own_size ev A hL
  have b3 := len_toInt b1
  rw [b2] at b3
  have e256 : (256 : Int32).toInt = 256 := by decide
  have em : (-128 : Int64).toInt = -128 := by decide
  have ep : (127 : Int64).toInt = 127 := by decide
  have e128 : (128 : Int32).toInt = 128 := by decide
  rw [Int64.lt_iff_toInt_lt] at h1 h2
  have ha : s.arrayAt? w = some cl := A.fin (Vm.Alike.refl _)
  obtain ⟨i, hi⟩ : ∃ i : Nat, (i : Int) = q.toInt + 128 := ⟨(q.toInt + 128).toNat, by omega⟩
  have hc := Cond.all_elim ev ha hAll i (by omega)
  obtain ⟨c1, c2⟩ := and_e hc
  obtain ⟨y, ey⟩ := exa_v c1
  have Ey := own_exaI ey c1
  have ev' : (Term.static K n d).eval args s none [i] s = some (.ref w) := ev
  have ej : (Term.index 0).eval args s none [i] s = some (.int i.toInt32) := rfl
  have ei := len_toInt (n := i) (by omega)
  have a1 := c_iadd q.toInt32 (128 : Int32)
  have a2 := c_l2i q
  have r1 := rng32 (q.toInt32 + (128 : Int32))
  have r2 := rng32 q.toInt32
  have e1 : i.toInt32 = (q.toInt32 + (128 : Int32)) := by
    apply Int32.toInt_inj.mp
    omega
  obtain ⟨hin, hat⟩ := elem_in ey ev' ej A.1
  rw [e1] at hin hat
  have es : (Term.op1 .i2l (.sub (.index 0) (.int 128))).eval args s none [i] s = some (.long (i.toInt32 - 128).toInt64) := rfl
  have f1 := own_eqL c2 es
  rw [fld_at ey] at f1
  have a3 := c_isub i.toInt32 (128 : Int32)
  have r3 := rng32 (i.toInt32 - (128 : Int32))
  have e2 : (i.toInt32 - 128).toInt64 = q := by
    apply Int64.toInt_inj.mp
    rw [c_i2l]
    omega
  rw [e2] at f1
  exact ⟨y, cl, A, hin, hat, Ey, Fld.start f1⟩

theorem own_ac_ef (m : MethodId) (a : Addr) : entryFrame m #[(.ref a)] 1 = mkF m 0 #[rv a] [] := by first | (simp [entryFrame, mkF, argsToLocals, Value.category]; done) | rfl
def own_ac_Q (Z : State) (w_DE : Addr) (k_DE : ClassId) (w_CA : Addr) (a : Addr) (h0 : Heap) (n0 : Nat) (v : Option Value) (h : Heap) (L : List Loc) : Prop := v = none ∧ Fr n0 L ∧ h = h0
set_option maxRecDepth 65536 in
set_option maxHeartbeats 40000000 in
theorem own_ac (l : Launch) (Z : State) (a0 : Array Value) (hw : ∀ d ∈ tables_1, d.before a0 Z = true) (ws : List Jvm.Cond) (w_DE : Addr) (k_DE : ClassId) (w_CA : Addr) (a : Addr) (h0 : Heap) (n0 : Nat) (O0 : Old Z n0 h0) (S_DE : Sta Z Z.heap "java/util/ArrayList" "DEFAULTCAPACITY_EMPTY_ELEMENTDATA" "[Ljava/lang/Object;" (.ref w_DE)) (V_DE : Arv Z Z.heap w_DE k_DE (.object "java/lang/Object") (0 : Int32) [] .null) (S_CA : Sta Z Z.heap "java/lang/Long$LongCache" "cache" "[Ljava/lang/Long;" (.ref w_CA)) (H_CA : own_Cache Z w_CA) :
    MetFree l (⟨"java/util/AbstractCollection", "<init>", "()V"⟩ : MethodName) (head1 (Jvm.Cond.code (⟨"java/util/AbstractCollection", "<init>", "()V"⟩ : MethodName) jdk_22_method_1_code 1 none :: ws) ({ frames := 1, cells := 0, slots := 0, locals := 12 } : Room)) (fun ar U => ar = #[(.ref a)] ∧ Z.Warmed39 U.vm ∧ U.heap = h0) (fun _ _ _ _ _ => True) (fun _ U oc U' => ∃ v L, oc = .returned v ∧ own_ac_Q Z w_DE k_DE w_CA a h0 n0 v U'.heap L ∧ FrameEnd U oc U' L ({ frames := 1, cells := 0, slots := 0, locals := 12 } : Room).cells ({ frames := 1, cells := 0, slots := 0, locals := 12 } : Room).slots) := by
  refine MetFree.of_bodySF (plainFor_of_name own_pn0) hisR ?_
  intro p e s m args below meth c s₁ Bd hml0 hP hK
  obtain ⟨rfl, hZ, hh⟩ := hP
  have hx := Bd.exec
  have hby := Bd.bytes
  have hml : c.maxLocals = 1 := hml0
  have hown : s.vm.findClass "java/util/AbstractCollection" = some m.cls := findClass_of_methodNamed Bd.named
  have hnm := (name_of_methodNamed Bd.named Bd.method).1
  have X0 : Stand p l e ({ frames := 1, cells := 0, slots := 0, locals := 12 } : Room) s m #[(.ref a)] below meth c s₁ [] 0 0 := Stand.of_body Bd
  have e0 : s₁.heap = h0 := by rw [← hh, Bd.state]; rfl
  have N0 := Fr.nil n0
  have pre0 : ∀ t, Steps p.tables e below (s₁.setTop (mkF m 0 #[rv a] [])) t → Steps p.tables e below (s₁.setTop (entryFrame m #[(.ref a)] 1)) t := fun t k => castTop (own_ac_ef m a) k
  obtain ⟨T1, X1, e1, st1⟩ := initO X0 hx hZ hown (hw _ (own_m 18 rfl)) (hw _ (own_m 19 rfl)) (hw _ (own_m 20 rfl)) e0 (g := (mkF m 1 #[rv a] [(.ref a)])) rfl (by rw [hml]; rfl) rfl (hb hby own_d3_1) (by decide) (W := 0) (by show 2 * 0 + _ ≤ _; exact Nat.le_of_eq rfl) (by decide)
  obtain ⟨fs, hr, hrun, hended, hW, hsame⟩ := X1.leave (v := none) (fun _ => rfl)
  refine ⟨_, _, pre0 _ ?_, hrun, hended, _, _, rfl, ?_, ⟨_, rfl⟩, hW, hsame.mono (by decide) (by decide)⟩
  · show Steps p.tables e below (s₁.setTop (mkF m 0 #[rv a] [])) _
    refine XS.aloadN X0.here hx rfl (hb hby own_d3_0) rfl rfl ?_
    show Steps p.tables e below (s₁.setTop (mkF m 1 #[rv a] [(.ref a)])) _
    refine st1 _ ?_
    show Steps p.tables e below (T1.setTop (mkF m 4 #[rv a] [])) _
    exact X1.returnOut hx Bd.returns (hb hby own_d3_4) hr
  · show own_ac_Q Z w_DE k_DE w_CA a h0 n0 _ T1.heap _
    rw [e1]
    exact ⟨rfl, N0, rfl⟩
theorem own_num_ef (m : MethodId) (a : Addr) : entryFrame m #[(.ref a)] 1 = mkF m 0 #[rv a] [] := by first | (simp [entryFrame, mkF, argsToLocals, Value.category]; done) | rfl
def own_num_Q (Z : State) (w_DE : Addr) (k_DE : ClassId) (w_CA : Addr) (a : Addr) (h0 : Heap) (n0 : Nat) (v : Option Value) (h : Heap) (L : List Loc) : Prop := v = none ∧ Fr n0 L ∧ h = h0
set_option maxRecDepth 65536 in
set_option maxHeartbeats 40000000 in
theorem own_num (l : Launch) (Z : State) (a0 : Array Value) (hw : ∀ d ∈ tables_1, d.before a0 Z = true) (ws : List Jvm.Cond) (w_DE : Addr) (k_DE : ClassId) (w_CA : Addr) (a : Addr) (h0 : Heap) (n0 : Nat) (O0 : Old Z n0 h0) (S_DE : Sta Z Z.heap "java/util/ArrayList" "DEFAULTCAPACITY_EMPTY_ELEMENTDATA" "[Ljava/lang/Object;" (.ref w_DE)) (V_DE : Arv Z Z.heap w_DE k_DE (.object "java/lang/Object") (0 : Int32) [] .null) (S_CA : Sta Z Z.heap "java/lang/Long$LongCache" "cache" "[Ljava/lang/Long;" (.ref w_CA)) (H_CA : own_Cache Z w_CA) :
    MetFree l (⟨"java/lang/Number", "<init>", "()V"⟩ : MethodName) (head1 (Jvm.Cond.code (⟨"java/lang/Number", "<init>", "()V"⟩ : MethodName) jdk_18_method_1_code 1 none :: ws) ({ frames := 1, cells := 0, slots := 0, locals := 12 } : Room)) (fun ar U => ar = #[(.ref a)] ∧ Z.Warmed39 U.vm ∧ U.heap = h0) (fun _ _ _ _ _ => True) (fun _ U oc U' => ∃ v L, oc = .returned v ∧ own_num_Q Z w_DE k_DE w_CA a h0 n0 v U'.heap L ∧ FrameEnd U oc U' L ({ frames := 1, cells := 0, slots := 0, locals := 12 } : Room).cells ({ frames := 1, cells := 0, slots := 0, locals := 12 } : Room).slots) := by
  refine MetFree.of_bodySF (plainFor_of_name own_pn1) hisR ?_
  intro p e s m args below meth c s₁ Bd hml0 hP hK
  obtain ⟨rfl, hZ, hh⟩ := hP
  have hx := Bd.exec
  have hby := Bd.bytes
  have hml : c.maxLocals = 1 := hml0
  have hown : s.vm.findClass "java/lang/Number" = some m.cls := findClass_of_methodNamed Bd.named
  have hnm := (name_of_methodNamed Bd.named Bd.method).1
  have X0 : Stand p l e ({ frames := 1, cells := 0, slots := 0, locals := 12 } : Room) s m #[(.ref a)] below meth c s₁ [] 0 0 := Stand.of_body Bd
  have e0 : s₁.heap = h0 := by rw [← hh, Bd.state]; rfl
  have N0 := Fr.nil n0
  have pre0 : ∀ t, Steps p.tables e below (s₁.setTop (mkF m 0 #[rv a] [])) t → Steps p.tables e below (s₁.setTop (entryFrame m #[(.ref a)] 1)) t := fun t k => castTop (own_num_ef m a) k
  obtain ⟨T1, X1, e1, st1⟩ := initO X0 hx hZ hown (hw _ (own_m 136 rfl)) (hw _ (own_m 19 rfl)) (hw _ (own_m 20 rfl)) e0 (g := (mkF m 1 #[rv a] [(.ref a)])) rfl (by rw [hml]; rfl) rfl (hb hby own_d22_1) (by decide) (W := 0) (by show 2 * 0 + _ ≤ _; exact Nat.le_of_eq rfl) (by decide)
  obtain ⟨fs, hr, hrun, hended, hW, hsame⟩ := X1.leave (v := none) (fun _ => rfl)
  refine ⟨_, _, pre0 _ ?_, hrun, hended, _, _, rfl, ?_, ⟨_, rfl⟩, hW, hsame.mono (by decide) (by decide)⟩
  · show Steps p.tables e below (s₁.setTop (mkF m 0 #[rv a] [])) _
    refine XS.aloadN X0.here hx rfl (hb hby own_d22_0) rfl rfl ?_
    show Steps p.tables e below (s₁.setTop (mkF m 1 #[rv a] [(.ref a)])) _
    refine st1 _ ?_
    show Steps p.tables e below (T1.setTop (mkF m 4 #[rv a] [])) _
    exact X1.returnOut hx Bd.returns (hb hby own_d22_4) hr
  · show own_num_Q Z w_DE k_DE w_CA a h0 n0 _ T1.heap _
    rw [e1]
    exact ⟨rfl, N0, rfl⟩
theorem own_rec_ef (m : MethodId) (a : Addr) : entryFrame m #[(.ref a)] 1 = mkF m 0 #[rv a] [] := by first | (simp [entryFrame, mkF, argsToLocals, Value.category]; done) | rfl
def own_rec_Q (Z : State) (w_DE : Addr) (k_DE : ClassId) (w_CA : Addr) (a : Addr) (h0 : Heap) (n0 : Nat) (v : Option Value) (h : Heap) (L : List Loc) : Prop := v = none ∧ Fr n0 L ∧ h = h0
set_option maxRecDepth 65536 in
set_option maxHeartbeats 40000000 in
theorem own_rec (l : Launch) (Z : State) (a0 : Array Value) (hw : ∀ d ∈ tables_1, d.before a0 Z = true) (ws : List Jvm.Cond) (w_DE : Addr) (k_DE : ClassId) (w_CA : Addr) (a : Addr) (h0 : Heap) (n0 : Nat) (O0 : Old Z n0 h0) (S_DE : Sta Z Z.heap "java/util/ArrayList" "DEFAULTCAPACITY_EMPTY_ELEMENTDATA" "[Ljava/lang/Object;" (.ref w_DE)) (V_DE : Arv Z Z.heap w_DE k_DE (.object "java/lang/Object") (0 : Int32) [] .null) (S_CA : Sta Z Z.heap "java/lang/Long$LongCache" "cache" "[Ljava/lang/Long;" (.ref w_CA)) (H_CA : own_Cache Z w_CA) :
    MetFree l (⟨"java/lang/Record", "<init>", "()V"⟩ : MethodName) (head1 (Jvm.Cond.code (⟨"java/lang/Record", "<init>", "()V"⟩ : MethodName) jdk_30_method_1_code 1 none :: ws) ({ frames := 1, cells := 0, slots := 0, locals := 12 } : Room)) (fun ar U => ar = #[(.ref a)] ∧ Z.Warmed39 U.vm ∧ U.heap = h0) (fun _ _ _ _ _ => True) (fun _ U oc U' => ∃ v L, oc = .returned v ∧ own_rec_Q Z w_DE k_DE w_CA a h0 n0 v U'.heap L ∧ FrameEnd U oc U' L ({ frames := 1, cells := 0, slots := 0, locals := 12 } : Room).cells ({ frames := 1, cells := 0, slots := 0, locals := 12 } : Room).slots) := by
  refine MetFree.of_bodySF (plainFor_of_name own_pn2) hisR ?_
  intro p e s m args below meth c s₁ Bd hml0 hP hK
  obtain ⟨rfl, hZ, hh⟩ := hP
  have hx := Bd.exec
  have hby := Bd.bytes
  have hml : c.maxLocals = 1 := hml0
  have hown : s.vm.findClass "java/lang/Record" = some m.cls := findClass_of_methodNamed Bd.named
  have hnm := (name_of_methodNamed Bd.named Bd.method).1
  have X0 : Stand p l e ({ frames := 1, cells := 0, slots := 0, locals := 12 } : Room) s m #[(.ref a)] below meth c s₁ [] 0 0 := Stand.of_body Bd
  have e0 : s₁.heap = h0 := by rw [← hh, Bd.state]; rfl
  have N0 := Fr.nil n0
  have pre0 : ∀ t, Steps p.tables e below (s₁.setTop (mkF m 0 #[rv a] [])) t → Steps p.tables e below (s₁.setTop (entryFrame m #[(.ref a)] 1)) t := fun t k => castTop (own_rec_ef m a) k
  obtain ⟨T1, X1, e1, st1⟩ := initO X0 hx hZ hown (hw _ (own_m 110 rfl)) (hw _ (own_m 19 rfl)) (hw _ (own_m 20 rfl)) e0 (g := (mkF m 1 #[rv a] [(.ref a)])) rfl (by rw [hml]; rfl) rfl (hb hby own_d18_1) (by decide) (W := 0) (by show 2 * 0 + _ ≤ _; exact Nat.le_of_eq rfl) (by decide)
  obtain ⟨fs, hr, hrun, hended, hW, hsame⟩ := X1.leave (v := none) (fun _ => rfl)
  refine ⟨_, _, pre0 _ ?_, hrun, hended, _, _, rfl, ?_, ⟨_, rfl⟩, hW, hsame.mono (by decide) (by decide)⟩
  · show Steps p.tables e below (s₁.setTop (mkF m 0 #[rv a] [])) _
    refine XS.aloadN X0.here hx rfl (hb hby own_d18_0) rfl rfl ?_
    show Steps p.tables e below (s₁.setTop (mkF m 1 #[rv a] [(.ref a)])) _
    refine st1 _ ?_
    show Steps p.tables e below (T1.setTop (mkF m 4 #[rv a] [])) _
    exact X1.returnOut hx Bd.returns (hb hby own_d18_4) hr
  · show own_rec_Q Z w_DE k_DE w_CA a h0 n0 _ T1.heap _
    rw [e1]
    exact ⟨rfl, N0, rfl⟩
theorem own_al_ef (m : MethodId) (a : Addr) : entryFrame m #[(.ref a)] 1 = mkF m 0 #[rv a] [] := by first | (simp [entryFrame, mkF, argsToLocals, Value.category]; done) | rfl
def own_al_Q (Z : State) (w_DE : Addr) (k_DE : ClassId) (w_CA : Addr) (a : Addr) (h0 : Heap) (n0 : Nat) (v : Option Value) (h : Heap) (L : List Loc) : Prop := v = none ∧ Fr n0 L ∧ Keep h0 h [a] ∧ Exa Z h a "java/util/ArrayList" ∧ Fld Z h a "java/util/ArrayList" "elementData" "[Ljava/lang/Object;" .null ∧ Fld Z h a "java/util/ArrayList" "size" "I" (.int 0) ∧ Fld Z h a "java/util/AbstractList" "modCount" "I" (.int 0)
set_option maxRecDepth 65536 in
set_option maxHeartbeats 40000000 in
theorem own_al (l : Launch) (Z : State) (a0 : Array Value) (hw : ∀ d ∈ tables_1, d.before a0 Z = true) (ws : List Jvm.Cond) (w_DE : Addr) (k_DE : ClassId) (w_CA : Addr) (a : Addr) (h0 : Heap) (n0 : Nat) (O0 : Old Z n0 h0) (S_DE : Sta Z Z.heap "java/util/ArrayList" "DEFAULTCAPACITY_EMPTY_ELEMENTDATA" "[Ljava/lang/Object;" (.ref w_DE)) (V_DE : Arv Z Z.heap w_DE k_DE (.object "java/lang/Object") (0 : Int32) [] .null) (S_CA : Sta Z Z.heap "java/lang/Long$LongCache" "cache" "[Ljava/lang/Long;" (.ref w_CA)) (H_CA : own_Cache Z w_CA) (g_a : n0 ≤ a) (E_a : Exa Z h0 a "java/util/ArrayList") (F_elementData : Fld Z h0 a "java/util/ArrayList" "elementData" "[Ljava/lang/Object;" .null) (F_size : Fld Z h0 a "java/util/ArrayList" "size" "I" (.int 0)) (F_modCount : Fld Z h0 a "java/util/AbstractList" "modCount" "I" (.int 0)) :
    MetFree l (⟨"java/util/AbstractList", "<init>", "()V"⟩ : MethodName) (head1 (Jvm.Cond.code (⟨"java/util/AbstractList", "<init>", "()V"⟩ : MethodName) jdk_39_method_1_code 1 none :: ws) ({ frames := 2, cells := 0, slots := 0, locals := 24 } : Room)) (fun ar U => ar = #[(.ref a)] ∧ Z.Warmed39 U.vm ∧ U.heap = h0) (fun _ _ _ _ _ => True) (fun _ U oc U' => ∃ v L, oc = .returned v ∧ own_al_Q Z w_DE k_DE w_CA a h0 n0 v U'.heap L ∧ FrameEnd U oc U' L ({ frames := 2, cells := 0, slots := 0, locals := 24 } : Room).cells ({ frames := 2, cells := 0, slots := 0, locals := 24 } : Room).slots) := by
  refine MetFree.of_bodySF (plainFor_of_name own_pn3) hisR ?_
  intro p e s m args below meth c s₁ Bd hml0 hP hK
  obtain ⟨rfl, hZ, hh⟩ := hP
  have hx := Bd.exec
  have hby := Bd.bytes
  have hml : c.maxLocals = 1 := hml0
  have hown : s.vm.findClass "java/util/AbstractList" = some m.cls := findClass_of_methodNamed Bd.named
  have hnm := (name_of_methodNamed Bd.named Bd.method).1
  have X0 : Stand p l e ({ frames := 2, cells := 0, slots := 0, locals := 24 } : Room) s m #[(.ref a)] below meth c s₁ [] 0 0 := Stand.of_body Bd
  have e0 : s₁.heap = h0 := by rw [← hh, Bd.state]; rfl
  have N0 := Fr.nil n0
  have pre0 : ∀ t, Steps p.tables e below (s₁.setTop (mkF m 0 #[rv a] [])) t → Steps p.tables e below (s₁.setTop (entryFrame m #[(.ref a)] 1)) t := fun t k => castTop (own_al_ef m a) k
  have kp0 := Keep.refl h0 ([a] : List Addr)
  obtain ⟨_, _, ⟨T1, L1, k1, n1⟩, -, X1, ⟨Lc1, hQ1, l1, y1, z1⟩, st1⟩ := X0.specialBack hx (y := (⟨"java/util/AbstractCollection", "<init>", "()V"⟩ : MethodName)) rfl hown (mvT hZ (hw _ (own_m 12 rfl))) (mvT hZ (hw _ (own_m 13 rfl))) (mvT hZ (hw _ (own_m 17 rfl))) (by decide) (backOf (W := 0) (own_ac l Z a0 hw [] w_DE k_DE w_CA a h0 n0 O0 S_DE V_DE S_CA H_CA ) hZ (hw _ (own_m 17 rfl)) (hw _ (own_m 16 rfl)) (by decide) (by decide)) (g := (mkF m 1 #[rv a] [(.ref a)])) rfl (by rw [hml]; rfl) (Steps.refl _) (a := a) (argsL := []) (rest := []) (lenOf own_pd0 rfl) rfl (by show 2 * 0 + _ ≤ _; exact Nat.le_of_eq rfl) (hb hby own_d2_1) (fun _ _ => ⟨rfl, e0, (by decide : 0 + 0 ≤ _), (by decide : 0 + 0 ≤ _)⟩)
  dsimp only [Pt.U, Pt.locs, Pt.cells, Pt.slots] at X1 l1 y1 z1 st1 hQ1
  subst l1 y1 z1
  obtain ⟨rfl, N1q, e1⟩ := hQ1
  have N1 := Fr.app N0 N1q
  obtain ⟨T2, h2, X2, e2, W2, st2⟩ := putF X1 hx hZ hown (host := "") (Or.inl (hw _ (own_m 21 rfl))) Via.refl e1 F_modCount E_a (Or.inl (hw _ (own_m 22 rfl))) (hw _ (own_m 1 rfl)) (ty := .int) (by decide) rfl rfl (g := (mkF m 6 #[rv a] [(.int 0), (.ref a)])) rfl rfl (hb hby own_d2_6)
  have Fw2 := F_modCount.same W2
  have O3 := O0.wr W2 g_a
  have kp4 := kp0.wr W2 (Or.inl (own_m 0 rfl))
  have N2 := Fr.snoc X2 N1 g_a
  have f5 := (E_a.wr W2)
  have f6 := (F_elementData.other W2 (Or.inr (slot_ne (Or.inl (hw _ (own_m 25 rfl))) (Or.inl (hw _ (own_m 22 rfl))) (by decide) (t := (.array (.object "java/lang/Object"))) (t' := .int) (by decide) (by decide))))
  have f7 := (F_size.other W2 (Or.inr (slot_ne (Or.inl (hw _ (own_m 42 rfl))) (Or.inl (hw _ (own_m 22 rfl))) (by decide) (t := .int) (t' := .int) (by decide) (by decide))))
  obtain ⟨fs, hr, hrun, hended, hW, hsame⟩ := X2.leave (v := none) (fun _ => rfl)
  refine ⟨_, _, pre0 _ ?_, hrun, hended, _, _, rfl, ?_, ⟨_, rfl⟩, hW, hsame.mono (by decide) (by decide)⟩
  · show Steps p.tables e below (s₁.setTop (mkF m 0 #[rv a] [])) _
    refine XS.aloadN X0.here hx rfl (hb hby own_d2_0) rfl rfl ?_
    show Steps p.tables e below (s₁.setTop (mkF m 1 #[rv a] [(.ref a)])) _
    refine st1.trans ?_
    show Steps p.tables e below (T1.setTop (mkF m 4 #[rv a] [])) _
    refine XS.aloadN X1.here hx rfl (hb hby own_d2_4) rfl rfl ?_
    show Steps p.tables e below (T1.setTop (mkF m 5 #[rv a] [(.ref a)])) _
    refine XS.iconst X1.here hx rfl (hb hby own_d2_5) ?_
    show Steps p.tables e below (T1.setTop (mkF m 6 #[rv a] [(.int 0), (.ref a)])) _
    refine st2 _ ?_
    show Steps p.tables e below (T2.setTop (mkF m 9 #[rv a] [])) _
    exact X2.returnOut hx Bd.returns (hb hby own_d2_9) hr
  · show own_al_Q Z w_DE k_DE w_CA a h0 n0 _ T2.heap _
    rw [e2]
    exact ⟨rfl, N2, kp4, f5, f6, f7, Fw2⟩
theorem own_li_ef (m : MethodId) (a : Addr) : entryFrame m #[(.ref a)] 1 = mkF m 0 #[rv a] [] := by first | (simp [entryFrame, mkF, argsToLocals, Value.category]; done) | rfl
def own_li_Q (Z : State) (w_DE : Addr) (k_DE : ClassId) (w_CA : Addr) (a : Addr) (h0 : Heap) (n0 : Nat) (v : Option Value) (h : Heap) (L : List Loc) : Prop := v = none ∧ Fr n0 L ∧ Keep h0 h [a] ∧ Exa Z h a "java/util/ArrayList" ∧ Fld Z h a "java/util/ArrayList" "elementData" "[Ljava/lang/Object;" (.ref w_DE) ∧ Fld Z h a "java/util/ArrayList" "size" "I" (.int 0) ∧ Fld Z h a "java/util/AbstractList" "modCount" "I" (.int 0)
set_option maxRecDepth 65536 in
set_option maxHeartbeats 40000000 in
theorem own_li (l : Launch) (Z : State) (a0 : Array Value) (hw : ∀ d ∈ tables_1, d.before a0 Z = true) (ws : List Jvm.Cond) (w_DE : Addr) (k_DE : ClassId) (w_CA : Addr) (a : Addr) (h0 : Heap) (n0 : Nat) (O0 : Old Z n0 h0) (S_DE : Sta Z Z.heap "java/util/ArrayList" "DEFAULTCAPACITY_EMPTY_ELEMENTDATA" "[Ljava/lang/Object;" (.ref w_DE)) (V_DE : Arv Z Z.heap w_DE k_DE (.object "java/lang/Object") (0 : Int32) [] .null) (S_CA : Sta Z Z.heap "java/lang/Long$LongCache" "cache" "[Ljava/lang/Long;" (.ref w_CA)) (H_CA : own_Cache Z w_CA) (g_a : n0 ≤ a) (E_a : Exa Z h0 a "java/util/ArrayList") (F_elementData : Fld Z h0 a "java/util/ArrayList" "elementData" "[Ljava/lang/Object;" .null) (F_size : Fld Z h0 a "java/util/ArrayList" "size" "I" (.int 0)) (F_modCount : Fld Z h0 a "java/util/AbstractList" "modCount" "I" (.int 0)) :
    MetFree l (⟨"java/util/ArrayList", "<init>", "()V"⟩ : MethodName) (head1 (Jvm.Cond.code (⟨"java/util/ArrayList", "<init>", "()V"⟩ : MethodName) jdk_38_method_2_code 1 none :: ws) ({ frames := 3, cells := 0, slots := 0, locals := 36 } : Room)) (fun ar U => ar = #[(.ref a)] ∧ Z.Warmed39 U.vm ∧ U.heap = h0) (fun _ _ _ _ _ => True) (fun _ U oc U' => ∃ v L, oc = .returned v ∧ own_li_Q Z w_DE k_DE w_CA a h0 n0 v U'.heap L ∧ FrameEnd U oc U' L ({ frames := 3, cells := 0, slots := 0, locals := 36 } : Room).cells ({ frames := 3, cells := 0, slots := 0, locals := 36 } : Room).slots) := by
  refine MetFree.of_bodySF (plainFor_of_name own_pn4) hisR ?_
  intro p e s m args below meth c s₁ Bd hml0 hP hK
  obtain ⟨rfl, hZ, hh⟩ := hP
  have hx := Bd.exec
  have hby := Bd.bytes
  have hml : c.maxLocals = 1 := hml0
  have hown : s.vm.findClass "java/util/ArrayList" = some m.cls := findClass_of_methodNamed Bd.named
  have hnm := (name_of_methodNamed Bd.named Bd.method).1
  have X0 : Stand p l e ({ frames := 3, cells := 0, slots := 0, locals := 36 } : Room) s m #[(.ref a)] below meth c s₁ [] 0 0 := Stand.of_body Bd
  have e0 : s₁.heap = h0 := by rw [← hh, Bd.state]; rfl
  have N0 := Fr.nil n0
  have pre0 : ∀ t, Steps p.tables e below (s₁.setTop (mkF m 0 #[rv a] [])) t → Steps p.tables e below (s₁.setTop (entryFrame m #[(.ref a)] 1)) t := fun t k => castTop (own_li_ef m a) k
  have kp0 := Keep.refl h0 ([a] : List Addr)
  obtain ⟨_, _, ⟨T1, L1, k1, n1⟩, -, X1, ⟨Lc1, hQ1, l1, y1, z1⟩, st1⟩ := X0.specialBack hx (y := (⟨"java/util/AbstractList", "<init>", "()V"⟩ : MethodName)) rfl hown (mvT hZ (hw _ (own_m 6 rfl))) (mvT hZ (hw _ (own_m 7 rfl))) (mvT hZ (hw _ (own_m 11 rfl))) (by decide) (backOf (W := 0) (own_al l Z a0 hw [] w_DE k_DE w_CA a h0 n0 O0 S_DE V_DE S_CA H_CA g_a E_a F_elementData F_size F_modCount) hZ (hw _ (own_m 11 rfl)) (hw _ (own_m 10 rfl)) (by decide) (by decide)) (g := (mkF m 1 #[rv a] [(.ref a)])) rfl (by rw [hml]; rfl) (Steps.refl _) (a := a) (argsL := []) (rest := []) (lenOf own_pd0 rfl) rfl (by show 2 * 0 + _ ≤ _; exact Nat.le_of_eq rfl) (hb hby own_d1_1) (fun _ _ => ⟨rfl, e0, (by decide : 0 + 0 ≤ _), (by decide : 0 + 0 ≤ _)⟩)
  dsimp only [Pt.U, Pt.locs, Pt.cells, Pt.slots] at X1 l1 y1 z1 st1 hQ1
  subst l1 y1 z1
  obtain ⟨rfl, N1q, K1, q2, q3, q4, q5⟩ := hQ1
  have N1 := Fr.app N0 N1q
  have O6 := O0.keep K1 (allS g_a all0)
  have kp7 := kp0.trans K1 ((allS (P := fun x => x ∈ ([a] : List Addr) ∨ h0.size ≤ x) (Or.inl (own_m 0 rfl)) all0))
  obtain ⟨T8, X8, e8, st8⟩ := getS2 X1 hx hZ hown (host := "") (Or.inl (hw _ (own_m 23 rfl))) Via.refl rfl (S_DE.ext O6.2) (g := (mkF m 5 #[rv a] [(.ref a)])) rfl (hb hby own_d1_5)
  obtain ⟨T9, h9, X9, e9, W9, st9⟩ := putF X8 hx hZ hown (host := "") (Or.inl (hw _ (own_m 24 rfl))) Via.refl e8 q3 q2 (Or.inl (hw _ (own_m 25 rfl))) (hw _ (own_m 1 rfl)) (ty := (.array (.object "java/lang/Object"))) (by decide) rfl rfl (g := (mkF m 8 #[rv a] [(.ref w_DE), (.ref a)])) rfl rfl (hb hby own_d1_8)
  have Fw9 := q3.same W9
  have O10 := O6.wr W9 g_a
  have kp11 := kp7.wr W9 (Or.inl (own_m 0 rfl))
  have N9 := Fr.snoc X9 N1 g_a
  have f12 := (q2.wr W9)
  have f13 := (q4.other W9 (Or.inr (slot_ne (Or.inl (hw _ (own_m 42 rfl))) (Or.inl (hw _ (own_m 25 rfl))) (by decide) (t := .int) (t' := (.array (.object "java/lang/Object"))) (by decide) (by decide))))
  have f14 := (q5.other W9 (Or.inr (slot_ne (Or.inl (hw _ (own_m 22 rfl))) (Or.inl (hw _ (own_m 25 rfl))) (by decide) (t := .int) (t' := (.array (.object "java/lang/Object"))) (by decide) (by decide))))
  obtain ⟨fs, hr, hrun, hended, hW, hsame⟩ := X9.leave (v := none) (fun _ => rfl)
  refine ⟨_, _, pre0 _ ?_, hrun, hended, _, _, rfl, ?_, ⟨_, rfl⟩, hW, hsame.mono (by decide) (by decide)⟩
  · show Steps p.tables e below (s₁.setTop (mkF m 0 #[rv a] [])) _
    refine XS.aloadN X0.here hx rfl (hb hby own_d1_0) rfl rfl ?_
    show Steps p.tables e below (s₁.setTop (mkF m 1 #[rv a] [(.ref a)])) _
    refine st1.trans ?_
    show Steps p.tables e below (T1.setTop (mkF m 4 #[rv a] [])) _
    refine XS.aloadN X1.here hx rfl (hb hby own_d1_4) rfl rfl ?_
    show Steps p.tables e below (T1.setTop (mkF m 5 #[rv a] [(.ref a)])) _
    refine st8 _ ?_
    show Steps p.tables e below (T8.setTop (mkF m 8 #[rv a] [(.ref w_DE), (.ref a)])) _
    refine st9 _ ?_
    show Steps p.tables e below (T9.setTop (mkF m 11 #[rv a] [])) _
    exact X9.returnOut hx Bd.returns (hb hby own_d1_11) hr
  · show own_li_Q Z w_DE k_DE w_CA a h0 n0 _ T9.heap _
    rw [e9]
    exact ⟨rfl, N9, kp11, f12, Fw9, f13, f14⟩
theorem own_lng_ef (m : MethodId) (a : Addr) (q : Int64) : entryFrame m #[(.ref a), (.long q)] 3 = mkF m 0 #[rv a, .val (.long q), .second] [] := by first | (simp [entryFrame, mkF, argsToLocals, Value.category]; done) | rfl
def own_lng_Q (Z : State) (w_DE : Addr) (k_DE : ClassId) (w_CA : Addr) (a : Addr) (q : Int64) (h0 : Heap) (n0 : Nat) (v : Option Value) (h : Heap) (L : List Loc) : Prop := v = none ∧ Fr n0 L ∧ Keep h0 h [a] ∧ Exa Z h a "java/lang/Long" ∧ Fld Z h a "java/lang/Long" "value" "J" (.long q)
set_option maxRecDepth 65536 in
set_option maxHeartbeats 40000000 in
theorem own_lng (l : Launch) (Z : State) (a0 : Array Value) (hw : ∀ d ∈ tables_1, d.before a0 Z = true) (ws : List Jvm.Cond) (w_DE : Addr) (k_DE : ClassId) (w_CA : Addr) (a : Addr) (q : Int64) (h0 : Heap) (n0 : Nat) (O0 : Old Z n0 h0) (S_DE : Sta Z Z.heap "java/util/ArrayList" "DEFAULTCAPACITY_EMPTY_ELEMENTDATA" "[Ljava/lang/Object;" (.ref w_DE)) (V_DE : Arv Z Z.heap w_DE k_DE (.object "java/lang/Object") (0 : Int32) [] .null) (S_CA : Sta Z Z.heap "java/lang/Long$LongCache" "cache" "[Ljava/lang/Long;" (.ref w_CA)) (H_CA : own_Cache Z w_CA) (g_a : n0 ≤ a) (E_a : Exa Z h0 a "java/lang/Long") (F_v : Fld Z h0 a "java/lang/Long" "value" "J" (.long 0)) :
    MetFree l (⟨"java/lang/Long", "<init>", "(J)V"⟩ : MethodName) (head1 (Jvm.Cond.code (⟨"java/lang/Long", "<init>", "(J)V"⟩ : MethodName) jdk_35_method_26_code 3 none :: ws) ({ frames := 2, cells := 0, slots := 0, locals := 24 } : Room)) (fun ar U => ar = #[(.ref a), (.long q)] ∧ Z.Warmed39 U.vm ∧ U.heap = h0) (fun _ _ _ _ _ => True) (fun _ U oc U' => ∃ v L, oc = .returned v ∧ own_lng_Q Z w_DE k_DE w_CA a q h0 n0 v U'.heap L ∧ FrameEnd U oc U' L ({ frames := 2, cells := 0, slots := 0, locals := 24 } : Room).cells ({ frames := 2, cells := 0, slots := 0, locals := 24 } : Room).slots) := by
  refine MetFree.of_bodySF (plainFor_of_name own_pn5) hisR ?_
  intro p e s m args below meth c s₁ Bd hml0 hP hK
  obtain ⟨rfl, hZ, hh⟩ := hP
  have hx := Bd.exec
  have hby := Bd.bytes
  have hml : c.maxLocals = 3 := hml0
  have hown : s.vm.findClass "java/lang/Long" = some m.cls := findClass_of_methodNamed Bd.named
  have hnm := (name_of_methodNamed Bd.named Bd.method).1
  have X0 : Stand p l e ({ frames := 2, cells := 0, slots := 0, locals := 24 } : Room) s m #[(.ref a), (.long q)] below meth c s₁ [] 0 0 := Stand.of_body Bd
  have e0 : s₁.heap = h0 := by rw [← hh, Bd.state]; rfl
  have N0 := Fr.nil n0
  have pre0 : ∀ t, Steps p.tables e below (s₁.setTop (mkF m 0 #[rv a, .val (.long q), .second] [])) t → Steps p.tables e below (s₁.setTop (entryFrame m #[(.ref a), (.long q)] 3)) t := fun t k => castTop (own_lng_ef m a q) k
  have kp0 := Keep.refl h0 ([a] : List Addr)
  obtain ⟨_, _, ⟨T1, L1, k1, n1⟩, -, X1, ⟨Lc1, hQ1, l1, y1, z1⟩, st1⟩ := X0.specialBack hx (y := (⟨"java/lang/Number", "<init>", "()V"⟩ : MethodName)) rfl hown (mvT hZ (hw _ (own_m 130 rfl))) (mvT hZ (hw _ (own_m 131 rfl))) (mvT hZ (hw _ (own_m 135 rfl))) (by decide) (backOf (W := 0) (own_num l Z a0 hw [] w_DE k_DE w_CA a h0 n0 O0 S_DE V_DE S_CA H_CA ) hZ (hw _ (own_m 135 rfl)) (hw _ (own_m 134 rfl)) (by decide) (by decide)) (g := (mkF m 1 #[rv a, .val (.long q), .second] [(.ref a)])) rfl (by rw [hml]; rfl) (Steps.refl _) (a := a) (argsL := []) (rest := []) (lenOf own_pd0 rfl) rfl (by show 2 * 0 + _ ≤ _; exact Nat.le_of_eq rfl) (hb hby own_d21_1) (fun _ _ => ⟨rfl, e0, (by decide : 0 + 0 ≤ _), (by decide : 0 + 0 ≤ _)⟩)
  dsimp only [Pt.U, Pt.locs, Pt.cells, Pt.slots] at X1 l1 y1 z1 st1 hQ1
  subst l1 y1 z1
  obtain ⟨rfl, N1q, e1⟩ := hQ1
  have N1 := Fr.app N0 N1q
  obtain ⟨T2, h2, X2, e2, W2, st2⟩ := putF X1 hx hZ hown (host := "") (Or.inl (hw _ (own_m 100 rfl))) Via.refl e1 F_v E_a (Or.inr ⟨(hw _ (own_m 101 rfl)), rfl, hnm⟩) (hw _ (own_m 126 rfl)) (ty := .long) (by decide) rfl rfl (g := (mkF m 6 #[rv a, .val (.long q), .second] [(.long q), (.ref a)])) rfl rfl (hb hby own_d21_6)
  have Fw2 := F_v.same W2
  have O3 := O0.wr W2 g_a
  have kp4 := kp0.wr W2 (Or.inl (own_m 0 rfl))
  have N2 := Fr.snoc X2 N1 g_a
  have f5 := (E_a.wr W2)
  obtain ⟨fs, hr, hrun, hended, hW, hsame⟩ := X2.leave (v := none) (fun _ => rfl)
  refine ⟨_, _, pre0 _ ?_, hrun, hended, _, _, rfl, ?_, ⟨_, rfl⟩, hW, hsame.mono (by decide) (by decide)⟩
  · show Steps p.tables e below (s₁.setTop (mkF m 0 #[rv a, .val (.long q), .second] [])) _
    refine XS.aloadN X0.here hx rfl (hb hby own_d21_0) rfl rfl ?_
    show Steps p.tables e below (s₁.setTop (mkF m 1 #[rv a, .val (.long q), .second] [(.ref a)])) _
    refine st1.trans ?_
    show Steps p.tables e below (T1.setTop (mkF m 4 #[rv a, .val (.long q), .second] [])) _
    refine XS.aloadN X1.here hx rfl (hb hby own_d21_4) rfl rfl ?_
    show Steps p.tables e below (T1.setTop (mkF m 5 #[rv a, .val (.long q), .second] [(.ref a)])) _
    refine XS.lloadN X1.here hx rfl (hb hby own_d21_5) rfl ?_
    show Steps p.tables e below (T1.setTop (mkF m 6 #[rv a, .val (.long q), .second] [(.long q), (.ref a)])) _
    refine st2 _ ?_
    show Steps p.tables e below (T2.setTop (mkF m 9 #[rv a, .val (.long q), .second] [])) _
    exact X2.returnOut hx Bd.returns (hb hby own_d21_9) hr
  · show own_lng_Q Z w_DE k_DE w_CA a q h0 n0 _ T2.heap _
    rw [e2]
    exact ⟨rfl, N2, kp4, f5, Fw2⟩
theorem own_vo_ef (m : MethodId) (q : Int64) : entryFrame m #[(.long q)] 3 = mkF m 0 #[.val (.long q), .second, .unset] [] := by first | (simp [entryFrame, mkF, argsToLocals, Value.category]; done) | rfl
def own_vo_Q (Z : State) (w_DE : Addr) (k_DE : ClassId) (w_CA : Addr) (q : Int64) (h0 : Heap) (n0 : Nat) (v : Option Value) (h : Heap) (L : List Loc) : Prop := ∃ y : Addr, v = some (.ref y) ∧ Fr n0 L ∧ Keep h0 h [] ∧ Exa Z h y "java/lang/Long" ∧ Fld Z h y "java/lang/Long" "value" "J" (.long q)
set_option maxRecDepth 65536 in
set_option maxHeartbeats 40000000 in
theorem own_vo (l : Launch) (Z : State) (a0 : Array Value) (hw : ∀ d ∈ tables_1, d.before a0 Z = true) (ws : List Jvm.Cond) (w_DE : Addr) (k_DE : ClassId) (w_CA : Addr) (q : Int64) (h0 : Heap) (n0 : Nat) (O0 : Old Z n0 h0) (S_DE : Sta Z Z.heap "java/util/ArrayList" "DEFAULTCAPACITY_EMPTY_ELEMENTDATA" "[Ljava/lang/Object;" (.ref w_DE)) (V_DE : Arv Z Z.heap w_DE k_DE (.object "java/lang/Object") (0 : Int32) [] .null) (S_CA : Sta Z Z.heap "java/lang/Long$LongCache" "cache" "[Ljava/lang/Long;" (.ref w_CA)) (H_CA : own_Cache Z w_CA) :
    MetFree l (⟨"java/lang/Long", "valueOf", "(J)Ljava/lang/Long;"⟩ : MethodName) (head1 (Jvm.Cond.code (⟨"java/lang/Long", "valueOf", "(J)Ljava/lang/Long;"⟩ : MethodName) jdk_35_method_24_code 3 (some (.object "java/lang/Long")) :: ws) ({ frames := 3, cells := 1, slots := 1, locals := 39 } : Room)) (fun ar U => ar = #[(.long q)] ∧ Z.Warmed39 U.vm ∧ U.heap = h0) (fun _ _ _ _ _ => True) (fun _ U oc U' => ∃ v L, oc = .returned v ∧ own_vo_Q Z w_DE k_DE w_CA q h0 n0 v U'.heap L ∧ FrameEnd U oc U' L ({ frames := 3, cells := 1, slots := 1, locals := 39 } : Room).cells ({ frames := 3, cells := 1, slots := 1, locals := 39 } : Room).slots) := by
  refine MetFree.of_bodySF (plainFor_of_name own_pn5) hisR ?_
  intro p e s m args below meth c s₁ Bd hml0 hP hK
  obtain ⟨rfl, hZ, hh⟩ := hP
  have hx := Bd.exec
  have hby := Bd.bytes
  have hml : c.maxLocals = 3 := hml0
  have hown : s.vm.findClass "java/lang/Long" = some m.cls := findClass_of_methodNamed Bd.named
  have hnm := (name_of_methodNamed Bd.named Bd.method).1
  have X0 : Stand p l e ({ frames := 3, cells := 1, slots := 1, locals := 39 } : Room) s m #[(.long q)] below meth c s₁ [] 0 0 := Stand.of_body Bd
  have e0 : s₁.heap = h0 := by rw [← hh, Bd.state]; rfl
  have N0 := Fr.nil n0
  have pre0 : ∀ t, Steps p.tables e below (s₁.setTop (mkF m 0 #[.val (.long q), .second, .unset] [])) t → Steps p.tables e below (s₁.setTop (entryFrame m #[(.long q)] 3)) t := fun t k => castTop (own_vo_ef m q) k
  have kp0 := Keep.refl h0 ([] : List Addr)
  have pre2 : ∀ t, Steps p.tables e below (s₁.setTop (mkF m 8 #[.val (.long q), .second, iv 128] [(.long (-128)), (.long q)])) t → Steps p.tables e below (s₁.setTop (entryFrame m #[(.long q)] 3)) t := fun t kt => by
    refine pre0 _ ?_
    show Steps p.tables e below (s₁.setTop (mkF m 0 #[.val (.long q), .second, .unset] [])) _
    refine XS.sipush X0.here hx rfl (hb hby own_d5_0) ?_
    show Steps p.tables e below (s₁.setTop (mkF m 3 #[.val (.long q), .second, .unset] [(.int 128)])) _
    refine XS.istoreN X0.here hx rfl (hb hby own_d5_3) rfl (l' := #[.val (.long q), .second, iv 128]) rfl ?_
    show Steps p.tables e below (s₁.setTop (mkF m 4 #[.val (.long q), .second, iv 128] [])) _
    refine XS.lloadN X0.here hx rfl (hb hby own_d5_4) rfl ?_
    show Steps p.tables e below (s₁.setTop (mkF m 5 #[.val (.long q), .second, iv 128] [(.long q)])) _
    refine X0.ldc2Long hx hown (mvT hZ (hw _ (own_m 30 rfl))) (g := (mkF m 5 #[.val (.long q), .second, iv 128] [(.long q)])) rfl (hb hby own_d5_5) _ ?_
    show Steps p.tables e below (s₁.setTop (mkF m 8 #[.val (.long q), .second, iv 128] [(.long (-128)), (.long q)])) _
    exact kt
  by_cases hc1 : q < (-128 : Int64)
  · obtain ⟨T3, h3, X3, e3, E3, A3, D3, -, st3⟩ := newO X0 hx hZ hown (hw _ (own_m 125 rfl)) (hw _ (own_m 126 rfl)) (hw _ (own_m 28 rfl)) e0 (g := (mkF m 31 #[.val (.long q), .second, iv 128] [])) rfl (hb hby own_d5_31) (by decide) (by decide)
    obtain ⟨b3, g3⟩ : ∃ z, z = h0.size := ⟨_, rfl⟩
    rw [← g3] at A3 D3 st3
    have gg_b3 : n0 ≤ b3 := g3 ▸ own_le O0
    have sz_b3 : h0.size ≤ b3 := g3 ▸ kp0.1
    have O4 := O0.ext E3
    have kp5 := kp0.ext E3
    have F_value_b3 : Fld Z h3 b3 "java/lang/Long" "value" "J" (.long 0) := D3 (Or.inr (hw _ (own_m 101 rfl))) (ty := .long) (by decide)
    obtain ⟨_, _, ⟨T6, L6, k6, n6⟩, -, X6, ⟨Lc6, hQ6, l6, y6, z6⟩, st6⟩ := X3.specialBack hx (y := (⟨"java/lang/Long", "<init>", "(J)V"⟩ : MethodName)) rfl hown (mvT hZ (hw _ (own_m 127 rfl))) (mvT hZ (hw _ (own_m 128 rfl))) (mvT hZ (hw _ (own_m 129 rfl))) (by decide) (backOf (W := 1) (own_lng l Z a0 hw [] w_DE k_DE w_CA b3 q h3 n0 O4 S_DE V_DE S_CA H_CA gg_b3 A3 F_value_b3) hZ (hw _ (own_m 129 rfl)) (hw _ (own_m 28 rfl)) (by decide) (by decide)) (g := (mkF m 36 #[.val (.long q), .second, iv 128] [(.long q), (.ref b3), (.ref b3)])) rfl (by rw [hml]; rfl) (Steps.refl _) (a := b3) (argsL := [(.long q)]) (rest := [(.ref b3)]) (lenOf own_pd1 rfl) rfl (by show 2 * 0 + _ ≤ _; exact Nat.le_of_eq rfl) (hb hby own_d5_36) (fun _ _ => ⟨rfl, e3, (by decide : 1 + 0 ≤ _), (by decide : 1 + 0 ≤ _)⟩)
    dsimp only [Pt.U, Pt.locs, Pt.cells, Pt.slots] at X6 l6 y6 z6 st6 hQ6
    subst l6 y6 z6
    obtain ⟨rfl, N6q, K6, q7, q8⟩ := hQ6
    have N6 := Fr.app N0 N6q
    have O9 := O4.keep K6 (allS gg_b3 all0)
    have kp10 := kp5.trans K6 ((allS (P := fun x => x ∈ ([] : List Addr) ∨ h0.size ≤ x) (Or.inr sz_b3) all0))
    obtain ⟨fs, hr, hrun, hended, hW, hsame⟩ := X6.leave (v := some (.ref b3)) (fun h => by rw [Bd.returns] at h; cases h)
    refine ⟨_, _, pre2 _ ?_, hrun, hended, _, _, rfl, ?_, ⟨_, rfl⟩, hW, hsame.mono (by decide) (by decide)⟩
    · show Steps p.tables e below (s₁.setTop (mkF m 8 #[.val (.long q), .second, iv 128] [(.long (-128)), (.long q)])) _
      refine XS.lcmp X0.here hx rfl (hb hby own_d5_8) rfl ?_
      show Steps p.tables e below (s₁.setTop (mkF m 9 #[.val (.long q), .second, iv 128] [(.int (lcmpW q (-128 : Int64)))])) _
      refine XS.ifYes X0.here hx rfl (pc0 := 9) (pc' := 31) rfl (hb hby own_d5_9) rfl ((if0 _ _).trans (tlt ((lw_lt _ _).mpr hc1)).1) (by decide) (by decide) ?_
      show Steps p.tables e below (s₁.setTop (mkF m 31 #[.val (.long q), .second, iv 128] [])) _
      refine st3 _ ?_
      show Steps p.tables e below (T3.setTop (mkF m 34 #[.val (.long q), .second, iv 128] [(.ref b3)])) _
      refine XS.dup X3.here hx rfl (hb hby own_d5_34) rfl rfl ?_
      show Steps p.tables e below (T3.setTop (mkF m 35 #[.val (.long q), .second, iv 128] [(.ref b3), (.ref b3)])) _
      refine XS.lloadN X3.here hx rfl (hb hby own_d5_35) rfl ?_
      show Steps p.tables e below (T3.setTop (mkF m 36 #[.val (.long q), .second, iv 128] [(.long q), (.ref b3), (.ref b3)])) _
      refine st6.trans ?_
      show Steps p.tables e below (T6.setTop (mkF m 39 #[.val (.long q), .second, iv 128] [(.ref b3)])) _
      jvm_step X6.here [X6.here.top, hx, (hb hby own_d5_39), X6.method', Bd.returns, Value.isRef, FieldType.isReference]
      first | (intro acts; rw [hr _ acts rfl rfl rfl]) | rw [hr _ _ rfl rfl rfl]
      exact Steps.refl _
    · show own_vo_Q Z w_DE k_DE w_CA q h0 n0 _ T6.heap _
      exact ⟨b3, rfl, N6, kp10, q7, q8⟩
  · have pre12 : ∀ t, Steps p.tables e below (s₁.setTop (mkF m 16 #[.val (.long q), .second, iv 128] [(.long 127), (.long q)])) t → Steps p.tables e below (s₁.setTop (entryFrame m #[(.long q)] 3)) t := fun t kt => by
      refine pre2 _ ?_
      show Steps p.tables e below (s₁.setTop (mkF m 8 #[.val (.long q), .second, iv 128] [(.long (-128)), (.long q)])) _
      refine XS.lcmp X0.here hx rfl (hb hby own_d5_8) rfl ?_
      show Steps p.tables e below (s₁.setTop (mkF m 9 #[.val (.long q), .second, iv 128] [(.int (lcmpW q (-128 : Int64)))])) _
      refine XS.ifNo X0.here hx rfl (hb hby own_d5_9) rfl ((if0 _ _).trans (flt (fun q => hc1 ((lw_lt _ _).mp q))).1) ?_
      show Steps p.tables e below (s₁.setTop (mkF m 12 #[.val (.long q), .second, iv 128] [])) _
      refine XS.lloadN X0.here hx rfl (hb hby own_d5_12) rfl ?_
      show Steps p.tables e below (s₁.setTop (mkF m 13 #[.val (.long q), .second, iv 128] [(.long q)])) _
      refine X0.ldc2Long hx hown (mvT hZ (hw _ (own_m 31 rfl))) (g := (mkF m 13 #[.val (.long q), .second, iv 128] [(.long q)])) rfl (hb hby own_d5_13) _ ?_
      show Steps p.tables e below (s₁.setTop (mkF m 16 #[.val (.long q), .second, iv 128] [(.long 127), (.long q)])) _
      exact kt
    by_cases hc11 : (127 : Int64) < q
    · obtain ⟨T13, h13, X13, e13, E13, A13, D13, -, st13⟩ := newO X0 hx hZ hown (hw _ (own_m 125 rfl)) (hw _ (own_m 126 rfl)) (hw _ (own_m 28 rfl)) e0 (g := (mkF m 31 #[.val (.long q), .second, iv 128] [])) rfl (hb hby own_d5_31) (by decide) (by decide)
      obtain ⟨b13, g13⟩ : ∃ z, z = h0.size := ⟨_, rfl⟩
      rw [← g13] at A13 D13 st13
      have gg_b13 : n0 ≤ b13 := g13 ▸ own_le O0
      have sz_b13 : h0.size ≤ b13 := g13 ▸ kp0.1
      have O14 := O0.ext E13
      have kp15 := kp0.ext E13
      have F_value_b13 : Fld Z h13 b13 "java/lang/Long" "value" "J" (.long 0) := D13 (Or.inr (hw _ (own_m 101 rfl))) (ty := .long) (by decide)
      obtain ⟨_, _, ⟨T16, L16, k16, n16⟩, -, X16, ⟨Lc16, hQ16, l16, y16, z16⟩, st16⟩ := X13.specialBack hx (y := (⟨"java/lang/Long", "<init>", "(J)V"⟩ : MethodName)) rfl hown (mvT hZ (hw _ (own_m 127 rfl))) (mvT hZ (hw _ (own_m 128 rfl))) (mvT hZ (hw _ (own_m 129 rfl))) (by decide) (backOf (W := 1) (own_lng l Z a0 hw [] w_DE k_DE w_CA b13 q h13 n0 O14 S_DE V_DE S_CA H_CA gg_b13 A13 F_value_b13) hZ (hw _ (own_m 129 rfl)) (hw _ (own_m 28 rfl)) (by decide) (by decide)) (g := (mkF m 36 #[.val (.long q), .second, iv 128] [(.long q), (.ref b13), (.ref b13)])) rfl (by rw [hml]; rfl) (Steps.refl _) (a := b13) (argsL := [(.long q)]) (rest := [(.ref b13)]) (lenOf own_pd1 rfl) rfl (by show 2 * 0 + _ ≤ _; exact Nat.le_of_eq rfl) (hb hby own_d5_36) (fun _ _ => ⟨rfl, e13, (by decide : 1 + 0 ≤ _), (by decide : 1 + 0 ≤ _)⟩)
      dsimp only [Pt.U, Pt.locs, Pt.cells, Pt.slots] at X16 l16 y16 z16 st16 hQ16
      subst l16 y16 z16
      obtain ⟨rfl, N16q, K16, q17, q18⟩ := hQ16
      have N16 := Fr.app N0 N16q
      have O19 := O14.keep K16 (allS gg_b13 all0)
      have kp20 := kp15.trans K16 ((allS (P := fun x => x ∈ ([] : List Addr) ∨ h0.size ≤ x) (Or.inr sz_b13) all0))
      obtain ⟨fs, hr, hrun, hended, hW, hsame⟩ := X16.leave (v := some (.ref b13)) (fun h => by rw [Bd.returns] at h; cases h)
      refine ⟨_, _, pre12 _ ?_, hrun, hended, _, _, rfl, ?_, ⟨_, rfl⟩, hW, hsame.mono (by decide) (by decide)⟩
      · show Steps p.tables e below (s₁.setTop (mkF m 16 #[.val (.long q), .second, iv 128] [(.long 127), (.long q)])) _
        refine XS.lcmp X0.here hx rfl (hb hby own_d5_16) rfl ?_
        show Steps p.tables e below (s₁.setTop (mkF m 17 #[.val (.long q), .second, iv 128] [(.int (lcmpW q (127 : Int64)))])) _
        refine XS.ifYes X0.here hx rfl (pc0 := 17) (pc' := 31) rfl (hb hby own_d5_17) rfl ((if0 _ _).trans (tlt ((lw_gt _ _).mpr hc11)).2.2.1) (by decide) (by decide) ?_
        show Steps p.tables e below (s₁.setTop (mkF m 31 #[.val (.long q), .second, iv 128] [])) _
        refine st13 _ ?_
        show Steps p.tables e below (T13.setTop (mkF m 34 #[.val (.long q), .second, iv 128] [(.ref b13)])) _
        refine XS.dup X13.here hx rfl (hb hby own_d5_34) rfl rfl ?_
        show Steps p.tables e below (T13.setTop (mkF m 35 #[.val (.long q), .second, iv 128] [(.ref b13), (.ref b13)])) _
        refine XS.lloadN X13.here hx rfl (hb hby own_d5_35) rfl ?_
        show Steps p.tables e below (T13.setTop (mkF m 36 #[.val (.long q), .second, iv 128] [(.long q), (.ref b13), (.ref b13)])) _
        refine st16.trans ?_
        show Steps p.tables e below (T16.setTop (mkF m 39 #[.val (.long q), .second, iv 128] [(.ref b13)])) _
        jvm_step X16.here [X16.here.top, hx, (hb hby own_d5_39), X16.method', Bd.returns, Value.isRef, FieldType.isReference]
        first | (intro acts; rw [hr _ acts rfl rfl rfl]) | rw [hr _ _ rfl rfl rfl]
        exact Steps.refl _
      · show own_vo_Q Z w_DE k_DE w_CA q h0 n0 _ T16.heap _
        exact ⟨b13, rfl, N16, kp20, q17, q18⟩
    · obtain ⟨T21, X21, e21, st21⟩ := getS2 X0 hx hZ hown (host := "") (Or.inl (hw _ (own_m 32 rfl))) Via.refl e0 (S_CA.ext O0.2) (g := (mkF m 20 #[.val (.long q), .second, iv 128] [])) rfl (hb hby own_d5_20)
      obtain ⟨y, cl, cA, cin, cat, Ey, Fy⟩ := H_CA q hc1 hc11
      obtain ⟨fs, hr, hrun, hended, hW, hsame⟩ := X21.leave (v := some (.ref y)) (fun h => by rw [Bd.returns] at h; cases h)
      refine ⟨_, _, pre12 _ ?_, hrun, hended, _, _, rfl, ?_, ⟨_, rfl⟩, hW, hsame.mono (by decide) (by decide)⟩
      · show Steps p.tables e below (s₁.setTop (mkF m 16 #[.val (.long q), .second, iv 128] [(.long 127), (.long q)])) _
        refine XS.lcmp X0.here hx rfl (hb hby own_d5_16) rfl ?_
        show Steps p.tables e below (s₁.setTop (mkF m 17 #[.val (.long q), .second, iv 128] [(.int (lcmpW q (127 : Int64)))])) _
        refine XS.ifNo X0.here hx rfl (hb hby own_d5_17) rfl ((if0 _ _).trans (flt (fun q => hc11 ((lw_gt _ _).mp q))).2.2.1) ?_
        show Steps p.tables e below (s₁.setTop (mkF m 20 #[.val (.long q), .second, iv 128] [])) _
        refine st21 _ ?_
        show Steps p.tables e below (T21.setTop (mkF m 23 #[.val (.long q), .second, iv 128] [(.ref w_CA)])) _
        refine XS.lloadN X21.here hx rfl (hb hby own_d5_23) rfl ?_
        show Steps p.tables e below (T21.setTop (mkF m 24 #[.val (.long q), .second, iv 128] [(.long q), (.ref w_CA)])) _
        refine XS.l2i X21.here hx rfl (hb hby own_d5_24) rfl ?_
        show Steps p.tables e below (T21.setTop (mkF m 25 #[.val (.long q), .second, iv 128] [(.int (q.toInt32)), (.ref w_CA)])) _
        refine XS.sipush X21.here hx rfl (hb hby own_d5_25) ?_
        show Steps p.tables e below (T21.setTop (mkF m 28 #[.val (.long q), .second, iv 128] [(.int 128), (.int (q.toInt32)), (.ref w_CA)])) _
        refine XS.iadd X21.here hx rfl (hb hby own_d5_28) rfl ?_
        show Steps p.tables e below (T21.setTop (mkF m 29 #[.val (.long q), .second, iv 128] [(.int ((q.toInt32) + (128 : Int32))), (.ref w_CA)])) _
        refine X21.aaload hx (j := ((q.toInt32) + (128 : Int32))) (v := (.ref y)) (by rw [e21]; exact (cA.ext O0.2).1) (State.isArrayOf_alike hZ.alike cA.2.1) rfl cA.2.2 cin cat (g := (mkF m 29 #[.val (.long q), .second, iv 128] [(.int ((q.toInt32) + (128 : Int32))), (.ref w_CA)])) rfl rfl (hb hby own_d5_29) _ ?_
        show Steps p.tables e below (T21.setTop (mkF m 30 #[.val (.long q), .second, iv 128] [(.ref y)])) _
        jvm_step X21.here [X21.here.top, hx, (hb hby own_d5_30), X21.method', Bd.returns, Value.isRef, FieldType.isReference]
        first | (intro acts; rw [hr _ acts rfl rfl rfl]) | rw [hr _ _ rfl rfl rfl]
        exact Steps.refl _
      · show own_vo_Q Z w_DE k_DE w_CA q h0 n0 _ T21.heap _
        rw [e21]
        exact ⟨y, rfl, N0, kp0, (Ey.ext O0.2), (Fy.ext O0.2)⟩
theorem own_max_ef (m : MethodId)  : entryFrame m #[(.int 10), (.int 1)] 2 = mkF m 0 #[iv 10, iv 1] [] := by first | (simp [entryFrame, mkF, argsToLocals, Value.category]; done) | rfl
def own_max_Q (Z : State) (w_DE : Addr) (k_DE : ClassId) (w_CA : Addr) (h0 : Heap) (n0 : Nat) (v : Option Value) (h : Heap) (L : List Loc) : Prop := v = some (.int 10) ∧ Fr n0 L ∧ h = h0
set_option maxRecDepth 65536 in
set_option maxHeartbeats 40000000 in
theorem own_max (l : Launch) (Z : State) (a0 : Array Value) (hw : ∀ d ∈ tables_1, d.before a0 Z = true) (ws : List Jvm.Cond) (w_DE : Addr) (k_DE : ClassId) (w_CA : Addr) (h0 : Heap) (n0 : Nat) (O0 : Old Z n0 h0) (S_DE : Sta Z Z.heap "java/util/ArrayList" "DEFAULTCAPACITY_EMPTY_ELEMENTDATA" "[Ljava/lang/Object;" (.ref w_DE)) (V_DE : Arv Z Z.heap w_DE k_DE (.object "java/lang/Object") (0 : Int32) [] .null) (S_CA : Sta Z Z.heap "java/lang/Long$LongCache" "cache" "[Ljava/lang/Long;" (.ref w_CA)) (H_CA : own_Cache Z w_CA) :
    MetFree l (⟨"java/lang/Math", "max", "(II)I"⟩ : MethodName) (head1 (Jvm.Cond.code (⟨"java/lang/Math", "max", "(II)I"⟩ : MethodName) jdk_29_method_65_code 2 (some .int) :: ws) ({ frames := 0, cells := 0, slots := 0, locals := 0 } : Room)) (fun ar U => ar = #[(.int 10), (.int 1)] ∧ Z.Warmed39 U.vm ∧ U.heap = h0) (fun _ _ _ _ _ => True) (fun _ U oc U' => ∃ v L, oc = .returned v ∧ own_max_Q Z w_DE k_DE w_CA h0 n0 v U'.heap L ∧ FrameEnd U oc U' L ({ frames := 0, cells := 0, slots := 0, locals := 0 } : Room).cells ({ frames := 0, cells := 0, slots := 0, locals := 0 } : Room).slots) := by
  refine MetFree.of_bodySF (Jvm.Free.JP.mathPlain rfl (by decide +kernel)) hisR ?_
  intro p e s m args below meth c s₁ Bd hml0 hP hK
  obtain ⟨rfl, hZ, hh⟩ := hP
  have hx := Bd.exec
  have hby := Bd.bytes
  have hml : c.maxLocals = 2 := hml0
  have hown : s.vm.findClass "java/lang/Math" = some m.cls := findClass_of_methodNamed Bd.named
  have hnm := (name_of_methodNamed Bd.named Bd.method).1
  have X0 : Stand p l e ({ frames := 0, cells := 0, slots := 0, locals := 0 } : Room) s m #[(.int 10), (.int 1)] below meth c s₁ [] 0 0 := Stand.of_body Bd
  have e0 : s₁.heap = h0 := by rw [← hh, Bd.state]; rfl
  have N0 := Fr.nil n0
  have pre0 : ∀ t, Steps p.tables e below (s₁.setTop (mkF m 0 #[iv 10, iv 1] [])) t → Steps p.tables e below (s₁.setTop (entryFrame m #[(.int 10), (.int 1)] 2)) t := fun t k => castTop (own_max_ef m ) k
  obtain ⟨fs, hr, hrun, hended, hW, hsame⟩ := X0.leave (v := some (.int 10)) (fun h => by rw [Bd.returns] at h; cases h)
  refine ⟨_, _, pre0 _ ?_, hrun, hended, _, _, rfl, ?_, ⟨_, rfl⟩, hW, hsame.mono (by decide) (by decide)⟩
  · show Steps p.tables e below (s₁.setTop (mkF m 0 #[iv 10, iv 1] [])) _
    refine XS.iloadN X0.here hx rfl (hb hby own_d10_0) rfl ?_
    show Steps p.tables e below (s₁.setTop (mkF m 1 #[iv 10, iv 1] [(.int 10)])) _
    refine XS.iloadN X0.here hx rfl (hb hby own_d10_1) rfl ?_
    show Steps p.tables e below (s₁.setTop (mkF m 2 #[iv 10, iv 1] [(.int 1), (.int 10)])) _
    refine XS.icmpNo X0.here hx rfl (hb hby own_d10_2) rfl (flt (by decide)).1 ?_
    show Steps p.tables e below (s₁.setTop (mkF m 5 #[iv 10, iv 1] [])) _
    refine XS.iloadN X0.here hx rfl (hb hby own_d10_5) rfl ?_
    show Steps p.tables e below (s₁.setTop (mkF m 6 #[iv 10, iv 1] [(.int 10)])) _
    refine XS.goto X0.here hx rfl (pc0 := 6) (pc' := 10) rfl (hb hby own_d10_6) (by decide) (by decide) ?_
    show Steps p.tables e below (s₁.setTop (mkF m 10 #[iv 10, iv 1] [(.int 10)])) _
    exact retI X0 hx Bd.returns (hb hby own_d10_10) hr
  · show own_max_Q Z w_DE k_DE w_CA h0 n0 _ s₁.heap _
    rw [e0]
    exact ⟨rfl, N0, rfl⟩
theorem own_gr1_ef (m : MethodId) (a : Addr) : entryFrame m #[(.ref a), (.int 1)] 4 = mkF m 0 #[rv a, iv 1, .unset, .unset] [] := by first | (simp [entryFrame, mkF, argsToLocals, Value.category]; done) | rfl
def own_gr1_Q (Z : State) (w_DE : Addr) (k_DE : ClassId) (w_CA : Addr) (a : Addr) (mc : Int32) (h0 : Heap) (n0 : Nat) (v : Option Value) (h : Heap) (L : List Loc) : Prop := True ∧ Fr n0 L ∧ Keep h0 h [a] ∧ ∃ (b : Addr) (kb : ClassId), v = some (.ref b) ∧ h0.size ≤ b ∧ b ≠ a ∧ Ovr Z kb "java/lang/Object" ∧ Arv Z h b kb (.object "java/lang/Object") (10 : Int32) [.null, .null, .null, .null, .null, .null, .null, .null, .null, .null] .null ∧ Exa Z h a "java/util/ArrayList" ∧ Fld Z h a "java/util/ArrayList" "elementData" "[Ljava/lang/Object;" (.ref b) ∧ Fld Z h a "java/util/ArrayList" "size" "I" (.int 0) ∧ Fld Z h a "java/util/AbstractList" "modCount" "I" (.int mc)
set_option maxRecDepth 65536 in
set_option maxHeartbeats 40000000 in
theorem own_gr1 (l : Launch) (Z : State) (a0 : Array Value) (hw : ∀ d ∈ tables_1, d.before a0 Z = true) (ws : List Jvm.Cond) (w_DE : Addr) (k_DE : ClassId) (w_CA : Addr) (a : Addr) (mc : Int32) (h0 : Heap) (n0 : Nat) (O0 : Old Z n0 h0) (S_DE : Sta Z Z.heap "java/util/ArrayList" "DEFAULTCAPACITY_EMPTY_ELEMENTDATA" "[Ljava/lang/Object;" (.ref w_DE)) (V_DE : Arv Z Z.heap w_DE k_DE (.object "java/lang/Object") (0 : Int32) [] .null) (S_CA : Sta Z Z.heap "java/lang/Long$LongCache" "cache" "[Ljava/lang/Long;" (.ref w_CA)) (H_CA : own_Cache Z w_CA) (g_a : n0 ≤ a) (E_a : Exa Z h0 a "java/util/ArrayList") (F_elementData : Fld Z h0 a "java/util/ArrayList" "elementData" "[Ljava/lang/Object;" (.ref w_DE)) (F_size : Fld Z h0 a "java/util/ArrayList" "size" "I" (.int 0)) (F_modCount : Fld Z h0 a "java/util/AbstractList" "modCount" "I" (.int mc)) :
    MetFree l (⟨"java/util/ArrayList", "grow", "(I)[Ljava/lang/Object;"⟩ : MethodName) (head1 (Jvm.Cond.code (⟨"java/util/ArrayList", "grow", "(I)[Ljava/lang/Object;"⟩ : MethodName) jdk_38_method_6_code 4 (some (.array (.object "java/lang/Object"))) :: ws) ({ frames := 1, cells := 1, slots := 10, locals := 14 } : Room)) (fun ar U => ar = #[(.ref a), (.int 1)] ∧ Z.Warmed39 U.vm ∧ U.heap = h0) (fun _ _ _ _ _ => True) (fun _ U oc U' => ∃ v L, oc = .returned v ∧ own_gr1_Q Z w_DE k_DE w_CA a mc h0 n0 v U'.heap L ∧ FrameEnd U oc U' L ({ frames := 1, cells := 1, slots := 10, locals := 14 } : Room).cells ({ frames := 1, cells := 1, slots := 10, locals := 14 } : Room).slots) := by
  refine MetFree.of_bodySF (plainFor_of_name own_pn4) hisR ?_
  intro p e s m args below meth c s₁ Bd hml0 hP hK
  obtain ⟨rfl, hZ, hh⟩ := hP
  have hx := Bd.exec
  have hby := Bd.bytes
  have hml : c.maxLocals = 4 := hml0
  have hown : s.vm.findClass "java/util/ArrayList" = some m.cls := findClass_of_methodNamed Bd.named
  have hnm := (name_of_methodNamed Bd.named Bd.method).1
  have X0 : Stand p l e ({ frames := 1, cells := 1, slots := 10, locals := 14 } : Room) s m #[(.ref a), (.int 1)] below meth c s₁ [] 0 0 := Stand.of_body Bd
  have e0 : s₁.heap = h0 := by rw [← hh, Bd.state]; rfl
  have N0 := Fr.nil n0
  have pre0 : ∀ t, Steps p.tables e below (s₁.setTop (mkF m 0 #[rv a, iv 1, .unset, .unset] [])) t → Steps p.tables e below (s₁.setTop (entryFrame m #[(.ref a), (.int 1)] 4)) t := fun t k => castTop (own_gr1_ef m a) k
  have kp0 := Keep.refl h0 ([a] : List Addr)
  obtain ⟨T1, X1, e1, st1⟩ := getF X0 hx hZ hown (host := "") (Or.inl (hw _ (own_m 24 rfl))) Via.refl e0 F_elementData (g := (mkF m 1 #[rv a, iv 1, .unset, .unset] [(.ref a)])) rfl rfl (hb hby own_d9_1)
  obtain ⟨c2, c2A, c2q, c2S, c2N, c2H, c2G⟩ := id (V_DE.ext O0.2)
  obtain ⟨T3, X3, e3, st3⟩ := getF X1 hx hZ hown (host := "") (Or.inl (hw _ (own_m 24 rfl))) Via.refl e1 F_elementData (g := (mkF m 11 #[rv a, iv 1, iv 0, .unset] [(.ref a)])) rfl rfl (hb hby own_d9_11)
  obtain ⟨T4, X4, e4, st4⟩ := getS2 X3 hx hZ hown (host := "") (Or.inl (hw _ (own_m 23 rfl))) Via.refl e3 (S_DE.ext O0.2) (g := (mkF m 14 #[rv a, iv 1, iv 0, .unset] [(.ref w_DE)])) rfl (hb hby own_d9_14)
  obtain ⟨_, _, ⟨T5, L5, k5, n5⟩, -, X5, ⟨Lc5, hQ5, l5, y5, z5⟩, st5⟩ := Jvm.LawKit.callS X4 hx (y := (⟨"java/lang/Math", "max", "(II)I"⟩ : MethodName)) hown (mvT hZ (hw _ (own_m 58 rfl))) (mvT hZ (hw _ (own_m 59 rfl))) (mvT hZ (hw _ (own_m 60 rfl))) (mvT hZ (hw _ (own_m 61 rfl))) (by decide) (backOf (W := 1) (own_max l Z a0 hw [] w_DE k_DE w_CA  h0 n0 O0 S_DE V_DE S_CA H_CA ) hZ (hw _ (own_m 61 rfl)) (hw _ (own_m 60 rfl)) (by decide) (by decide)) (g := (mkF m 49 #[rv a, iv 1, iv 0, .unset] [(.int 1), (.int 10), (.ref a)])) rfl (by rw [hml]; rfl) (argsL := [(.int 10), (.int 1)]) (rest := [(.ref a)]) (lenOf own_pd2 rfl) rfl (by show 2 * 0 + _ ≤ _; exact Nat.le_of_eq rfl) (hb hby own_d9_49) (fun _ _ => ⟨rfl, e4, (by decide : 0 + 0 ≤ _), (by decide : 0 + 0 ≤ _)⟩)
  dsimp only [Pt.U, Pt.locs, Pt.cells, Pt.slots] at X5 l5 y5 z5 st5 hQ5
  subst l5 y5 z5
  obtain ⟨rfl, N5q, e5⟩ := hQ5
  have N5 := Fr.app N0 N5q
  obtain ⟨T6, h6, k6, X6, e6, E6, A6, O6, st6⟩ := newR X5 hx hZ hown (hw _ (own_m 62 rfl)) (hw _ (own_m 63 rfl)) e5 (g := (mkF m 52 #[rv a, iv 1, iv 0, .unset] [(.int 10), (.ref a)])) rfl (hb hby own_d9_52) rfl (by decide) (cap := 10) (by decide) (by decide) (by decide) (by decide)
  obtain ⟨b6, g6⟩ : ∃ z, z = h0.size := ⟨_, rfl⟩
  rw [← g6] at A6  st6
  have ne_a_b6 : a ≠ b6 := Nat.ne_of_lt (g6 ▸ E_a.lt)
  have gg_b6 : n0 ≤ b6 := g6 ▸ own_le O0
  have sz_b6 : h0.size ≤ b6 := g6 ▸ kp0.1
  have O7 := O0.ext E6
  have kp8 := kp0.ext E6
  have V_b6 : Arv Z h6 b6 k6 (.object "java/lang/Object") (10 : Int32) [.null, .null, .null, .null, .null, .null, .null, .null, .null, .null] .null := (Arv.new A6 (by decide)).pad (pad_rep [] .null 10)
  have f9 := (F_elementData.ext E6)
  have f10 := (E_a.ext E6)
  obtain ⟨T11, h11, X11, e11, W11, st11⟩ := putF X6 hx hZ hown (host := "") (Or.inl (hw _ (own_m 24 rfl))) Via.refl e6 f9 f10 (Or.inl (hw _ (own_m 25 rfl))) (hw _ (own_m 1 rfl)) (ty := (.array (.object "java/lang/Object"))) (by decide) rfl rfl (g := (mkF m 56 #[rv a, iv 1, iv 0, .unset] [(.ref b6), (.ref a), (.ref b6)])) rfl rfl (hb hby own_d9_56)
  have Fw11 := f9.same W11
  have O12 := O7.wr W11 g_a
  have kp13 := kp8.wr W11 (Or.inl (own_m 0 rfl))
  have N11 := Fr.snoc X11 N5 g_a
  have f14 := (V_b6.other W11 (Ne.symm ne_a_b6))
  have f15 := (f10.wr W11)
  have f16 := ((F_size.ext E6).other W11 (Or.inr (slot_ne (Or.inl (hw _ (own_m 42 rfl))) (Or.inl (hw _ (own_m 25 rfl))) (by decide) (t := .int) (t' := (.array (.object "java/lang/Object"))) (by decide) (by decide))))
  have f17 := ((F_modCount.ext E6).other W11 (Or.inr (slot_ne (Or.inl (hw _ (own_m 22 rfl))) (Or.inl (hw _ (own_m 25 rfl))) (by decide) (t := .int) (t' := (.array (.object "java/lang/Object"))) (by decide) (by decide))))
  obtain ⟨fs, hr, hrun, hended, hW, hsame⟩ := X11.leave (v := some (.ref b6)) (fun h => by rw [Bd.returns] at h; cases h)
  refine ⟨_, _, pre0 _ ?_, hrun, hended, _, _, rfl, ?_, ⟨_, rfl⟩, hW, hsame.mono (by decide) (by decide)⟩
  · show Steps p.tables e below (s₁.setTop (mkF m 0 #[rv a, iv 1, .unset, .unset] [])) _
    refine XS.aloadN X0.here hx rfl (hb hby own_d9_0) rfl rfl ?_
    show Steps p.tables e below (s₁.setTop (mkF m 1 #[rv a, iv 1, .unset, .unset] [(.ref a)])) _
    refine st1 _ ?_
    show Steps p.tables e below (T1.setTop (mkF m 4 #[rv a, iv 1, .unset, .unset] [(.ref w_DE)])) _
    refine X1.arraylength hx (by rw [e1]; exact c2A.1) (State.isArrayOf_alike hZ.alike c2A.2.1) (g := (mkF m 4 #[rv a, iv 1, .unset, .unset] [(.ref w_DE)])) rfl rfl (hb hby own_d9_4) _ ?_
    rw [len_of c2S c2N]
    show Steps p.tables e below (T1.setTop (mkF m 5 #[rv a, iv 1, .unset, .unset] [(.int 0)])) _
    refine XS.istoreN X1.here hx rfl (hb hby own_d9_5) rfl (l' := #[rv a, iv 1, iv 0, .unset]) rfl ?_
    show Steps p.tables e below (T1.setTop (mkF m 6 #[rv a, iv 1, iv 0, .unset] [])) _
    refine XS.iloadN X1.here hx rfl (hb hby own_d9_6) rfl ?_
    show Steps p.tables e below (T1.setTop (mkF m 7 #[rv a, iv 1, iv 0, .unset] [(.int 0)])) _
    refine XS.ifNo X1.here hx rfl (hb hby own_d9_7) rfl ((if0 _ _).trans (flt (by decide)).2.2.1) ?_
    show Steps p.tables e below (T1.setTop (mkF m 10 #[rv a, iv 1, iv 0, .unset] [])) _
    refine XS.aloadN X1.here hx rfl (hb hby own_d9_10) rfl rfl ?_
    show Steps p.tables e below (T1.setTop (mkF m 11 #[rv a, iv 1, iv 0, .unset] [(.ref a)])) _
    refine st3 _ ?_
    show Steps p.tables e below (T3.setTop (mkF m 14 #[rv a, iv 1, iv 0, .unset] [(.ref w_DE)])) _
    refine st4 _ ?_
    show Steps p.tables e below (T4.setTop (mkF m 17 #[rv a, iv 1, iv 0, .unset] [(.ref w_DE), (.ref w_DE)])) _
    refine Jvm.RoadKit.acmp (g := (mkF m 17 #[rv a, iv 1, iv 0, .unset] [(.ref w_DE), (.ref w_DE)])) X4 hx rfl rfl rfl (pc0 := 17) (pc' := 45) (same := true) rfl (hb hby own_d9_17) rfl (decide_eq_true rfl) (by decide) (by decide) ?_
    show Steps p.tables e below (T4.setTop (mkF m 45 #[rv a, iv 1, iv 0, .unset] [])) _
    refine XS.aloadN X4.here hx rfl (hb hby own_d9_45) rfl rfl ?_
    show Steps p.tables e below (T4.setTop (mkF m 46 #[rv a, iv 1, iv 0, .unset] [(.ref a)])) _
    refine XS.bipush X4.here hx rfl (hb hby own_d9_46) ?_
    show Steps p.tables e below (T4.setTop (mkF m 48 #[rv a, iv 1, iv 0, .unset] [(.int 10), (.ref a)])) _
    refine XS.iloadN X4.here hx rfl (hb hby own_d9_48) rfl ?_
    show Steps p.tables e below (T4.setTop (mkF m 49 #[rv a, iv 1, iv 0, .unset] [(.int 1), (.int 10), (.ref a)])) _
    refine st5 _ ?_
    show Steps p.tables e below (T5.setTop (mkF m 52 #[rv a, iv 1, iv 0, .unset] [(.int 10), (.ref a)])) _
    refine st6 _ ?_
    show Steps p.tables e below (T6.setTop (mkF m 55 #[rv a, iv 1, iv 0, .unset] [(.ref b6), (.ref a)])) _
    refine XS.dupX1 X6.here hx rfl (hb hby own_d9_55) rfl rfl rfl ?_
    show Steps p.tables e below (T6.setTop (mkF m 56 #[rv a, iv 1, iv 0, .unset] [(.ref b6), (.ref a), (.ref b6)])) _
    refine st11 _ ?_
    show Steps p.tables e below (T11.setTop (mkF m 59 #[rv a, iv 1, iv 0, .unset] [(.ref b6)])) _
    jvm_step X11.here [X11.here.top, hx, (hb hby own_d9_59), X11.method', Bd.returns, Value.isRef, FieldType.isReference]
    first | (intro acts; rw [hr _ acts rfl rfl rfl]) | rw [hr _ _ rfl rfl rfl]
    exact Steps.refl _
  · show own_gr1_Q Z w_DE k_DE w_CA a mc h0 n0 _ T11.heap _
    rw [e11]
    exact ⟨trivial, N11, kp13, b6, k6, rfl, sz_b6, (Ne.symm ne_a_b6), O6, f14, f15, Fw11, f16, f17⟩
theorem own_gr0_ef (m : MethodId) (a : Addr) : entryFrame m #[(.ref a)] 1 = mkF m 0 #[rv a] [] := by first | (simp [entryFrame, mkF, argsToLocals, Value.category]; done) | rfl
def own_gr0_Q (Z : State) (w_DE : Addr) (k_DE : ClassId) (w_CA : Addr) (a : Addr) (mc : Int32) (h0 : Heap) (n0 : Nat) (v : Option Value) (h : Heap) (L : List Loc) : Prop := True ∧ Fr n0 L ∧ Keep h0 h [a] ∧ ∃ (b : Addr) (kb : ClassId), v = some (.ref b) ∧ h0.size ≤ b ∧ b ≠ a ∧ Ovr Z kb "java/lang/Object" ∧ Arv Z h b kb (.object "java/lang/Object") (10 : Int32) [.null, .null, .null, .null, .null, .null, .null, .null, .null, .null] .null ∧ Exa Z h a "java/util/ArrayList" ∧ Fld Z h a "java/util/ArrayList" "elementData" "[Ljava/lang/Object;" (.ref b) ∧ Fld Z h a "java/util/ArrayList" "size" "I" (.int 0) ∧ Fld Z h a "java/util/AbstractList" "modCount" "I" (.int mc)
set_option maxRecDepth 65536 in
set_option maxHeartbeats 40000000 in
theorem own_gr0 (l : Launch) (Z : State) (a0 : Array Value) (hw : ∀ d ∈ tables_1, d.before a0 Z = true) (ws : List Jvm.Cond) (w_DE : Addr) (k_DE : ClassId) (w_CA : Addr) (a : Addr) (mc : Int32) (h0 : Heap) (n0 : Nat) (O0 : Old Z n0 h0) (S_DE : Sta Z Z.heap "java/util/ArrayList" "DEFAULTCAPACITY_EMPTY_ELEMENTDATA" "[Ljava/lang/Object;" (.ref w_DE)) (V_DE : Arv Z Z.heap w_DE k_DE (.object "java/lang/Object") (0 : Int32) [] .null) (S_CA : Sta Z Z.heap "java/lang/Long$LongCache" "cache" "[Ljava/lang/Long;" (.ref w_CA)) (H_CA : own_Cache Z w_CA) (g_a : n0 ≤ a) (E_a : Exa Z h0 a "java/util/ArrayList") (F_elementData : Fld Z h0 a "java/util/ArrayList" "elementData" "[Ljava/lang/Object;" (.ref w_DE)) (F_size : Fld Z h0 a "java/util/ArrayList" "size" "I" (.int 0)) (F_modCount : Fld Z h0 a "java/util/AbstractList" "modCount" "I" (.int mc)) :
    MetFree l (⟨"java/util/ArrayList", "grow", "()[Ljava/lang/Object;"⟩ : MethodName) (head1 (Jvm.Cond.code (⟨"java/util/ArrayList", "grow", "()[Ljava/lang/Object;"⟩ : MethodName) jdk_38_method_7_code 1 (some (.array (.object "java/lang/Object"))) :: ws) ({ frames := 2, cells := 1, slots := 10, locals := 29 } : Room)) (fun ar U => ar = #[(.ref a)] ∧ Z.Warmed39 U.vm ∧ U.heap = h0) (fun _ _ _ _ _ => True) (fun _ U oc U' => ∃ v L, oc = .returned v ∧ own_gr0_Q Z w_DE k_DE w_CA a mc h0 n0 v U'.heap L ∧ FrameEnd U oc U' L ({ frames := 2, cells := 1, slots := 10, locals := 29 } : Room).cells ({ frames := 2, cells := 1, slots := 10, locals := 29 } : Room).slots) := by
  refine MetFree.of_bodySF (plainFor_of_name own_pn4) hisR ?_
  intro p e s m args below meth c s₁ Bd hml0 hP hK
  obtain ⟨rfl, hZ, hh⟩ := hP
  have hx := Bd.exec
  have hby := Bd.bytes
  have hml : c.maxLocals = 1 := hml0
  have hown : s.vm.findClass "java/util/ArrayList" = some m.cls := findClass_of_methodNamed Bd.named
  have hnm := (name_of_methodNamed Bd.named Bd.method).1
  have X0 : Stand p l e ({ frames := 2, cells := 1, slots := 10, locals := 29 } : Room) s m #[(.ref a)] below meth c s₁ [] 0 0 := Stand.of_body Bd
  have e0 : s₁.heap = h0 := by rw [← hh, Bd.state]; rfl
  have N0 := Fr.nil n0
  have pre0 : ∀ t, Steps p.tables e below (s₁.setTop (mkF m 0 #[rv a] [])) t → Steps p.tables e below (s₁.setTop (entryFrame m #[(.ref a)] 1)) t := fun t k => castTop (own_gr0_ef m a) k
  have kp0 := Keep.refl h0 ([a] : List Addr)
  obtain ⟨T1, X1, e1, st1⟩ := getF X0 hx hZ hown (host := "") (Or.inl (hw _ (own_m 41 rfl))) Via.refl e0 F_size (g := (mkF m 2 #[rv a] [(.ref a), (.ref a)])) rfl rfl (hb hby own_d8_2)
  obtain ⟨cq2, q2, q2'⟩ := E_a.cell
  obtain ⟨_, _, ⟨T2, L2, k2, n2⟩, -, X2, ⟨Lc2, hQ2, l2, y2, z2⟩, st2⟩ := X1.privateBack hx (y := (⟨"java/util/ArrayList", "grow", "(I)[Ljava/lang/Object;"⟩ : MethodName)) hown (mvT hZ (hw _ (own_m 53 rfl))) (mvT hZ (hw _ (own_m 54 rfl))) (mvT hZ (hw _ (own_m 56 rfl))) (Cond.privateMethod_at (mvP hZ (hw _ (own_m 55 rfl)) (args := #[]))) (mvT hZ (hw _ (own_m 57 rfl))) (by decide) (backOf (W := 0) (own_gr1 l Z a0 hw [] w_DE k_DE w_CA a mc h0 n0 O0 S_DE V_DE S_CA H_CA g_a E_a F_elementData F_size F_modCount) hZ (hw _ (own_m 57 rfl)) (hw _ (own_m 2 rfl)) (by decide) (by decide)) (g := (mkF m 7 #[rv a] [(.int 1), (.ref a)])) rfl (by rw [hml]; rfl) (Steps.refl _) (a := a) (by rw [e1]; exact q2) q2' (argsL := [(.int 1)]) (rest := []) (lenOf own_pd3 rfl) rfl (by show 2 * 0 + _ ≤ _; exact Nat.le_of_eq rfl) (hb hby own_d8_7) (fun _ _ => ⟨rfl, e1, (by decide : 0 + 1 ≤ _), (by decide : 0 + 10 ≤ _)⟩)
  dsimp only [Pt.U, Pt.locs, Pt.cells, Pt.slots] at X2 l2 y2 z2 st2 hQ2
  subst l2 y2 z2
  obtain ⟨-, N2q, K2, bb, kb, rfl, szr, nba, O_bb, V_bb, q3, q4, q5, q6⟩ := hQ2
  have N2 := Fr.app N0 N2q
  have g_bb : n0 ≤ bb := Nat.le_trans (own_le O0) szr
  have sz_bb : h0.size ≤ bb := Nat.le_trans kp0.1 szr
  have O7 := O0.keep K2 (allS g_a all0)
  have kp8 := kp0.trans K2 ((allS (P := fun x => x ∈ ([a] : List Addr) ∨ h0.size ≤ x) (Or.inl (own_m 0 rfl)) all0))
  obtain ⟨fs, hr, hrun, hended, hW, hsame⟩ := X2.leave (v := some (.ref bb)) (fun h => by rw [Bd.returns] at h; cases h)
  refine ⟨_, _, pre0 _ ?_, hrun, hended, _, _, rfl, ?_, ⟨_, rfl⟩, hW, hsame.mono (by decide) (by decide)⟩
  · show Steps p.tables e below (s₁.setTop (mkF m 0 #[rv a] [])) _
    refine XS.aloadN X0.here hx rfl (hb hby own_d8_0) rfl rfl ?_
    show Steps p.tables e below (s₁.setTop (mkF m 1 #[rv a] [(.ref a)])) _
    refine XS.aloadN X0.here hx rfl (hb hby own_d8_1) rfl rfl ?_
    show Steps p.tables e below (s₁.setTop (mkF m 2 #[rv a] [(.ref a), (.ref a)])) _
    refine st1 _ ?_
    show Steps p.tables e below (T1.setTop (mkF m 5 #[rv a] [(.int 0), (.ref a)])) _
    refine XS.iconst X1.here hx rfl (hb hby own_d8_5) ?_
    show Steps p.tables e below (T1.setTop (mkF m 6 #[rv a] [(.int 1), (.int 0), (.ref a)])) _
    refine XS.iadd X1.here hx rfl (hb hby own_d8_6) rfl ?_
    show Steps p.tables e below (T1.setTop (mkF m 7 #[rv a] [(.int ((0 : Int32) + (1 : Int32))), (.ref a)])) _
    refine own_top (v' := (.int 1)) (congrArg Value.int (by decide)) ?_
    show Steps p.tables e below (T1.setTop (mkF m 7 #[rv a] [(.int 1), (.ref a)])) _
    refine st2.trans ?_
    show Steps p.tables e below (T2.setTop (mkF m 10 #[rv a] [(.ref bb)])) _
    jvm_step X2.here [X2.here.top, hx, (hb hby own_d8_10), X2.method', Bd.returns, Value.isRef, FieldType.isReference]
    first | (intro acts; rw [hr _ acts rfl rfl rfl]) | rw [hr _ _ rfl rfl rfl]
    exact Steps.refl _
  · show own_gr0_Q Z w_DE k_DE w_CA a mc h0 n0 _ T2.heap _
    exact ⟨trivial, N2, kp8, bb, kb, rfl, sz_bb, nba, O_bb, V_bb, q3, q4, q5, q6⟩
theorem own_a3f_ef (m : MethodId) (w_DE : Addr) (a : Addr) (y : Addr) : entryFrame m #[(.ref a), (.ref y), (.ref w_DE), (.int 0)] 4 = mkF m 0 #[rv a, rv y, rv w_DE, iv 0] [] := by first | (simp [entryFrame, mkF, argsToLocals, Value.category]; done) | rfl
def own_a3f_Q (Z : State) (w_DE : Addr) (k_DE : ClassId) (w_CA : Addr) (a : Addr) (y : Addr) (mc : Int32) (h0 : Heap) (n0 : Nat) (v : Option Value) (h : Heap) (L : List Loc) : Prop := v = none ∧ Fr n0 L ∧ Keep h0 h [a] ∧ ∃ (b : Addr) (kb : ClassId), h0.size ≤ b ∧ b ≠ a ∧ Ovr Z kb "java/lang/Object" ∧ Arv Z h b kb (.object "java/lang/Object") (10 : Int32) [(.ref y), .null, .null, .null, .null, .null, .null, .null, .null, .null] .null ∧ Exa Z h a "java/util/ArrayList" ∧ Fld Z h a "java/util/ArrayList" "elementData" "[Ljava/lang/Object;" (.ref b) ∧ Fld Z h a "java/util/ArrayList" "size" "I" (.int 1) ∧ Fld Z h a "java/util/AbstractList" "modCount" "I" (.int mc)
set_option maxRecDepth 65536 in
set_option maxHeartbeats 40000000 in
theorem own_a3f (l : Launch) (Z : State) (a0 : Array Value) (hw : ∀ d ∈ tables_1, d.before a0 Z = true) (ws : List Jvm.Cond) (w_DE : Addr) (k_DE : ClassId) (w_CA : Addr) (a : Addr) (y : Addr) (mc : Int32) (h0 : Heap) (n0 : Nat) (O0 : Old Z n0 h0) (S_DE : Sta Z Z.heap "java/util/ArrayList" "DEFAULTCAPACITY_EMPTY_ELEMENTDATA" "[Ljava/lang/Object;" (.ref w_DE)) (V_DE : Arv Z Z.heap w_DE k_DE (.object "java/lang/Object") (0 : Int32) [] .null) (S_CA : Sta Z Z.heap "java/lang/Long$LongCache" "cache" "[Ljava/lang/Long;" (.ref w_CA)) (H_CA : own_Cache Z w_CA) (g_a : n0 ≤ a) (E_a : Exa Z h0 a "java/util/ArrayList") (F_elementData : Fld Z h0 a "java/util/ArrayList" "elementData" "[Ljava/lang/Object;" (.ref w_DE)) (F_size : Fld Z h0 a "java/util/ArrayList" "size" "I" (.int 0)) (F_modCount : Fld Z h0 a "java/util/AbstractList" "modCount" "I" (.int mc)) (E_y : Exa Z h0 y "java/lang/Long") :
    MetFree l (⟨"java/util/ArrayList", "add", "(Ljava/lang/Object;[Ljava/lang/Object;I)V"⟩ : MethodName) (head1 (Jvm.Cond.code (⟨"java/util/ArrayList", "add", "(Ljava/lang/Object;[Ljava/lang/Object;I)V"⟩ : MethodName) jdk_38_method_24_code 4 none :: ws) ({ frames := 3, cells := 1, slots := 10, locals := 41 } : Room)) (fun ar U => ar = #[(.ref a), (.ref y), (.ref w_DE), (.int 0)] ∧ Z.Warmed39 U.vm ∧ U.heap = h0) (fun _ _ _ _ _ => True) (fun _ U oc U' => ∃ v L, oc = .returned v ∧ own_a3f_Q Z w_DE k_DE w_CA a y mc h0 n0 v U'.heap L ∧ FrameEnd U oc U' L ({ frames := 3, cells := 1, slots := 10, locals := 41 } : Room).cells ({ frames := 3, cells := 1, slots := 10, locals := 41 } : Room).slots) := by
  refine MetFree.of_bodySF (plainFor_of_name own_pn4) hisR ?_
  intro p e s m args below meth c s₁ Bd hml0 hP hK
  obtain ⟨rfl, hZ, hh⟩ := hP
  have hx := Bd.exec
  have hby := Bd.bytes
  have hml : c.maxLocals = 4 := hml0
  have hown : s.vm.findClass "java/util/ArrayList" = some m.cls := findClass_of_methodNamed Bd.named
  have hnm := (name_of_methodNamed Bd.named Bd.method).1
  have X0 : Stand p l e ({ frames := 3, cells := 1, slots := 10, locals := 41 } : Room) s m #[(.ref a), (.ref y), (.ref w_DE), (.int 0)] below meth c s₁ [] 0 0 := Stand.of_body Bd
  have e0 : s₁.heap = h0 := by rw [← hh, Bd.state]; rfl
  have N0 := Fr.nil n0
  have pre0 : ∀ t, Steps p.tables e below (s₁.setTop (mkF m 0 #[rv a, rv y, rv w_DE, iv 0] [])) t → Steps p.tables e below (s₁.setTop (entryFrame m #[(.ref a), (.ref y), (.ref w_DE), (.int 0)] 4)) t := fun t k => castTop (own_a3f_ef m w_DE a y) k
  have kp0 := Keep.refl h0 ([a] : List Addr)
  obtain ⟨c1, c1A, c1q, c1S, c1N, c1H, c1G⟩ := id (V_DE.ext O0.2)
  obtain ⟨cq2, q2, q2'⟩ := E_a.cell
  obtain ⟨_, _, ⟨T2, L2, k2, n2⟩, -, X2, ⟨Lc2, hQ2, l2, y2, z2⟩, st2⟩ := X0.privateBack hx (y := (⟨"java/util/ArrayList", "grow", "()[Ljava/lang/Object;"⟩ : MethodName)) hown (mvT hZ (hw _ (own_m 48 rfl))) (mvT hZ (hw _ (own_m 49 rfl))) (mvT hZ (hw _ (own_m 51 rfl))) (Cond.privateMethod_at (mvP hZ (hw _ (own_m 50 rfl)) (args := #[]))) (mvT hZ (hw _ (own_m 52 rfl))) (by decide) (backOf (W := 0) (own_gr0 l Z a0 hw [] w_DE k_DE w_CA a mc h0 n0 O0 S_DE V_DE S_CA H_CA g_a E_a F_elementData F_size F_modCount) hZ (hw _ (own_m 52 rfl)) (hw _ (own_m 2 rfl)) (by decide) (by decide)) (g := (mkF m 7 #[rv a, rv y, rv w_DE, iv 0] [(.ref a)])) rfl (by rw [hml]; rfl) (Steps.refl _) (a := a) (by rw [e0]; exact q2) q2' (argsL := []) (rest := []) (lenOf own_pd4 rfl) rfl (by show 2 * 0 + _ ≤ _; exact Nat.le_of_eq rfl) (hb hby own_d7_7) (fun _ _ => ⟨rfl, e0, (by decide : 0 + 1 ≤ _), (by decide : 0 + 10 ≤ _)⟩)
  dsimp only [Pt.U, Pt.locs, Pt.cells, Pt.slots] at X2 l2 y2 z2 st2 hQ2
  subst l2 y2 z2
  obtain ⟨-, N2q, K2, bb, kb, rfl, szr, nba, O_bb, V_bb, q3, q4, q5, q6⟩ := hQ2
  have N2 := Fr.app N0 N2q
  have g_bb : n0 ≤ bb := Nat.le_trans (own_le O0) szr
  have sz_bb : h0.size ≤ bb := Nat.le_trans kp0.1 szr
  have O7 := O0.keep K2 (allS g_a all0)
  have kp8 := kp0.trans K2 ((allS (P := fun x => x ∈ ([a] : List Addr) ∨ h0.size ≤ x) (Or.inl (own_m 0 rfl)) all0))
  have f9 := (E_y.keep K2)
  obtain ⟨c10, c10A, c10q, c10S, c10N, c10H, c10G⟩ := id V_bb
  have c10in : ¬ ((0 : Int32) < 0 ∨ c10.slots.size ≤ ((0 : Int32)).toNatClampNeg) := inb_of c10S ⟨by decide, by decide⟩
  obtain ⟨T11, h11, X11, e11, W11, st11⟩ := stR X2 hx hZ rfl c10A (j := (0 : Int32)) c10in rfl (Sto.ofV c10A c10q O_bb (Ins.of_exa f9 (hw _ (own_m 64 rfl)))) (g := (mkF m 14 #[rv a, rv y, rv bb, iv 0] [(.ref y), (.int 0), (.ref bb)])) rfl rfl (hb hby own_d7_14)
  have V11 : Arv Z h11 bb kb (.object "java/lang/Object") (10 : Int32) [(.ref y), .null, .null, .null, .null, .null, .null, .null, .null, .null] .null := Arv.set c10A c10q c10S c10N c10H c10G rfl W11 0 rfl (Nat.le_of_ble_eq_true rfl)
  have O12 := O7.wr W11 g_bb
  have kp13 := kp8.wr W11 (Or.inr sz_bb)
  have N11 := Fr.snoc X11 N2 g_bb
  have f14 := (q5.other W11 (Or.inl (Ne.symm nba)))
  have f15 := (q3.wr W11)
  obtain ⟨T16, h16, X16, e16, W16, st16⟩ := putF X11 hx hZ hown (host := "") (Or.inl (hw _ (own_m 41 rfl))) Via.refl e11 f14 f15 (Or.inl (hw _ (own_m 42 rfl))) (hw _ (own_m 1 rfl)) (ty := .int) (by decide) rfl rfl (g := (mkF m 19 #[rv a, rv y, rv bb, iv 0] [(.int 1), (.ref a)])) rfl rfl (hb hby own_d7_19)
  have Fw16 := f14.same W16
  have O17 := O12.wr W16 g_a
  have kp18 := kp13.wr W16 (Or.inl (own_m 0 rfl))
  have N16 := Fr.snoc X16 N11 g_a
  have f19 := (V11.other W16 nba)
  have f20 := (f15.wr W16)
  have f21 := ((q4.other W11 (Or.inl (Ne.symm nba))).other W16 (Or.inr (slot_ne (Or.inl (hw _ (own_m 25 rfl))) (Or.inl (hw _ (own_m 42 rfl))) (by decide) (t := (.array (.object "java/lang/Object"))) (t' := .int) (by decide) (by decide))))
  have f22 := ((q6.other W11 (Or.inl (Ne.symm nba))).other W16 (Or.inr (slot_ne (Or.inl (hw _ (own_m 22 rfl))) (Or.inl (hw _ (own_m 42 rfl))) (by decide) (t := .int) (t' := .int) (by decide) (by decide))))
  obtain ⟨fs, hr, hrun, hended, hW, hsame⟩ := X16.leave (v := none) (fun _ => rfl)
  refine ⟨_, _, pre0 _ ?_, hrun, hended, _, _, rfl, ?_, ⟨_, rfl⟩, hW, hsame.mono (by decide) (by decide)⟩
  · show Steps p.tables e below (s₁.setTop (mkF m 0 #[rv a, rv y, rv w_DE, iv 0] [])) _
    refine XS.iloadN X0.here hx rfl (hb hby own_d7_0) rfl ?_
    show Steps p.tables e below (s₁.setTop (mkF m 1 #[rv a, rv y, rv w_DE, iv 0] [(.int 0)])) _
    refine XS.aloadN X0.here hx rfl (hb hby own_d7_1) rfl rfl ?_
    show Steps p.tables e below (s₁.setTop (mkF m 2 #[rv a, rv y, rv w_DE, iv 0] [(.ref w_DE), (.int 0)])) _
    refine X0.arraylength hx (by rw [e0]; exact c1A.1) (State.isArrayOf_alike hZ.alike c1A.2.1) (g := (mkF m 2 #[rv a, rv y, rv w_DE, iv 0] [(.ref w_DE), (.int 0)])) rfl rfl (hb hby own_d7_2) _ ?_
    rw [len_of c1S c1N]
    show Steps p.tables e below (s₁.setTop (mkF m 3 #[rv a, rv y, rv w_DE, iv 0] [(.int 0), (.int 0)])) _
    refine XS.icmpNo X0.here hx rfl (hb hby own_d7_3) rfl (teq (by decide)).2 ?_
    show Steps p.tables e below (s₁.setTop (mkF m 6 #[rv a, rv y, rv w_DE, iv 0] [])) _
    refine XS.aloadN X0.here hx rfl (hb hby own_d7_6) rfl rfl ?_
    show Steps p.tables e below (s₁.setTop (mkF m 7 #[rv a, rv y, rv w_DE, iv 0] [(.ref a)])) _
    refine st2.trans ?_
    show Steps p.tables e below (T2.setTop (mkF m 10 #[rv a, rv y, rv w_DE, iv 0] [(.ref bb)])) _
    refine XS.astoreN X2.here hx rfl (hb hby own_d7_10) rfl rfl (l' := #[rv a, rv y, rv bb, iv 0]) rfl ?_
    show Steps p.tables e below (T2.setTop (mkF m 11 #[rv a, rv y, rv bb, iv 0] [])) _
    refine XS.aloadN X2.here hx rfl (hb hby own_d7_11) rfl rfl ?_
    show Steps p.tables e below (T2.setTop (mkF m 12 #[rv a, rv y, rv bb, iv 0] [(.ref bb)])) _
    refine XS.iloadN X2.here hx rfl (hb hby own_d7_12) rfl ?_
    show Steps p.tables e below (T2.setTop (mkF m 13 #[rv a, rv y, rv bb, iv 0] [(.int 0), (.ref bb)])) _
    refine XS.aloadN X2.here hx rfl (hb hby own_d7_13) rfl rfl ?_
    show Steps p.tables e below (T2.setTop (mkF m 14 #[rv a, rv y, rv bb, iv 0] [(.ref y), (.int 0), (.ref bb)])) _
    refine st11 _ ?_
    show Steps p.tables e below (T11.setTop (mkF m 15 #[rv a, rv y, rv bb, iv 0] [])) _
    refine XS.aloadN X11.here hx rfl (hb hby own_d7_15) rfl rfl ?_
    show Steps p.tables e below (T11.setTop (mkF m 16 #[rv a, rv y, rv bb, iv 0] [(.ref a)])) _
    refine XS.iloadN X11.here hx rfl (hb hby own_d7_16) rfl ?_
    show Steps p.tables e below (T11.setTop (mkF m 17 #[rv a, rv y, rv bb, iv 0] [(.int 0), (.ref a)])) _
    refine XS.iconst X11.here hx rfl (hb hby own_d7_17) ?_
    show Steps p.tables e below (T11.setTop (mkF m 18 #[rv a, rv y, rv bb, iv 0] [(.int 1), (.int 0), (.ref a)])) _
    refine XS.iadd X11.here hx rfl (hb hby own_d7_18) rfl ?_
    show Steps p.tables e below (T11.setTop (mkF m 19 #[rv a, rv y, rv bb, iv 0] [(.int ((0 : Int32) + (1 : Int32))), (.ref a)])) _
    refine own_top (v' := (.int 1)) (congrArg Value.int (by decide)) ?_
    show Steps p.tables e below (T11.setTop (mkF m 19 #[rv a, rv y, rv bb, iv 0] [(.int 1), (.ref a)])) _
    refine st16 _ ?_
    show Steps p.tables e below (T16.setTop (mkF m 22 #[rv a, rv y, rv bb, iv 0] [])) _
    exact X16.returnOut hx Bd.returns (hb hby own_d7_22) hr
  · show own_a3f_Q Z w_DE k_DE w_CA a y mc h0 n0 _ T16.heap _
    rw [e16]
    exact ⟨rfl, N16, kp18, bb, kb, sz_bb, nba, O_bb, f19, f20, f21, Fw16, f22⟩
theorem own_af_ef (m : MethodId) (a : Addr) (y : Addr) : entryFrame m #[(.ref a), (.ref y)] 2 = mkF m 0 #[rv a, rv y] [] := by first | (simp [entryFrame, mkF, argsToLocals, Value.category]; done) | rfl
def own_af_Q (Z : State) (w_DE : Addr) (k_DE : ClassId) (w_CA : Addr) (a : Addr) (y : Addr) (mc : Int32) (h0 : Heap) (n0 : Nat) (v : Option Value) (h : Heap) (L : List Loc) : Prop := v = some (.int 1) ∧ Fr n0 L ∧ Keep h0 h [a] ∧ ∃ (b : Addr) (kb : ClassId), h0.size ≤ b ∧ b ≠ a ∧ Ovr Z kb "java/lang/Object" ∧ Arv Z h b kb (.object "java/lang/Object") (10 : Int32) [(.ref y), .null, .null, .null, .null, .null, .null, .null, .null, .null] .null ∧ Exa Z h a "java/util/ArrayList" ∧ Fld Z h a "java/util/ArrayList" "elementData" "[Ljava/lang/Object;" (.ref b) ∧ Fld Z h a "java/util/ArrayList" "size" "I" (.int 1) ∧ Fld Z h a "java/util/AbstractList" "modCount" "I" (.int (mc + (1 : Int32)))
set_option maxRecDepth 65536 in
set_option maxHeartbeats 40000000 in
theorem own_af (l : Launch) (Z : State) (a0 : Array Value) (hw : ∀ d ∈ tables_1, d.before a0 Z = true) (ws : List Jvm.Cond) (w_DE : Addr) (k_DE : ClassId) (w_CA : Addr) (a : Addr) (y : Addr) (mc : Int32) (h0 : Heap) (n0 : Nat) (O0 : Old Z n0 h0) (S_DE : Sta Z Z.heap "java/util/ArrayList" "DEFAULTCAPACITY_EMPTY_ELEMENTDATA" "[Ljava/lang/Object;" (.ref w_DE)) (V_DE : Arv Z Z.heap w_DE k_DE (.object "java/lang/Object") (0 : Int32) [] .null) (S_CA : Sta Z Z.heap "java/lang/Long$LongCache" "cache" "[Ljava/lang/Long;" (.ref w_CA)) (H_CA : own_Cache Z w_CA) (g_a : n0 ≤ a) (E_a : Exa Z h0 a "java/util/ArrayList") (F_elementData : Fld Z h0 a "java/util/ArrayList" "elementData" "[Ljava/lang/Object;" (.ref w_DE)) (F_size : Fld Z h0 a "java/util/ArrayList" "size" "I" (.int 0)) (F_modCount : Fld Z h0 a "java/util/AbstractList" "modCount" "I" (.int mc)) (E_y : Exa Z h0 y "java/lang/Long") :
    MetFree l (⟨"java/util/ArrayList", "add", "(Ljava/lang/Object;)Z"⟩ : MethodName) (head1 (Jvm.Cond.code (⟨"java/util/ArrayList", "add", "(Ljava/lang/Object;)Z"⟩ : MethodName) jdk_38_method_25_code 2 (some .boolean) :: ws) ({ frames := 4, cells := 1, slots := 10, locals := 56 } : Room)) (fun ar U => ar = #[(.ref a), (.ref y)] ∧ Z.Warmed39 U.vm ∧ U.heap = h0) (fun _ _ _ _ _ => True) (fun _ U oc U' => ∃ v L, oc = .returned v ∧ own_af_Q Z w_DE k_DE w_CA a y mc h0 n0 v U'.heap L ∧ FrameEnd U oc U' L ({ frames := 4, cells := 1, slots := 10, locals := 56 } : Room).cells ({ frames := 4, cells := 1, slots := 10, locals := 56 } : Room).slots) := by
  refine MetFree.of_bodySF (plainFor_of_name own_pn4) hisR ?_
  intro p e s m args below meth c s₁ Bd hml0 hP hK
  obtain ⟨rfl, hZ, hh⟩ := hP
  have hx := Bd.exec
  have hby := Bd.bytes
  have hml : c.maxLocals = 2 := hml0
  have hown : s.vm.findClass "java/util/ArrayList" = some m.cls := findClass_of_methodNamed Bd.named
  have hnm := (name_of_methodNamed Bd.named Bd.method).1
  have X0 : Stand p l e ({ frames := 4, cells := 1, slots := 10, locals := 56 } : Room) s m #[(.ref a), (.ref y)] below meth c s₁ [] 0 0 := Stand.of_body Bd
  have e0 : s₁.heap = h0 := by rw [← hh, Bd.state]; rfl
  have N0 := Fr.nil n0
  have pre0 : ∀ t, Steps p.tables e below (s₁.setTop (mkF m 0 #[rv a, rv y] [])) t → Steps p.tables e below (s₁.setTop (entryFrame m #[(.ref a), (.ref y)] 2)) t := fun t k => castTop (own_af_ef m a y) k
  have kp0 := Keep.refl h0 ([a] : List Addr)
  obtain ⟨T1, X1, e1, st1⟩ := getF X0 hx hZ hown (host := "") (Or.inl (hw _ (own_m 39 rfl))) (Via.of (hw _ (own_m 40 rfl))) e0 F_modCount (g := (mkF m 2 #[rv a, rv y] [(.ref a), (.ref a)])) rfl rfl (hb hby own_d6_2)
  obtain ⟨T2, h2, X2, e2, W2, st2⟩ := putF X1 hx hZ hown (host := "") (Or.inl (hw _ (own_m 39 rfl))) (Via.of (hw _ (own_m 40 rfl))) e1 F_modCount E_a (Or.inl (hw _ (own_m 22 rfl))) (hw _ (own_m 1 rfl)) (ty := .int) (by decide) rfl rfl (g := (mkF m 7 #[rv a, rv y] [(.int (mc + (1 : Int32))), (.ref a)])) rfl rfl (hb hby own_d6_7)
  have Fw2 := F_modCount.same W2
  have O3 := O0.wr W2 g_a
  have kp4 := kp0.wr W2 (Or.inl (own_m 0 rfl))
  have N2 := Fr.snoc X2 N0 g_a
  have f5 := (F_elementData.other W2 (Or.inr (slot_ne (Or.inl (hw _ (own_m 25 rfl))) (Or.inl (hw _ (own_m 22 rfl))) (by decide) (t := (.array (.object "java/lang/Object"))) (t' := .int) (by decide) (by decide))))
  obtain ⟨T6, X6, e6, st6⟩ := getF X2 hx hZ hown (host := "") (Or.inl (hw _ (own_m 24 rfl))) Via.refl e2 f5 (g := (mkF m 13 #[rv a, rv y] [(.ref a), (.ref y), (.ref a)])) rfl rfl (hb hby own_d6_13)
  have f7 := (F_size.other W2 (Or.inr (slot_ne (Or.inl (hw _ (own_m 42 rfl))) (Or.inl (hw _ (own_m 22 rfl))) (by decide) (t := .int) (t' := .int) (by decide) (by decide))))
  obtain ⟨T8, X8, e8, st8⟩ := getF X6 hx hZ hown (host := "") (Or.inl (hw _ (own_m 41 rfl))) Via.refl e6 f7 (g := (mkF m 17 #[rv a, rv y] [(.ref a), (.ref w_DE), (.ref y), (.ref a)])) rfl rfl (hb hby own_d6_17)
  have f9 := (E_a.wr W2)
  have f10 := (E_y.wr W2)
  obtain ⟨cq11, q11, q11'⟩ := f9.cell
  obtain ⟨_, _, ⟨T11, L11, k11, n11⟩, -, X11, ⟨Lc11, hQ11, l11, y11, z11⟩, st11⟩ := X8.privateBack hx (y := (⟨"java/util/ArrayList", "add", "(Ljava/lang/Object;[Ljava/lang/Object;I)V"⟩ : MethodName)) hown (mvT hZ (hw _ (own_m 43 rfl))) (mvT hZ (hw _ (own_m 44 rfl))) (mvT hZ (hw _ (own_m 46 rfl))) (Cond.privateMethod_at (mvP hZ (hw _ (own_m 45 rfl)) (args := #[]))) (mvT hZ (hw _ (own_m 47 rfl))) (by decide) (backOf (W := 0) (own_a3f l Z a0 hw [] w_DE k_DE w_CA a y (mc + (1 : Int32)) h2 n0 O3 S_DE V_DE S_CA H_CA g_a f9 f5 f7 Fw2 f10) hZ (hw _ (own_m 47 rfl)) (hw _ (own_m 2 rfl)) (by decide) (by decide)) (g := (mkF m 20 #[rv a, rv y] [(.int 0), (.ref w_DE), (.ref y), (.ref a)])) rfl (by rw [hml]; rfl) (Steps.refl _) (a := a) (by rw [e8]; exact q11) q11' (argsL := [(.ref y), (.ref w_DE), (.int 0)]) (rest := []) (lenOf own_pd5 rfl) rfl (by show 2 * 0 + _ ≤ _; exact Nat.le_of_eq rfl) (hb hby own_d6_20) (fun _ _ => ⟨rfl, e8, (by decide : 0 + 1 ≤ _), (by decide : 0 + 10 ≤ _)⟩)
  dsimp only [Pt.U, Pt.locs, Pt.cells, Pt.slots] at X11 l11 y11 z11 st11 hQ11
  subst l11 y11 z11
  obtain ⟨rfl, N11q, K11, bb, kb, szr, nba, O_bb, V_bb, q12, q13, q14, q15⟩ := hQ11
  have N11 := Fr.app N2 N11q
  have g_bb : n0 ≤ bb := Nat.le_trans (own_le O3) szr
  have sz_bb : h0.size ≤ bb := Nat.le_trans kp4.1 szr
  have O16 := O3.keep K11 (allS g_a all0)
  have kp17 := kp4.trans K11 ((allS (P := fun x => x ∈ ([a] : List Addr) ∨ h0.size ≤ x) (Or.inl (own_m 0 rfl)) all0))
  obtain ⟨fs, hr, hrun, hended, hW, hsame⟩ := X11.leave (v := some (.int 1)) (fun h => by rw [Bd.returns] at h; cases h)
  refine ⟨_, _, pre0 _ ?_, hrun, hended, _, _, rfl, ?_, ⟨_, rfl⟩, hW, hsame.mono (by decide) (by decide)⟩
  · show Steps p.tables e below (s₁.setTop (mkF m 0 #[rv a, rv y] [])) _
    refine XS.aloadN X0.here hx rfl (hb hby own_d6_0) rfl rfl ?_
    show Steps p.tables e below (s₁.setTop (mkF m 1 #[rv a, rv y] [(.ref a)])) _
    refine XS.dup X0.here hx rfl (hb hby own_d6_1) rfl rfl ?_
    show Steps p.tables e below (s₁.setTop (mkF m 2 #[rv a, rv y] [(.ref a), (.ref a)])) _
    refine st1 _ ?_
    show Steps p.tables e below (T1.setTop (mkF m 5 #[rv a, rv y] [(.int mc), (.ref a)])) _
    refine XS.iconst X1.here hx rfl (hb hby own_d6_5) ?_
    show Steps p.tables e below (T1.setTop (mkF m 6 #[rv a, rv y] [(.int 1), (.int mc), (.ref a)])) _
    refine XS.iadd X1.here hx rfl (hb hby own_d6_6) rfl ?_
    show Steps p.tables e below (T1.setTop (mkF m 7 #[rv a, rv y] [(.int (mc + (1 : Int32))), (.ref a)])) _
    refine st2 _ ?_
    show Steps p.tables e below (T2.setTop (mkF m 10 #[rv a, rv y] [])) _
    refine XS.aloadN X2.here hx rfl (hb hby own_d6_10) rfl rfl ?_
    show Steps p.tables e below (T2.setTop (mkF m 11 #[rv a, rv y] [(.ref a)])) _
    refine XS.aloadN X2.here hx rfl (hb hby own_d6_11) rfl rfl ?_
    show Steps p.tables e below (T2.setTop (mkF m 12 #[rv a, rv y] [(.ref y), (.ref a)])) _
    refine XS.aloadN X2.here hx rfl (hb hby own_d6_12) rfl rfl ?_
    show Steps p.tables e below (T2.setTop (mkF m 13 #[rv a, rv y] [(.ref a), (.ref y), (.ref a)])) _
    refine st6 _ ?_
    show Steps p.tables e below (T6.setTop (mkF m 16 #[rv a, rv y] [(.ref w_DE), (.ref y), (.ref a)])) _
    refine XS.aloadN X6.here hx rfl (hb hby own_d6_16) rfl rfl ?_
    show Steps p.tables e below (T6.setTop (mkF m 17 #[rv a, rv y] [(.ref a), (.ref w_DE), (.ref y), (.ref a)])) _
    refine st8 _ ?_
    show Steps p.tables e below (T8.setTop (mkF m 20 #[rv a, rv y] [(.int 0), (.ref w_DE), (.ref y), (.ref a)])) _
    refine st11.trans ?_
    show Steps p.tables e below (T11.setTop (mkF m 23 #[rv a, rv y] [])) _
    refine XS.iconst X11.here hx rfl (hb hby own_d6_23) ?_
    show Steps p.tables e below (T11.setTop (mkF m 24 #[rv a, rv y] [(.int 1)])) _
    exact retN X11 hx (t := .boolean) Bd.returns (by simp) (hb hby own_d6_24) hr
  · show own_af_Q Z w_DE k_DE w_CA a y mc h0 n0 _ T11.heap _
    exact ⟨rfl, N11, kp17, bb, kb, sz_bb, nba, O_bb, V_bb, q12, q13, q14, q15⟩
theorem own_a3n1_ef (m : MethodId) (a : Addr) (b : Addr) (y : Addr) : entryFrame m #[(.ref a), (.ref y), (.ref b), (.int 1)] 4 = mkF m 0 #[rv a, rv y, rv b, iv 1] [] := by first | (simp [entryFrame, mkF, argsToLocals, Value.category]; done) | rfl
def own_a3n1_Q (Z : State) (w_DE : Addr) (k_DE : ClassId) (w_CA : Addr) (a : Addr) (b : Addr) (kb : ClassId) (y0 : Addr) (y : Addr) (mc : Int32) (h0 : Heap) (n0 : Nat) (v : Option Value) (h : Heap) (L : List Loc) : Prop := v = none ∧ Fr n0 L ∧ Keep h0 h [a, b] ∧ Arv Z h b kb (.object "java/lang/Object") (10 : Int32) [(.ref y0), (.ref y), .null, .null, .null, .null, .null, .null, .null, .null] .null ∧ Exa Z h a "java/util/ArrayList" ∧ Fld Z h a "java/util/ArrayList" "elementData" "[Ljava/lang/Object;" (.ref b) ∧ Fld Z h a "java/util/ArrayList" "size" "I" (.int 2) ∧ Fld Z h a "java/util/AbstractList" "modCount" "I" (.int mc)
set_option maxRecDepth 65536 in
set_option maxHeartbeats 40000000 in
theorem own_a3n1 (l : Launch) (Z : State) (a0 : Array Value) (hw : ∀ d ∈ tables_1, d.before a0 Z = true) (ws : List Jvm.Cond) (w_DE : Addr) (k_DE : ClassId) (w_CA : Addr) (a : Addr) (b : Addr) (kb : ClassId) (y0 : Addr) (y : Addr) (mc : Int32) (h0 : Heap) (n0 : Nat) (O0 : Old Z n0 h0) (S_DE : Sta Z Z.heap "java/util/ArrayList" "DEFAULTCAPACITY_EMPTY_ELEMENTDATA" "[Ljava/lang/Object;" (.ref w_DE)) (V_DE : Arv Z Z.heap w_DE k_DE (.object "java/lang/Object") (0 : Int32) [] .null) (S_CA : Sta Z Z.heap "java/lang/Long$LongCache" "cache" "[Ljava/lang/Long;" (.ref w_CA)) (H_CA : own_Cache Z w_CA) (g_a : n0 ≤ a) (E_a : Exa Z h0 a "java/util/ArrayList") (F_elementData : Fld Z h0 a "java/util/ArrayList" "elementData" "[Ljava/lang/Object;" (.ref b)) (F_size : Fld Z h0 a "java/util/ArrayList" "size" "I" (.int 1)) (F_modCount : Fld Z h0 a "java/util/AbstractList" "modCount" "I" (.int mc)) (E_y : Exa Z h0 y "java/lang/Long") (g_b : n0 ≤ b) (nba : b ≠ a) (O_b : Ovr Z kb "java/lang/Object") (V_b : Arv Z h0 b kb (.object "java/lang/Object") (10 : Int32) [(.ref y0), .null, .null, .null, .null, .null, .null, .null, .null, .null] .null) :
    MetFree l (⟨"java/util/ArrayList", "add", "(Ljava/lang/Object;[Ljava/lang/Object;I)V"⟩ : MethodName) (head1 (Jvm.Cond.code (⟨"java/util/ArrayList", "add", "(Ljava/lang/Object;[Ljava/lang/Object;I)V"⟩ : MethodName) jdk_38_method_24_code 4 none :: ws) ({ frames := 0, cells := 0, slots := 0, locals := 0 } : Room)) (fun ar U => ar = #[(.ref a), (.ref y), (.ref b), (.int 1)] ∧ Z.Warmed39 U.vm ∧ U.heap = h0) (fun _ _ _ _ _ => True) (fun _ U oc U' => ∃ v L, oc = .returned v ∧ own_a3n1_Q Z w_DE k_DE w_CA a b kb y0 y mc h0 n0 v U'.heap L ∧ FrameEnd U oc U' L ({ frames := 0, cells := 0, slots := 0, locals := 0 } : Room).cells ({ frames := 0, cells := 0, slots := 0, locals := 0 } : Room).slots) := by
  refine MetFree.of_bodySF (plainFor_of_name own_pn4) hisR ?_
  intro p e s m args below meth c s₁ Bd hml0 hP hK
  obtain ⟨rfl, hZ, hh⟩ := hP
  have hx := Bd.exec
  have hby := Bd.bytes
  have hml : c.maxLocals = 4 := hml0
  have hown : s.vm.findClass "java/util/ArrayList" = some m.cls := findClass_of_methodNamed Bd.named
  have hnm := (name_of_methodNamed Bd.named Bd.method).1
  have X0 : Stand p l e ({ frames := 0, cells := 0, slots := 0, locals := 0 } : Room) s m #[(.ref a), (.ref y), (.ref b), (.int 1)] below meth c s₁ [] 0 0 := Stand.of_body Bd
  have e0 : s₁.heap = h0 := by rw [← hh, Bd.state]; rfl
  have N0 := Fr.nil n0
  have pre0 : ∀ t, Steps p.tables e below (s₁.setTop (mkF m 0 #[rv a, rv y, rv b, iv 1] [])) t → Steps p.tables e below (s₁.setTop (entryFrame m #[(.ref a), (.ref y), (.ref b), (.int 1)] 4)) t := fun t k => castTop (own_a3n1_ef m a b y) k
  have kp0 := Keep.refl h0 ([a, b] : List Addr)
  obtain ⟨c1, c1A, c1q, c1S, c1N, c1H, c1G⟩ := id V_b
  obtain ⟨c2, c2A, c2q, c2S, c2N, c2H, c2G⟩ := id V_b
  have c2in : ¬ ((1 : Int32) < 0 ∨ c2.slots.size ≤ ((1 : Int32)).toNatClampNeg) := inb_of c2S ⟨by decide, by decide⟩
  obtain ⟨T3, h3, X3, e3, W3, st3⟩ := stR X0 hx hZ e0 c2A (j := (1 : Int32)) c2in rfl (Sto.ofV c2A c2q O_b (Ins.of_exa E_y (hw _ (own_m 64 rfl)))) (g := (mkF m 14 #[rv a, rv y, rv b, iv 1] [(.ref y), (.int 1), (.ref b)])) rfl rfl (hb hby own_d7_14)
  have V3 : Arv Z h3 b kb (.object "java/lang/Object") (10 : Int32) [(.ref y0), (.ref y), .null, .null, .null, .null, .null, .null, .null, .null] .null := Arv.set c2A c2q c2S c2N c2H c2G rfl W3 1 rfl (Nat.le_of_ble_eq_true rfl)
  have O4 := O0.wr W3 g_b
  have kp5 := kp0.wr W3 (Or.inl (own_m 1 rfl))
  have N3 := Fr.snoc X3 N0 g_b
  have f6 := (F_size.other W3 (Or.inl (Ne.symm nba)))
  have f7 := (E_a.wr W3)
  obtain ⟨T8, h8, X8, e8, W8, st8⟩ := putF X3 hx hZ hown (host := "") (Or.inl (hw _ (own_m 41 rfl))) Via.refl e3 f6 f7 (Or.inl (hw _ (own_m 42 rfl))) (hw _ (own_m 1 rfl)) (ty := .int) (by decide) rfl rfl (g := (mkF m 19 #[rv a, rv y, rv b, iv 1] [(.int 2), (.ref a)])) rfl rfl (hb hby own_d7_19)
  have Fw8 := f6.same W8
  have O9 := O4.wr W8 g_a
  have kp10 := kp5.wr W8 (Or.inl (own_m 0 rfl))
  have N8 := Fr.snoc X8 N3 g_a
  have f11 := (V3.other W8 nba)
  have f12 := (f7.wr W8)
  have f13 := ((F_elementData.other W3 (Or.inl (Ne.symm nba))).other W8 (Or.inr (slot_ne (Or.inl (hw _ (own_m 25 rfl))) (Or.inl (hw _ (own_m 42 rfl))) (by decide) (t := (.array (.object "java/lang/Object"))) (t' := .int) (by decide) (by decide))))
  have f14 := ((F_modCount.other W3 (Or.inl (Ne.symm nba))).other W8 (Or.inr (slot_ne (Or.inl (hw _ (own_m 22 rfl))) (Or.inl (hw _ (own_m 42 rfl))) (by decide) (t := .int) (t' := .int) (by decide) (by decide))))
  obtain ⟨fs, hr, hrun, hended, hW, hsame⟩ := X8.leave (v := none) (fun _ => rfl)
  refine ⟨_, _, pre0 _ ?_, hrun, hended, _, _, rfl, ?_, ⟨_, rfl⟩, hW, hsame.mono (by decide) (by decide)⟩
  · show Steps p.tables e below (s₁.setTop (mkF m 0 #[rv a, rv y, rv b, iv 1] [])) _
    refine XS.iloadN X0.here hx rfl (hb hby own_d7_0) rfl ?_
    show Steps p.tables e below (s₁.setTop (mkF m 1 #[rv a, rv y, rv b, iv 1] [(.int 1)])) _
    refine XS.aloadN X0.here hx rfl (hb hby own_d7_1) rfl rfl ?_
    show Steps p.tables e below (s₁.setTop (mkF m 2 #[rv a, rv y, rv b, iv 1] [(.ref b), (.int 1)])) _
    refine X0.arraylength hx (by rw [e0]; exact c1A.1) (State.isArrayOf_alike hZ.alike c1A.2.1) (g := (mkF m 2 #[rv a, rv y, rv b, iv 1] [(.ref b), (.int 1)])) rfl rfl (hb hby own_d7_2) _ ?_
    rw [len_of c1S c1N]
    show Steps p.tables e below (s₁.setTop (mkF m 3 #[rv a, rv y, rv b, iv 1] [(.int 10), (.int 1)])) _
    refine XS.icmpYes X0.here hx rfl (pc0 := 3) (pc' := 11) rfl (hb hby own_d7_3) rfl (feq (by decide)).2 (by decide) (by decide) ?_
    show Steps p.tables e below (s₁.setTop (mkF m 11 #[rv a, rv y, rv b, iv 1] [])) _
    refine XS.aloadN X0.here hx rfl (hb hby own_d7_11) rfl rfl ?_
    show Steps p.tables e below (s₁.setTop (mkF m 12 #[rv a, rv y, rv b, iv 1] [(.ref b)])) _
    refine XS.iloadN X0.here hx rfl (hb hby own_d7_12) rfl ?_
    show Steps p.tables e below (s₁.setTop (mkF m 13 #[rv a, rv y, rv b, iv 1] [(.int 1), (.ref b)])) _
    refine XS.aloadN X0.here hx rfl (hb hby own_d7_13) rfl rfl ?_
    show Steps p.tables e below (s₁.setTop (mkF m 14 #[rv a, rv y, rv b, iv 1] [(.ref y), (.int 1), (.ref b)])) _
    refine st3 _ ?_
    show Steps p.tables e below (T3.setTop (mkF m 15 #[rv a, rv y, rv b, iv 1] [])) _
    refine XS.aloadN X3.here hx rfl (hb hby own_d7_15) rfl rfl ?_
    show Steps p.tables e below (T3.setTop (mkF m 16 #[rv a, rv y, rv b, iv 1] [(.ref a)])) _
    refine XS.iloadN X3.here hx rfl (hb hby own_d7_16) rfl ?_
    show Steps p.tables e below (T3.setTop (mkF m 17 #[rv a, rv y, rv b, iv 1] [(.int 1), (.ref a)])) _
    refine XS.iconst X3.here hx rfl (hb hby own_d7_17) ?_
    show Steps p.tables e below (T3.setTop (mkF m 18 #[rv a, rv y, rv b, iv 1] [(.int 1), (.int 1), (.ref a)])) _
    refine XS.iadd X3.here hx rfl (hb hby own_d7_18) rfl ?_
    show Steps p.tables e below (T3.setTop (mkF m 19 #[rv a, rv y, rv b, iv 1] [(.int ((1 : Int32) + (1 : Int32))), (.ref a)])) _
    refine own_top (v' := (.int 2)) (congrArg Value.int (by decide)) ?_
    show Steps p.tables e below (T3.setTop (mkF m 19 #[rv a, rv y, rv b, iv 1] [(.int 2), (.ref a)])) _
    refine st8 _ ?_
    show Steps p.tables e below (T8.setTop (mkF m 22 #[rv a, rv y, rv b, iv 1] [])) _
    exact X8.returnOut hx Bd.returns (hb hby own_d7_22) hr
  · show own_a3n1_Q Z w_DE k_DE w_CA a b kb y0 y mc h0 n0 _ T8.heap _
    rw [e8]
    exact ⟨rfl, N8, kp10, f11, f12, f13, Fw8, f14⟩
theorem own_an1_ef (m : MethodId) (a : Addr) (y : Addr) : entryFrame m #[(.ref a), (.ref y)] 2 = mkF m 0 #[rv a, rv y] [] := by first | (simp [entryFrame, mkF, argsToLocals, Value.category]; done) | rfl
def own_an1_Q (Z : State) (w_DE : Addr) (k_DE : ClassId) (w_CA : Addr) (a : Addr) (b : Addr) (kb : ClassId) (y0 : Addr) (y : Addr) (mc : Int32) (h0 : Heap) (n0 : Nat) (v : Option Value) (h : Heap) (L : List Loc) : Prop := v = some (.int 1) ∧ Fr n0 L ∧ Keep h0 h [a, b] ∧ Arv Z h b kb (.object "java/lang/Object") (10 : Int32) [(.ref y0), (.ref y), .null, .null, .null, .null, .null, .null, .null, .null] .null ∧ Exa Z h a "java/util/ArrayList" ∧ Fld Z h a "java/util/ArrayList" "elementData" "[Ljava/lang/Object;" (.ref b) ∧ Fld Z h a "java/util/ArrayList" "size" "I" (.int 2) ∧ Fld Z h a "java/util/AbstractList" "modCount" "I" (.int (mc + (1 : Int32)))
set_option maxRecDepth 65536 in
set_option maxHeartbeats 40000000 in
theorem own_an1 (l : Launch) (Z : State) (a0 : Array Value) (hw : ∀ d ∈ tables_1, d.before a0 Z = true) (ws : List Jvm.Cond) (w_DE : Addr) (k_DE : ClassId) (w_CA : Addr) (a : Addr) (b : Addr) (kb : ClassId) (y0 : Addr) (y : Addr) (mc : Int32) (h0 : Heap) (n0 : Nat) (O0 : Old Z n0 h0) (S_DE : Sta Z Z.heap "java/util/ArrayList" "DEFAULTCAPACITY_EMPTY_ELEMENTDATA" "[Ljava/lang/Object;" (.ref w_DE)) (V_DE : Arv Z Z.heap w_DE k_DE (.object "java/lang/Object") (0 : Int32) [] .null) (S_CA : Sta Z Z.heap "java/lang/Long$LongCache" "cache" "[Ljava/lang/Long;" (.ref w_CA)) (H_CA : own_Cache Z w_CA) (g_a : n0 ≤ a) (E_a : Exa Z h0 a "java/util/ArrayList") (F_elementData : Fld Z h0 a "java/util/ArrayList" "elementData" "[Ljava/lang/Object;" (.ref b)) (F_size : Fld Z h0 a "java/util/ArrayList" "size" "I" (.int 1)) (F_modCount : Fld Z h0 a "java/util/AbstractList" "modCount" "I" (.int mc)) (E_y : Exa Z h0 y "java/lang/Long") (g_b : n0 ≤ b) (nba : b ≠ a) (O_b : Ovr Z kb "java/lang/Object") (V_b : Arv Z h0 b kb (.object "java/lang/Object") (10 : Int32) [(.ref y0), .null, .null, .null, .null, .null, .null, .null, .null, .null] .null) :
    MetFree l (⟨"java/util/ArrayList", "add", "(Ljava/lang/Object;)Z"⟩ : MethodName) (head1 (Jvm.Cond.code (⟨"java/util/ArrayList", "add", "(Ljava/lang/Object;)Z"⟩ : MethodName) jdk_38_method_25_code 2 (some .boolean) :: ws) ({ frames := 1, cells := 0, slots := 0, locals := 15 } : Room)) (fun ar U => ar = #[(.ref a), (.ref y)] ∧ Z.Warmed39 U.vm ∧ U.heap = h0) (fun _ _ _ _ _ => True) (fun _ U oc U' => ∃ v L, oc = .returned v ∧ own_an1_Q Z w_DE k_DE w_CA a b kb y0 y mc h0 n0 v U'.heap L ∧ FrameEnd U oc U' L ({ frames := 1, cells := 0, slots := 0, locals := 15 } : Room).cells ({ frames := 1, cells := 0, slots := 0, locals := 15 } : Room).slots) := by
  refine MetFree.of_bodySF (plainFor_of_name own_pn4) hisR ?_
  intro p e s m args below meth c s₁ Bd hml0 hP hK
  obtain ⟨rfl, hZ, hh⟩ := hP
  have hx := Bd.exec
  have hby := Bd.bytes
  have hml : c.maxLocals = 2 := hml0
  have hown : s.vm.findClass "java/util/ArrayList" = some m.cls := findClass_of_methodNamed Bd.named
  have hnm := (name_of_methodNamed Bd.named Bd.method).1
  have X0 : Stand p l e ({ frames := 1, cells := 0, slots := 0, locals := 15 } : Room) s m #[(.ref a), (.ref y)] below meth c s₁ [] 0 0 := Stand.of_body Bd
  have e0 : s₁.heap = h0 := by rw [← hh, Bd.state]; rfl
  have N0 := Fr.nil n0
  have pre0 : ∀ t, Steps p.tables e below (s₁.setTop (mkF m 0 #[rv a, rv y] [])) t → Steps p.tables e below (s₁.setTop (entryFrame m #[(.ref a), (.ref y)] 2)) t := fun t k => castTop (own_an1_ef m a y) k
  have kp0 := Keep.refl h0 ([a, b] : List Addr)
  obtain ⟨T1, X1, e1, st1⟩ := getF X0 hx hZ hown (host := "") (Or.inl (hw _ (own_m 39 rfl))) (Via.of (hw _ (own_m 40 rfl))) e0 F_modCount (g := (mkF m 2 #[rv a, rv y] [(.ref a), (.ref a)])) rfl rfl (hb hby own_d6_2)
  obtain ⟨T2, h2, X2, e2, W2, st2⟩ := putF X1 hx hZ hown (host := "") (Or.inl (hw _ (own_m 39 rfl))) (Via.of (hw _ (own_m 40 rfl))) e1 F_modCount E_a (Or.inl (hw _ (own_m 22 rfl))) (hw _ (own_m 1 rfl)) (ty := .int) (by decide) rfl rfl (g := (mkF m 7 #[rv a, rv y] [(.int (mc + (1 : Int32))), (.ref a)])) rfl rfl (hb hby own_d6_7)
  have Fw2 := F_modCount.same W2
  have O3 := O0.wr W2 g_a
  have kp4 := kp0.wr W2 (Or.inl (own_m 0 rfl))
  have N2 := Fr.snoc X2 N0 g_a
  have f5 := (F_elementData.other W2 (Or.inr (slot_ne (Or.inl (hw _ (own_m 25 rfl))) (Or.inl (hw _ (own_m 22 rfl))) (by decide) (t := (.array (.object "java/lang/Object"))) (t' := .int) (by decide) (by decide))))
  obtain ⟨T6, X6, e6, st6⟩ := getF X2 hx hZ hown (host := "") (Or.inl (hw _ (own_m 24 rfl))) Via.refl e2 f5 (g := (mkF m 13 #[rv a, rv y] [(.ref a), (.ref y), (.ref a)])) rfl rfl (hb hby own_d6_13)
  have f7 := (F_size.other W2 (Or.inr (slot_ne (Or.inl (hw _ (own_m 42 rfl))) (Or.inl (hw _ (own_m 22 rfl))) (by decide) (t := .int) (t' := .int) (by decide) (by decide))))
  obtain ⟨T8, X8, e8, st8⟩ := getF X6 hx hZ hown (host := "") (Or.inl (hw _ (own_m 41 rfl))) Via.refl e6 f7 (g := (mkF m 17 #[rv a, rv y] [(.ref a), (.ref b), (.ref y), (.ref a)])) rfl rfl (hb hby own_d6_17)
  have f9 := (E_a.wr W2)
  have f10 := (E_y.wr W2)
  have f11 := (V_b.other W2 nba)
  obtain ⟨cq12, q12, q12'⟩ := f9.cell
  obtain ⟨_, _, ⟨T12, L12, k12, n12⟩, -, X12, ⟨Lc12, hQ12, l12, y12, z12⟩, st12⟩ := X8.privateBack hx (y := (⟨"java/util/ArrayList", "add", "(Ljava/lang/Object;[Ljava/lang/Object;I)V"⟩ : MethodName)) hown (mvT hZ (hw _ (own_m 43 rfl))) (mvT hZ (hw _ (own_m 44 rfl))) (mvT hZ (hw _ (own_m 46 rfl))) (Cond.privateMethod_at (mvP hZ (hw _ (own_m 45 rfl)) (args := #[]))) (mvT hZ (hw _ (own_m 47 rfl))) (by decide) (backOf (W := 0) (own_a3n1 l Z a0 hw [] w_DE k_DE w_CA a b kb y0 y (mc + (1 : Int32)) h2 n0 O3 S_DE V_DE S_CA H_CA g_a f9 f5 f7 Fw2 f10 g_b nba O_b f11) hZ (hw _ (own_m 47 rfl)) (hw _ (own_m 2 rfl)) (by decide) (by decide)) (g := (mkF m 20 #[rv a, rv y] [(.int 1), (.ref b), (.ref y), (.ref a)])) rfl (by rw [hml]; rfl) (Steps.refl _) (a := a) (by rw [e8]; exact q12) q12' (argsL := [(.ref y), (.ref b), (.int 1)]) (rest := []) (lenOf own_pd5 rfl) rfl (by show 2 * 0 + _ ≤ _; exact Nat.le_of_eq rfl) (hb hby own_d6_20) (fun _ _ => ⟨rfl, e8, (by decide : 0 + 0 ≤ _), (by decide : 0 + 0 ≤ _)⟩)
  dsimp only [Pt.U, Pt.locs, Pt.cells, Pt.slots] at X12 l12 y12 z12 st12 hQ12
  subst l12 y12 z12
  obtain ⟨rfl, N12q, K12, q13, q14, q15, q16, q17⟩ := hQ12
  have N12 := Fr.app N2 N12q
  have O18 := O3.keep K12 (allS g_a (allS g_b all0))
  have kp19 := kp4.trans K12 ((allS (P := fun x => x ∈ ([a, b] : List Addr) ∨ h0.size ≤ x) (Or.inl (own_m 0 rfl)) (allS (P := fun x => x ∈ ([a, b] : List Addr) ∨ h0.size ≤ x) (Or.inl (own_m 1 rfl)) all0)))
  obtain ⟨fs, hr, hrun, hended, hW, hsame⟩ := X12.leave (v := some (.int 1)) (fun h => by rw [Bd.returns] at h; cases h)
  refine ⟨_, _, pre0 _ ?_, hrun, hended, _, _, rfl, ?_, ⟨_, rfl⟩, hW, hsame.mono (by decide) (by decide)⟩
  · show Steps p.tables e below (s₁.setTop (mkF m 0 #[rv a, rv y] [])) _
    refine XS.aloadN X0.here hx rfl (hb hby own_d6_0) rfl rfl ?_
    show Steps p.tables e below (s₁.setTop (mkF m 1 #[rv a, rv y] [(.ref a)])) _
    refine XS.dup X0.here hx rfl (hb hby own_d6_1) rfl rfl ?_
    show Steps p.tables e below (s₁.setTop (mkF m 2 #[rv a, rv y] [(.ref a), (.ref a)])) _
    refine st1 _ ?_
    show Steps p.tables e below (T1.setTop (mkF m 5 #[rv a, rv y] [(.int mc), (.ref a)])) _
    refine XS.iconst X1.here hx rfl (hb hby own_d6_5) ?_
    show Steps p.tables e below (T1.setTop (mkF m 6 #[rv a, rv y] [(.int 1), (.int mc), (.ref a)])) _
    refine XS.iadd X1.here hx rfl (hb hby own_d6_6) rfl ?_
    show Steps p.tables e below (T1.setTop (mkF m 7 #[rv a, rv y] [(.int (mc + (1 : Int32))), (.ref a)])) _
    refine st2 _ ?_
    show Steps p.tables e below (T2.setTop (mkF m 10 #[rv a, rv y] [])) _
    refine XS.aloadN X2.here hx rfl (hb hby own_d6_10) rfl rfl ?_
    show Steps p.tables e below (T2.setTop (mkF m 11 #[rv a, rv y] [(.ref a)])) _
    refine XS.aloadN X2.here hx rfl (hb hby own_d6_11) rfl rfl ?_
    show Steps p.tables e below (T2.setTop (mkF m 12 #[rv a, rv y] [(.ref y), (.ref a)])) _
    refine XS.aloadN X2.here hx rfl (hb hby own_d6_12) rfl rfl ?_
    show Steps p.tables e below (T2.setTop (mkF m 13 #[rv a, rv y] [(.ref a), (.ref y), (.ref a)])) _
    refine st6 _ ?_
    show Steps p.tables e below (T6.setTop (mkF m 16 #[rv a, rv y] [(.ref b), (.ref y), (.ref a)])) _
    refine XS.aloadN X6.here hx rfl (hb hby own_d6_16) rfl rfl ?_
    show Steps p.tables e below (T6.setTop (mkF m 17 #[rv a, rv y] [(.ref a), (.ref b), (.ref y), (.ref a)])) _
    refine st8 _ ?_
    show Steps p.tables e below (T8.setTop (mkF m 20 #[rv a, rv y] [(.int 1), (.ref b), (.ref y), (.ref a)])) _
    refine st12.trans ?_
    show Steps p.tables e below (T12.setTop (mkF m 23 #[rv a, rv y] [])) _
    refine XS.iconst X12.here hx rfl (hb hby own_d6_23) ?_
    show Steps p.tables e below (T12.setTop (mkF m 24 #[rv a, rv y] [(.int 1)])) _
    exact retN X12 hx (t := .boolean) Bd.returns (by simp) (hb hby own_d6_24) hr
  · show own_an1_Q Z w_DE k_DE w_CA a b kb y0 y mc h0 n0 _ T12.heap _
    exact ⟨rfl, N12, kp19, q13, q14, q15, q16, q17⟩
theorem own_a3n2_ef (m : MethodId) (a : Addr) (b : Addr) (y : Addr) : entryFrame m #[(.ref a), (.ref y), (.ref b), (.int 2)] 4 = mkF m 0 #[rv a, rv y, rv b, iv 2] [] := by first | (simp [entryFrame, mkF, argsToLocals, Value.category]; done) | rfl
def own_a3n2_Q (Z : State) (w_DE : Addr) (k_DE : ClassId) (w_CA : Addr) (a : Addr) (b : Addr) (kb : ClassId) (y0 : Addr) (y1 : Addr) (y : Addr) (mc : Int32) (h0 : Heap) (n0 : Nat) (v : Option Value) (h : Heap) (L : List Loc) : Prop := v = none ∧ Fr n0 L ∧ Keep h0 h [a, b] ∧ Arv Z h b kb (.object "java/lang/Object") (10 : Int32) [(.ref y0), (.ref y1), (.ref y), .null, .null, .null, .null, .null, .null, .null] .null ∧ Exa Z h a "java/util/ArrayList" ∧ Fld Z h a "java/util/ArrayList" "elementData" "[Ljava/lang/Object;" (.ref b) ∧ Fld Z h a "java/util/ArrayList" "size" "I" (.int 3) ∧ Fld Z h a "java/util/AbstractList" "modCount" "I" (.int mc)
set_option maxRecDepth 65536 in
set_option maxHeartbeats 40000000 in
theorem own_a3n2 (l : Launch) (Z : State) (a0 : Array Value) (hw : ∀ d ∈ tables_1, d.before a0 Z = true) (ws : List Jvm.Cond) (w_DE : Addr) (k_DE : ClassId) (w_CA : Addr) (a : Addr) (b : Addr) (kb : ClassId) (y0 : Addr) (y1 : Addr) (y : Addr) (mc : Int32) (h0 : Heap) (n0 : Nat) (O0 : Old Z n0 h0) (S_DE : Sta Z Z.heap "java/util/ArrayList" "DEFAULTCAPACITY_EMPTY_ELEMENTDATA" "[Ljava/lang/Object;" (.ref w_DE)) (V_DE : Arv Z Z.heap w_DE k_DE (.object "java/lang/Object") (0 : Int32) [] .null) (S_CA : Sta Z Z.heap "java/lang/Long$LongCache" "cache" "[Ljava/lang/Long;" (.ref w_CA)) (H_CA : own_Cache Z w_CA) (g_a : n0 ≤ a) (E_a : Exa Z h0 a "java/util/ArrayList") (F_elementData : Fld Z h0 a "java/util/ArrayList" "elementData" "[Ljava/lang/Object;" (.ref b)) (F_size : Fld Z h0 a "java/util/ArrayList" "size" "I" (.int 2)) (F_modCount : Fld Z h0 a "java/util/AbstractList" "modCount" "I" (.int mc)) (E_y : Exa Z h0 y "java/lang/Long") (g_b : n0 ≤ b) (nba : b ≠ a) (O_b : Ovr Z kb "java/lang/Object") (V_b : Arv Z h0 b kb (.object "java/lang/Object") (10 : Int32) [(.ref y0), (.ref y1), .null, .null, .null, .null, .null, .null, .null, .null] .null) :
    MetFree l (⟨"java/util/ArrayList", "add", "(Ljava/lang/Object;[Ljava/lang/Object;I)V"⟩ : MethodName) (head1 (Jvm.Cond.code (⟨"java/util/ArrayList", "add", "(Ljava/lang/Object;[Ljava/lang/Object;I)V"⟩ : MethodName) jdk_38_method_24_code 4 none :: ws) ({ frames := 0, cells := 0, slots := 0, locals := 0 } : Room)) (fun ar U => ar = #[(.ref a), (.ref y), (.ref b), (.int 2)] ∧ Z.Warmed39 U.vm ∧ U.heap = h0) (fun _ _ _ _ _ => True) (fun _ U oc U' => ∃ v L, oc = .returned v ∧ own_a3n2_Q Z w_DE k_DE w_CA a b kb y0 y1 y mc h0 n0 v U'.heap L ∧ FrameEnd U oc U' L ({ frames := 0, cells := 0, slots := 0, locals := 0 } : Room).cells ({ frames := 0, cells := 0, slots := 0, locals := 0 } : Room).slots) := by
  refine MetFree.of_bodySF (plainFor_of_name own_pn4) hisR ?_
  intro p e s m args below meth c s₁ Bd hml0 hP hK
  obtain ⟨rfl, hZ, hh⟩ := hP
  have hx := Bd.exec
  have hby := Bd.bytes
  have hml : c.maxLocals = 4 := hml0
  have hown : s.vm.findClass "java/util/ArrayList" = some m.cls := findClass_of_methodNamed Bd.named
  have hnm := (name_of_methodNamed Bd.named Bd.method).1
  have X0 : Stand p l e ({ frames := 0, cells := 0, slots := 0, locals := 0 } : Room) s m #[(.ref a), (.ref y), (.ref b), (.int 2)] below meth c s₁ [] 0 0 := Stand.of_body Bd
  have e0 : s₁.heap = h0 := by rw [← hh, Bd.state]; rfl
  have N0 := Fr.nil n0
  have pre0 : ∀ t, Steps p.tables e below (s₁.setTop (mkF m 0 #[rv a, rv y, rv b, iv 2] [])) t → Steps p.tables e below (s₁.setTop (entryFrame m #[(.ref a), (.ref y), (.ref b), (.int 2)] 4)) t := fun t k => castTop (own_a3n2_ef m a b y) k
  have kp0 := Keep.refl h0 ([a, b] : List Addr)
  obtain ⟨c1, c1A, c1q, c1S, c1N, c1H, c1G⟩ := id V_b
  obtain ⟨c2, c2A, c2q, c2S, c2N, c2H, c2G⟩ := id V_b
  have c2in : ¬ ((2 : Int32) < 0 ∨ c2.slots.size ≤ ((2 : Int32)).toNatClampNeg) := inb_of c2S ⟨by decide, by decide⟩
  obtain ⟨T3, h3, X3, e3, W3, st3⟩ := stR X0 hx hZ e0 c2A (j := (2 : Int32)) c2in rfl (Sto.ofV c2A c2q O_b (Ins.of_exa E_y (hw _ (own_m 64 rfl)))) (g := (mkF m 14 #[rv a, rv y, rv b, iv 2] [(.ref y), (.int 2), (.ref b)])) rfl rfl (hb hby own_d7_14)
  have V3 : Arv Z h3 b kb (.object "java/lang/Object") (10 : Int32) [(.ref y0), (.ref y1), (.ref y), .null, .null, .null, .null, .null, .null, .null] .null := Arv.set c2A c2q c2S c2N c2H c2G rfl W3 2 rfl (Nat.le_of_ble_eq_true rfl)
  have O4 := O0.wr W3 g_b
  have kp5 := kp0.wr W3 (Or.inl (own_m 1 rfl))
  have N3 := Fr.snoc X3 N0 g_b
  have f6 := (F_size.other W3 (Or.inl (Ne.symm nba)))
  have f7 := (E_a.wr W3)
  obtain ⟨T8, h8, X8, e8, W8, st8⟩ := putF X3 hx hZ hown (host := "") (Or.inl (hw _ (own_m 41 rfl))) Via.refl e3 f6 f7 (Or.inl (hw _ (own_m 42 rfl))) (hw _ (own_m 1 rfl)) (ty := .int) (by decide) rfl rfl (g := (mkF m 19 #[rv a, rv y, rv b, iv 2] [(.int 3), (.ref a)])) rfl rfl (hb hby own_d7_19)
  have Fw8 := f6.same W8
  have O9 := O4.wr W8 g_a
  have kp10 := kp5.wr W8 (Or.inl (own_m 0 rfl))
  have N8 := Fr.snoc X8 N3 g_a
  have f11 := (V3.other W8 nba)
  have f12 := (f7.wr W8)
  have f13 := ((F_elementData.other W3 (Or.inl (Ne.symm nba))).other W8 (Or.inr (slot_ne (Or.inl (hw _ (own_m 25 rfl))) (Or.inl (hw _ (own_m 42 rfl))) (by decide) (t := (.array (.object "java/lang/Object"))) (t' := .int) (by decide) (by decide))))
  have f14 := ((F_modCount.other W3 (Or.inl (Ne.symm nba))).other W8 (Or.inr (slot_ne (Or.inl (hw _ (own_m 22 rfl))) (Or.inl (hw _ (own_m 42 rfl))) (by decide) (t := .int) (t' := .int) (by decide) (by decide))))
  obtain ⟨fs, hr, hrun, hended, hW, hsame⟩ := X8.leave (v := none) (fun _ => rfl)
  refine ⟨_, _, pre0 _ ?_, hrun, hended, _, _, rfl, ?_, ⟨_, rfl⟩, hW, hsame.mono (by decide) (by decide)⟩
  · show Steps p.tables e below (s₁.setTop (mkF m 0 #[rv a, rv y, rv b, iv 2] [])) _
    refine XS.iloadN X0.here hx rfl (hb hby own_d7_0) rfl ?_
    show Steps p.tables e below (s₁.setTop (mkF m 1 #[rv a, rv y, rv b, iv 2] [(.int 2)])) _
    refine XS.aloadN X0.here hx rfl (hb hby own_d7_1) rfl rfl ?_
    show Steps p.tables e below (s₁.setTop (mkF m 2 #[rv a, rv y, rv b, iv 2] [(.ref b), (.int 2)])) _
    refine X0.arraylength hx (by rw [e0]; exact c1A.1) (State.isArrayOf_alike hZ.alike c1A.2.1) (g := (mkF m 2 #[rv a, rv y, rv b, iv 2] [(.ref b), (.int 2)])) rfl rfl (hb hby own_d7_2) _ ?_
    rw [len_of c1S c1N]
    show Steps p.tables e below (s₁.setTop (mkF m 3 #[rv a, rv y, rv b, iv 2] [(.int 10), (.int 2)])) _
    refine XS.icmpYes X0.here hx rfl (pc0 := 3) (pc' := 11) rfl (hb hby own_d7_3) rfl (feq (by decide)).2 (by decide) (by decide) ?_
    show Steps p.tables e below (s₁.setTop (mkF m 11 #[rv a, rv y, rv b, iv 2] [])) _
    refine XS.aloadN X0.here hx rfl (hb hby own_d7_11) rfl rfl ?_
    show Steps p.tables e below (s₁.setTop (mkF m 12 #[rv a, rv y, rv b, iv 2] [(.ref b)])) _
    refine XS.iloadN X0.here hx rfl (hb hby own_d7_12) rfl ?_
    show Steps p.tables e below (s₁.setTop (mkF m 13 #[rv a, rv y, rv b, iv 2] [(.int 2), (.ref b)])) _
    refine XS.aloadN X0.here hx rfl (hb hby own_d7_13) rfl rfl ?_
    show Steps p.tables e below (s₁.setTop (mkF m 14 #[rv a, rv y, rv b, iv 2] [(.ref y), (.int 2), (.ref b)])) _
    refine st3 _ ?_
    show Steps p.tables e below (T3.setTop (mkF m 15 #[rv a, rv y, rv b, iv 2] [])) _
    refine XS.aloadN X3.here hx rfl (hb hby own_d7_15) rfl rfl ?_
    show Steps p.tables e below (T3.setTop (mkF m 16 #[rv a, rv y, rv b, iv 2] [(.ref a)])) _
    refine XS.iloadN X3.here hx rfl (hb hby own_d7_16) rfl ?_
    show Steps p.tables e below (T3.setTop (mkF m 17 #[rv a, rv y, rv b, iv 2] [(.int 2), (.ref a)])) _
    refine XS.iconst X3.here hx rfl (hb hby own_d7_17) ?_
    show Steps p.tables e below (T3.setTop (mkF m 18 #[rv a, rv y, rv b, iv 2] [(.int 1), (.int 2), (.ref a)])) _
    refine XS.iadd X3.here hx rfl (hb hby own_d7_18) rfl ?_
    show Steps p.tables e below (T3.setTop (mkF m 19 #[rv a, rv y, rv b, iv 2] [(.int ((2 : Int32) + (1 : Int32))), (.ref a)])) _
    refine own_top (v' := (.int 3)) (congrArg Value.int (by decide)) ?_
    show Steps p.tables e below (T3.setTop (mkF m 19 #[rv a, rv y, rv b, iv 2] [(.int 3), (.ref a)])) _
    refine st8 _ ?_
    show Steps p.tables e below (T8.setTop (mkF m 22 #[rv a, rv y, rv b, iv 2] [])) _
    exact X8.returnOut hx Bd.returns (hb hby own_d7_22) hr
  · show own_a3n2_Q Z w_DE k_DE w_CA a b kb y0 y1 y mc h0 n0 _ T8.heap _
    rw [e8]
    exact ⟨rfl, N8, kp10, f11, f12, f13, Fw8, f14⟩
theorem own_an2_ef (m : MethodId) (a : Addr) (y : Addr) : entryFrame m #[(.ref a), (.ref y)] 2 = mkF m 0 #[rv a, rv y] [] := by first | (simp [entryFrame, mkF, argsToLocals, Value.category]; done) | rfl
def own_an2_Q (Z : State) (w_DE : Addr) (k_DE : ClassId) (w_CA : Addr) (a : Addr) (b : Addr) (kb : ClassId) (y0 : Addr) (y1 : Addr) (y : Addr) (mc : Int32) (h0 : Heap) (n0 : Nat) (v : Option Value) (h : Heap) (L : List Loc) : Prop := v = some (.int 1) ∧ Fr n0 L ∧ Keep h0 h [a, b] ∧ Arv Z h b kb (.object "java/lang/Object") (10 : Int32) [(.ref y0), (.ref y1), (.ref y), .null, .null, .null, .null, .null, .null, .null] .null ∧ Exa Z h a "java/util/ArrayList" ∧ Fld Z h a "java/util/ArrayList" "elementData" "[Ljava/lang/Object;" (.ref b) ∧ Fld Z h a "java/util/ArrayList" "size" "I" (.int 3) ∧ Fld Z h a "java/util/AbstractList" "modCount" "I" (.int (mc + (1 : Int32)))
set_option maxRecDepth 65536 in
set_option maxHeartbeats 40000000 in
theorem own_an2 (l : Launch) (Z : State) (a0 : Array Value) (hw : ∀ d ∈ tables_1, d.before a0 Z = true) (ws : List Jvm.Cond) (w_DE : Addr) (k_DE : ClassId) (w_CA : Addr) (a : Addr) (b : Addr) (kb : ClassId) (y0 : Addr) (y1 : Addr) (y : Addr) (mc : Int32) (h0 : Heap) (n0 : Nat) (O0 : Old Z n0 h0) (S_DE : Sta Z Z.heap "java/util/ArrayList" "DEFAULTCAPACITY_EMPTY_ELEMENTDATA" "[Ljava/lang/Object;" (.ref w_DE)) (V_DE : Arv Z Z.heap w_DE k_DE (.object "java/lang/Object") (0 : Int32) [] .null) (S_CA : Sta Z Z.heap "java/lang/Long$LongCache" "cache" "[Ljava/lang/Long;" (.ref w_CA)) (H_CA : own_Cache Z w_CA) (g_a : n0 ≤ a) (E_a : Exa Z h0 a "java/util/ArrayList") (F_elementData : Fld Z h0 a "java/util/ArrayList" "elementData" "[Ljava/lang/Object;" (.ref b)) (F_size : Fld Z h0 a "java/util/ArrayList" "size" "I" (.int 2)) (F_modCount : Fld Z h0 a "java/util/AbstractList" "modCount" "I" (.int mc)) (E_y : Exa Z h0 y "java/lang/Long") (g_b : n0 ≤ b) (nba : b ≠ a) (O_b : Ovr Z kb "java/lang/Object") (V_b : Arv Z h0 b kb (.object "java/lang/Object") (10 : Int32) [(.ref y0), (.ref y1), .null, .null, .null, .null, .null, .null, .null, .null] .null) :
    MetFree l (⟨"java/util/ArrayList", "add", "(Ljava/lang/Object;)Z"⟩ : MethodName) (head1 (Jvm.Cond.code (⟨"java/util/ArrayList", "add", "(Ljava/lang/Object;)Z"⟩ : MethodName) jdk_38_method_25_code 2 (some .boolean) :: ws) ({ frames := 1, cells := 0, slots := 0, locals := 15 } : Room)) (fun ar U => ar = #[(.ref a), (.ref y)] ∧ Z.Warmed39 U.vm ∧ U.heap = h0) (fun _ _ _ _ _ => True) (fun _ U oc U' => ∃ v L, oc = .returned v ∧ own_an2_Q Z w_DE k_DE w_CA a b kb y0 y1 y mc h0 n0 v U'.heap L ∧ FrameEnd U oc U' L ({ frames := 1, cells := 0, slots := 0, locals := 15 } : Room).cells ({ frames := 1, cells := 0, slots := 0, locals := 15 } : Room).slots) := by
  refine MetFree.of_bodySF (plainFor_of_name own_pn4) hisR ?_
  intro p e s m args below meth c s₁ Bd hml0 hP hK
  obtain ⟨rfl, hZ, hh⟩ := hP
  have hx := Bd.exec
  have hby := Bd.bytes
  have hml : c.maxLocals = 2 := hml0
  have hown : s.vm.findClass "java/util/ArrayList" = some m.cls := findClass_of_methodNamed Bd.named
  have hnm := (name_of_methodNamed Bd.named Bd.method).1
  have X0 : Stand p l e ({ frames := 1, cells := 0, slots := 0, locals := 15 } : Room) s m #[(.ref a), (.ref y)] below meth c s₁ [] 0 0 := Stand.of_body Bd
  have e0 : s₁.heap = h0 := by rw [← hh, Bd.state]; rfl
  have N0 := Fr.nil n0
  have pre0 : ∀ t, Steps p.tables e below (s₁.setTop (mkF m 0 #[rv a, rv y] [])) t → Steps p.tables e below (s₁.setTop (entryFrame m #[(.ref a), (.ref y)] 2)) t := fun t k => castTop (own_an2_ef m a y) k
  have kp0 := Keep.refl h0 ([a, b] : List Addr)
  obtain ⟨T1, X1, e1, st1⟩ := getF X0 hx hZ hown (host := "") (Or.inl (hw _ (own_m 39 rfl))) (Via.of (hw _ (own_m 40 rfl))) e0 F_modCount (g := (mkF m 2 #[rv a, rv y] [(.ref a), (.ref a)])) rfl rfl (hb hby own_d6_2)
  obtain ⟨T2, h2, X2, e2, W2, st2⟩ := putF X1 hx hZ hown (host := "") (Or.inl (hw _ (own_m 39 rfl))) (Via.of (hw _ (own_m 40 rfl))) e1 F_modCount E_a (Or.inl (hw _ (own_m 22 rfl))) (hw _ (own_m 1 rfl)) (ty := .int) (by decide) rfl rfl (g := (mkF m 7 #[rv a, rv y] [(.int (mc + (1 : Int32))), (.ref a)])) rfl rfl (hb hby own_d6_7)
  have Fw2 := F_modCount.same W2
  have O3 := O0.wr W2 g_a
  have kp4 := kp0.wr W2 (Or.inl (own_m 0 rfl))
  have N2 := Fr.snoc X2 N0 g_a
  have f5 := (F_elementData.other W2 (Or.inr (slot_ne (Or.inl (hw _ (own_m 25 rfl))) (Or.inl (hw _ (own_m 22 rfl))) (by decide) (t := (.array (.object "java/lang/Object"))) (t' := .int) (by decide) (by decide))))
  obtain ⟨T6, X6, e6, st6⟩ := getF X2 hx hZ hown (host := "") (Or.inl (hw _ (own_m 24 rfl))) Via.refl e2 f5 (g := (mkF m 13 #[rv a, rv y] [(.ref a), (.ref y), (.ref a)])) rfl rfl (hb hby own_d6_13)
  have f7 := (F_size.other W2 (Or.inr (slot_ne (Or.inl (hw _ (own_m 42 rfl))) (Or.inl (hw _ (own_m 22 rfl))) (by decide) (t := .int) (t' := .int) (by decide) (by decide))))
  obtain ⟨T8, X8, e8, st8⟩ := getF X6 hx hZ hown (host := "") (Or.inl (hw _ (own_m 41 rfl))) Via.refl e6 f7 (g := (mkF m 17 #[rv a, rv y] [(.ref a), (.ref b), (.ref y), (.ref a)])) rfl rfl (hb hby own_d6_17)
  have f9 := (E_a.wr W2)
  have f10 := (E_y.wr W2)
  have f11 := (V_b.other W2 nba)
  obtain ⟨cq12, q12, q12'⟩ := f9.cell
  obtain ⟨_, _, ⟨T12, L12, k12, n12⟩, -, X12, ⟨Lc12, hQ12, l12, y12, z12⟩, st12⟩ := X8.privateBack hx (y := (⟨"java/util/ArrayList", "add", "(Ljava/lang/Object;[Ljava/lang/Object;I)V"⟩ : MethodName)) hown (mvT hZ (hw _ (own_m 43 rfl))) (mvT hZ (hw _ (own_m 44 rfl))) (mvT hZ (hw _ (own_m 46 rfl))) (Cond.privateMethod_at (mvP hZ (hw _ (own_m 45 rfl)) (args := #[]))) (mvT hZ (hw _ (own_m 47 rfl))) (by decide) (backOf (W := 0) (own_a3n2 l Z a0 hw [] w_DE k_DE w_CA a b kb y0 y1 y (mc + (1 : Int32)) h2 n0 O3 S_DE V_DE S_CA H_CA g_a f9 f5 f7 Fw2 f10 g_b nba O_b f11) hZ (hw _ (own_m 47 rfl)) (hw _ (own_m 2 rfl)) (by decide) (by decide)) (g := (mkF m 20 #[rv a, rv y] [(.int 2), (.ref b), (.ref y), (.ref a)])) rfl (by rw [hml]; rfl) (Steps.refl _) (a := a) (by rw [e8]; exact q12) q12' (argsL := [(.ref y), (.ref b), (.int 2)]) (rest := []) (lenOf own_pd5 rfl) rfl (by show 2 * 0 + _ ≤ _; exact Nat.le_of_eq rfl) (hb hby own_d6_20) (fun _ _ => ⟨rfl, e8, (by decide : 0 + 0 ≤ _), (by decide : 0 + 0 ≤ _)⟩)
  dsimp only [Pt.U, Pt.locs, Pt.cells, Pt.slots] at X12 l12 y12 z12 st12 hQ12
  subst l12 y12 z12
  obtain ⟨rfl, N12q, K12, q13, q14, q15, q16, q17⟩ := hQ12
  have N12 := Fr.app N2 N12q
  have O18 := O3.keep K12 (allS g_a (allS g_b all0))
  have kp19 := kp4.trans K12 ((allS (P := fun x => x ∈ ([a, b] : List Addr) ∨ h0.size ≤ x) (Or.inl (own_m 0 rfl)) (allS (P := fun x => x ∈ ([a, b] : List Addr) ∨ h0.size ≤ x) (Or.inl (own_m 1 rfl)) all0)))
  obtain ⟨fs, hr, hrun, hended, hW, hsame⟩ := X12.leave (v := some (.int 1)) (fun h => by rw [Bd.returns] at h; cases h)
  refine ⟨_, _, pre0 _ ?_, hrun, hended, _, _, rfl, ?_, ⟨_, rfl⟩, hW, hsame.mono (by decide) (by decide)⟩
  · show Steps p.tables e below (s₁.setTop (mkF m 0 #[rv a, rv y] [])) _
    refine XS.aloadN X0.here hx rfl (hb hby own_d6_0) rfl rfl ?_
    show Steps p.tables e below (s₁.setTop (mkF m 1 #[rv a, rv y] [(.ref a)])) _
    refine XS.dup X0.here hx rfl (hb hby own_d6_1) rfl rfl ?_
    show Steps p.tables e below (s₁.setTop (mkF m 2 #[rv a, rv y] [(.ref a), (.ref a)])) _
    refine st1 _ ?_
    show Steps p.tables e below (T1.setTop (mkF m 5 #[rv a, rv y] [(.int mc), (.ref a)])) _
    refine XS.iconst X1.here hx rfl (hb hby own_d6_5) ?_
    show Steps p.tables e below (T1.setTop (mkF m 6 #[rv a, rv y] [(.int 1), (.int mc), (.ref a)])) _
    refine XS.iadd X1.here hx rfl (hb hby own_d6_6) rfl ?_
    show Steps p.tables e below (T1.setTop (mkF m 7 #[rv a, rv y] [(.int (mc + (1 : Int32))), (.ref a)])) _
    refine st2 _ ?_
    show Steps p.tables e below (T2.setTop (mkF m 10 #[rv a, rv y] [])) _
    refine XS.aloadN X2.here hx rfl (hb hby own_d6_10) rfl rfl ?_
    show Steps p.tables e below (T2.setTop (mkF m 11 #[rv a, rv y] [(.ref a)])) _
    refine XS.aloadN X2.here hx rfl (hb hby own_d6_11) rfl rfl ?_
    show Steps p.tables e below (T2.setTop (mkF m 12 #[rv a, rv y] [(.ref y), (.ref a)])) _
    refine XS.aloadN X2.here hx rfl (hb hby own_d6_12) rfl rfl ?_
    show Steps p.tables e below (T2.setTop (mkF m 13 #[rv a, rv y] [(.ref a), (.ref y), (.ref a)])) _
    refine st6 _ ?_
    show Steps p.tables e below (T6.setTop (mkF m 16 #[rv a, rv y] [(.ref b), (.ref y), (.ref a)])) _
    refine XS.aloadN X6.here hx rfl (hb hby own_d6_16) rfl rfl ?_
    show Steps p.tables e below (T6.setTop (mkF m 17 #[rv a, rv y] [(.ref a), (.ref b), (.ref y), (.ref a)])) _
    refine st8 _ ?_
    show Steps p.tables e below (T8.setTop (mkF m 20 #[rv a, rv y] [(.int 2), (.ref b), (.ref y), (.ref a)])) _
    refine st12.trans ?_
    show Steps p.tables e below (T12.setTop (mkF m 23 #[rv a, rv y] [])) _
    refine XS.iconst X12.here hx rfl (hb hby own_d6_23) ?_
    show Steps p.tables e below (T12.setTop (mkF m 24 #[rv a, rv y] [(.int 1)])) _
    exact retN X12 hx (t := .boolean) Bd.returns (by simp) (hb hby own_d6_24) hr
  · show own_an2_Q Z w_DE k_DE w_CA a b kb y0 y1 y mc h0 n0 _ T12.heap _
    exact ⟨rfl, N12, kp19, q13, q14, q15, q16, q17⟩
theorem own_c2_20_ef (m : MethodId)  : entryFrame m #[(.int 0), (.int 2), .null] 3 = mkF m 0 #[iv 0, iv 2, .val .null] [] := by first | (simp [entryFrame, mkF, argsToLocals, Value.category]; done) | rfl
def own_c2_20_Q (Z : State) (w_DE : Addr) (k_DE : ClassId) (w_CA : Addr) (h0 : Heap) (n0 : Nat) (v : Option Value) (h : Heap) (L : List Loc) : Prop := v = some (.int 0) ∧ Fr n0 L ∧ h = h0
set_option maxRecDepth 65536 in
set_option maxHeartbeats 40000000 in
theorem own_c2_20 (l : Launch) (Z : State) (a0 : Array Value) (hw : ∀ d ∈ tables_1, d.before a0 Z = true) (ws : List Jvm.Cond) (w_DE : Addr) (k_DE : ClassId) (w_CA : Addr) (h0 : Heap) (n0 : Nat) (O0 : Old Z n0 h0) (S_DE : Sta Z Z.heap "java/util/ArrayList" "DEFAULTCAPACITY_EMPTY_ELEMENTDATA" "[Ljava/lang/Object;" (.ref w_DE)) (V_DE : Arv Z Z.heap w_DE k_DE (.object "java/lang/Object") (0 : Int32) [] .null) (S_CA : Sta Z Z.heap "java/lang/Long$LongCache" "cache" "[Ljava/lang/Long;" (.ref w_CA)) (H_CA : own_Cache Z w_CA) :
    MetFree l (⟨"jdk/internal/util/Preconditions", "checkIndex", "(IILjava/util/function/BiFunction;)I"⟩ : MethodName) (head1 (Jvm.Cond.code (⟨"jdk/internal/util/Preconditions", "checkIndex", "(IILjava/util/function/BiFunction;)I"⟩ : MethodName) jdk_41_method_11_code 3 (some .int) :: ws) ({ frames := 0, cells := 0, slots := 0, locals := 0 } : Room)) (fun ar U => ar = #[(.int 0), (.int 2), .null] ∧ Z.Warmed39 U.vm ∧ U.heap = h0) (fun _ _ _ _ _ => True) (fun _ U oc U' => ∃ v L, oc = .returned v ∧ own_c2_20_Q Z w_DE k_DE w_CA h0 n0 v U'.heap L ∧ FrameEnd U oc U' L ({ frames := 0, cells := 0, slots := 0, locals := 0 } : Room).cells ({ frames := 0, cells := 0, slots := 0, locals := 0 } : Room).slots) := by
  refine MetFree.of_bodySF (plainFor_of_name own_pn6) hisR ?_
  intro p e s m args below meth c s₁ Bd hml0 hP hK
  obtain ⟨rfl, hZ, hh⟩ := hP
  have hx := Bd.exec
  have hby := Bd.bytes
  have hml : c.maxLocals = 3 := hml0
  have hown : s.vm.findClass "jdk/internal/util/Preconditions" = some m.cls := findClass_of_methodNamed Bd.named
  have hnm := (name_of_methodNamed Bd.named Bd.method).1
  have X0 : Stand p l e ({ frames := 0, cells := 0, slots := 0, locals := 0 } : Room) s m #[(.int 0), (.int 2), .null] below meth c s₁ [] 0 0 := Stand.of_body Bd
  have e0 : s₁.heap = h0 := by rw [← hh, Bd.state]; rfl
  have N0 := Fr.nil n0
  have pre0 : ∀ t, Steps p.tables e below (s₁.setTop (mkF m 0 #[iv 0, iv 2, .val .null] [])) t → Steps p.tables e below (s₁.setTop (entryFrame m #[(.int 0), (.int 2), .null] 3)) t := fun t k => castTop (own_c2_20_ef m ) k
  obtain ⟨fs, hr, hrun, hended, hW, hsame⟩ := X0.leave (v := some (.int 0)) (fun h => by rw [Bd.returns] at h; cases h)
  refine ⟨_, _, pre0 _ ?_, hrun, hended, _, _, rfl, ?_, ⟨_, rfl⟩, hW, hsame.mono (by decide) (by decide)⟩
  · show Steps p.tables e below (s₁.setTop (mkF m 0 #[iv 0, iv 2, .val .null] [])) _
    refine XS.iloadN X0.here hx rfl (hb hby own_d14_0) rfl ?_
    show Steps p.tables e below (s₁.setTop (mkF m 1 #[iv 0, iv 2, .val .null] [(.int 0)])) _
    refine XS.ifNo X0.here hx rfl (hb hby own_d14_1) rfl ((if0 _ _).trans (flt (by decide)).1) ?_
    show Steps p.tables e below (s₁.setTop (mkF m 4 #[iv 0, iv 2, .val .null] [])) _
    refine XS.iloadN X0.here hx rfl (hb hby own_d14_4) rfl ?_
    show Steps p.tables e below (s₁.setTop (mkF m 5 #[iv 0, iv 2, .val .null] [(.int 0)])) _
    refine XS.iloadN X0.here hx rfl (hb hby own_d14_5) rfl ?_
    show Steps p.tables e below (s₁.setTop (mkF m 6 #[iv 0, iv 2, .val .null] [(.int 2), (.int 0)])) _
    refine XS.icmpYes X0.here hx rfl (pc0 := 6) (pc' := 16) rfl (hb hby own_d14_6) rfl (tlt (by decide)).1 (by decide) (by decide) ?_
    show Steps p.tables e below (s₁.setTop (mkF m 16 #[iv 0, iv 2, .val .null] [])) _
    refine XS.iloadN X0.here hx rfl (hb hby own_d14_16) rfl ?_
    show Steps p.tables e below (s₁.setTop (mkF m 17 #[iv 0, iv 2, .val .null] [(.int 0)])) _
    exact retI X0 hx Bd.returns (hb hby own_d14_17) hr
  · show own_c2_20_Q Z w_DE k_DE w_CA h0 n0 _ s₁.heap _
    rw [e0]
    exact ⟨rfl, N0, rfl⟩
theorem own_c1_20_ef (m : MethodId)  : entryFrame m #[(.int 0), (.int 2)] 2 = mkF m 0 #[iv 0, iv 2] [] := by first | (simp [entryFrame, mkF, argsToLocals, Value.category]; done) | rfl
def own_c1_20_Q (Z : State) (w_DE : Addr) (k_DE : ClassId) (w_CA : Addr) (h0 : Heap) (n0 : Nat) (v : Option Value) (h : Heap) (L : List Loc) : Prop := v = some (.int 0) ∧ Fr n0 L ∧ h = h0
set_option maxRecDepth 65536 in
set_option maxHeartbeats 40000000 in
theorem own_c1_20 (l : Launch) (Z : State) (a0 : Array Value) (hw : ∀ d ∈ tables_1, d.before a0 Z = true) (ws : List Jvm.Cond) (w_DE : Addr) (k_DE : ClassId) (w_CA : Addr) (h0 : Heap) (n0 : Nat) (O0 : Old Z n0 h0) (S_DE : Sta Z Z.heap "java/util/ArrayList" "DEFAULTCAPACITY_EMPTY_ELEMENTDATA" "[Ljava/lang/Object;" (.ref w_DE)) (V_DE : Arv Z Z.heap w_DE k_DE (.object "java/lang/Object") (0 : Int32) [] .null) (S_CA : Sta Z Z.heap "java/lang/Long$LongCache" "cache" "[Ljava/lang/Long;" (.ref w_CA)) (H_CA : own_Cache Z w_CA) :
    MetFree l (⟨"java/util/Objects", "checkIndex", "(II)I"⟩ : MethodName) (head1 (Jvm.Cond.code (⟨"java/util/Objects", "checkIndex", "(II)I"⟩ : MethodName) jdk_31_method_17_code 2 (some .int) :: ws) ({ frames := 1, cells := 0, slots := 0, locals := 14 } : Room)) (fun ar U => ar = #[(.int 0), (.int 2)] ∧ Z.Warmed39 U.vm ∧ U.heap = h0) (fun _ _ _ _ _ => True) (fun _ U oc U' => ∃ v L, oc = .returned v ∧ own_c1_20_Q Z w_DE k_DE w_CA h0 n0 v U'.heap L ∧ FrameEnd U oc U' L ({ frames := 1, cells := 0, slots := 0, locals := 14 } : Room).cells ({ frames := 1, cells := 0, slots := 0, locals := 14 } : Room).slots) := by
  refine MetFree.of_bodySF (plainFor_of_name own_pn7) hisR ?_
  intro p e s m args below meth c s₁ Bd hml0 hP hK
  obtain ⟨rfl, hZ, hh⟩ := hP
  have hx := Bd.exec
  have hby := Bd.bytes
  have hml : c.maxLocals = 2 := hml0
  have hown : s.vm.findClass "java/util/Objects" = some m.cls := findClass_of_methodNamed Bd.named
  have hnm := (name_of_methodNamed Bd.named Bd.method).1
  have X0 : Stand p l e ({ frames := 1, cells := 0, slots := 0, locals := 14 } : Room) s m #[(.int 0), (.int 2)] below meth c s₁ [] 0 0 := Stand.of_body Bd
  have e0 : s₁.heap = h0 := by rw [← hh, Bd.state]; rfl
  have N0 := Fr.nil n0
  have pre0 : ∀ t, Steps p.tables e below (s₁.setTop (mkF m 0 #[iv 0, iv 2] [])) t → Steps p.tables e below (s₁.setTop (entryFrame m #[(.int 0), (.int 2)] 2)) t := fun t k => castTop (own_c1_20_ef m ) k
  obtain ⟨_, _, ⟨T1, L1, k1, n1⟩, -, X1, ⟨Lc1, hQ1, l1, y1, z1⟩, st1⟩ := Jvm.LawKit.callS X0 hx (y := (⟨"jdk/internal/util/Preconditions", "checkIndex", "(IILjava/util/function/BiFunction;)I"⟩ : MethodName)) hown (mvT hZ (hw _ (own_m 84 rfl))) (mvT hZ (hw _ (own_m 85 rfl))) (mvT hZ (hw _ (own_m 86 rfl))) (mvT hZ (hw _ (own_m 87 rfl))) (by decide) (backOf (W := 0) (own_c2_20 l Z a0 hw [] w_DE k_DE w_CA  h0 n0 O0 S_DE V_DE S_CA H_CA ) hZ (hw _ (own_m 87 rfl)) (hw _ (own_m 86 rfl)) (by decide) (by decide)) (g := (mkF m 3 #[iv 0, iv 2] [.null, (.int 2), (.int 0)])) rfl (by rw [hml]; rfl) (argsL := [(.int 0), (.int 2), .null]) (rest := []) (lenOf own_pd6 rfl) rfl (by show 2 * 0 + _ ≤ _; exact Nat.le_of_eq rfl) (hb hby own_d13_3) (fun _ _ => ⟨rfl, e0, (by decide : 0 + 0 ≤ _), (by decide : 0 + 0 ≤ _)⟩)
  dsimp only [Pt.U, Pt.locs, Pt.cells, Pt.slots] at X1 l1 y1 z1 st1 hQ1
  subst l1 y1 z1
  obtain ⟨rfl, N1q, e1⟩ := hQ1
  have N1 := Fr.app N0 N1q
  obtain ⟨fs, hr, hrun, hended, hW, hsame⟩ := X1.leave (v := some (.int 0)) (fun h => by rw [Bd.returns] at h; cases h)
  refine ⟨_, _, pre0 _ ?_, hrun, hended, _, _, rfl, ?_, ⟨_, rfl⟩, hW, hsame.mono (by decide) (by decide)⟩
  · show Steps p.tables e below (s₁.setTop (mkF m 0 #[iv 0, iv 2] [])) _
    refine XS.iloadN X0.here hx rfl (hb hby own_d13_0) rfl ?_
    show Steps p.tables e below (s₁.setTop (mkF m 1 #[iv 0, iv 2] [(.int 0)])) _
    refine XS.iloadN X0.here hx rfl (hb hby own_d13_1) rfl ?_
    show Steps p.tables e below (s₁.setTop (mkF m 2 #[iv 0, iv 2] [(.int 2), (.int 0)])) _
    refine XS.aconstNull X0.here hx rfl (hb hby own_d13_2) ?_
    show Steps p.tables e below (s₁.setTop (mkF m 3 #[iv 0, iv 2] [.null, (.int 2), (.int 0)])) _
    refine st1 _ ?_
    show Steps p.tables e below (T1.setTop (mkF m 6 #[iv 0, iv 2] [(.int 0)])) _
    exact retI X1 hx Bd.returns (hb hby own_d13_6) hr
  · show own_c1_20_Q Z w_DE k_DE w_CA h0 n0 _ T1.heap _
    rw [e1]
    exact ⟨rfl, N1, rfl⟩
theorem own_ed_20_ef (m : MethodId) (a : Addr) : entryFrame m #[(.ref a), (.int 0)] 2 = mkF m 0 #[rv a, iv 0] [] := by first | (simp [entryFrame, mkF, argsToLocals, Value.category]; done) | rfl
def own_ed_20_Q (Z : State) (w_DE : Addr) (k_DE : ClassId) (w_CA : Addr) (a : Addr) (b : Addr) (kb : ClassId) (y0 : Addr) (y1 : Addr) (h0 : Heap) (n0 : Nat) (v : Option Value) (h : Heap) (L : List Loc) : Prop := v = some (.ref y0) ∧ Fr n0 L ∧ h = h0
set_option maxRecDepth 65536 in
set_option maxHeartbeats 40000000 in
theorem own_ed_20 (l : Launch) (Z : State) (a0 : Array Value) (hw : ∀ d ∈ tables_1, d.before a0 Z = true) (ws : List Jvm.Cond) (w_DE : Addr) (k_DE : ClassId) (w_CA : Addr) (a : Addr) (b : Addr) (kb : ClassId) (y0 : Addr) (y1 : Addr) (h0 : Heap) (n0 : Nat) (O0 : Old Z n0 h0) (S_DE : Sta Z Z.heap "java/util/ArrayList" "DEFAULTCAPACITY_EMPTY_ELEMENTDATA" "[Ljava/lang/Object;" (.ref w_DE)) (V_DE : Arv Z Z.heap w_DE k_DE (.object "java/lang/Object") (0 : Int32) [] .null) (S_CA : Sta Z Z.heap "java/lang/Long$LongCache" "cache" "[Ljava/lang/Long;" (.ref w_CA)) (H_CA : own_Cache Z w_CA) (F_elementData : Fld Z h0 a "java/util/ArrayList" "elementData" "[Ljava/lang/Object;" (.ref b)) (F_size : Fld Z h0 a "java/util/ArrayList" "size" "I" (.int 2)) (E_a : Exa Z h0 a "java/util/ArrayList") (V_b : Arv Z h0 b kb (.object "java/lang/Object") (10 : Int32) [(.ref y0), (.ref y1), .null, .null, .null, .null, .null, .null, .null, .null] .null) :
    MetFree l (⟨"java/util/ArrayList", "elementData", "(I)Ljava/lang/Object;"⟩ : MethodName) (head1 (Jvm.Cond.code (⟨"java/util/ArrayList", "elementData", "(I)Ljava/lang/Object;"⟩ : MethodName) jdk_38_method_18_code 2 (some (.object "java/lang/Object")) :: ws) ({ frames := 0, cells := 0, slots := 0, locals := 0 } : Room)) (fun ar U => ar = #[(.ref a), (.int 0)] ∧ Z.Warmed39 U.vm ∧ U.heap = h0) (fun _ _ _ _ _ => True) (fun _ U oc U' => ∃ v L, oc = .returned v ∧ own_ed_20_Q Z w_DE k_DE w_CA a b kb y0 y1 h0 n0 v U'.heap L ∧ FrameEnd U oc U' L ({ frames := 0, cells := 0, slots := 0, locals := 0 } : Room).cells ({ frames := 0, cells := 0, slots := 0, locals := 0 } : Room).slots) := by
  refine MetFree.of_bodySF (plainFor_of_name own_pn4) hisR ?_
  intro p e s m args below meth c s₁ Bd hml0 hP hK
  obtain ⟨rfl, hZ, hh⟩ := hP
  have hx := Bd.exec
  have hby := Bd.bytes
  have hml : c.maxLocals = 2 := hml0
  have hown : s.vm.findClass "java/util/ArrayList" = some m.cls := findClass_of_methodNamed Bd.named
  have hnm := (name_of_methodNamed Bd.named Bd.method).1
  have X0 : Stand p l e ({ frames := 0, cells := 0, slots := 0, locals := 0 } : Room) s m #[(.ref a), (.int 0)] below meth c s₁ [] 0 0 := Stand.of_body Bd
  have e0 : s₁.heap = h0 := by rw [← hh, Bd.state]; rfl
  have N0 := Fr.nil n0
  have pre0 : ∀ t, Steps p.tables e below (s₁.setTop (mkF m 0 #[rv a, iv 0] [])) t → Steps p.tables e below (s₁.setTop (entryFrame m #[(.ref a), (.int 0)] 2)) t := fun t k => castTop (own_ed_20_ef m a) k
  obtain ⟨T1, X1, e1, st1⟩ := getF X0 hx hZ hown (host := "") (Or.inl (hw _ (own_m 24 rfl))) Via.refl e0 F_elementData (g := (mkF m 1 #[rv a, iv 0] [(.ref a)])) rfl rfl (hb hby own_d15_1)
  obtain ⟨c2, c2A, c2q, c2S, c2N, c2H, c2G⟩ := id V_b
  have c2in : ¬ ((0 : Int32) < 0 ∨ c2.slots.size ≤ ((0 : Int32)).toNatClampNeg) := inb_of c2S ⟨by decide, by decide⟩
  have c2at : c2.slots[((0 : Int32)).toNatClampNeg]? = some (.ref y0) := Has.at c2H c2in rfl
  obtain ⟨fs, hr, hrun, hended, hW, hsame⟩ := X1.leave (v := some (.ref y0)) (fun h => by rw [Bd.returns] at h; cases h)
  refine ⟨_, _, pre0 _ ?_, hrun, hended, _, _, rfl, ?_, ⟨_, rfl⟩, hW, hsame.mono (by decide) (by decide)⟩
  · show Steps p.tables e below (s₁.setTop (mkF m 0 #[rv a, iv 0] [])) _
    refine XS.aloadN X0.here hx rfl (hb hby own_d15_0) rfl rfl ?_
    show Steps p.tables e below (s₁.setTop (mkF m 1 #[rv a, iv 0] [(.ref a)])) _
    refine st1 _ ?_
    show Steps p.tables e below (T1.setTop (mkF m 4 #[rv a, iv 0] [(.ref b)])) _
    refine XS.iloadN X1.here hx rfl (hb hby own_d15_4) rfl ?_
    show Steps p.tables e below (T1.setTop (mkF m 5 #[rv a, iv 0] [(.int 0), (.ref b)])) _
    refine X1.aaload hx (j := (0 : Int32)) (v := (.ref y0)) (by rw [e1]; exact c2A.1) (State.isArrayOf_alike hZ.alike c2A.2.1) rfl c2A.2.2 c2in c2at (g := (mkF m 5 #[rv a, iv 0] [(.int 0), (.ref b)])) rfl rfl (hb hby own_d15_5) _ ?_
    show Steps p.tables e below (T1.setTop (mkF m 6 #[rv a, iv 0] [(.ref y0)])) _
    jvm_step X1.here [X1.here.top, hx, (hb hby own_d15_6), X1.method', Bd.returns, Value.isRef, FieldType.isReference]
    first | (intro acts; rw [hr _ acts rfl rfl rfl]) | rw [hr _ _ rfl rfl rfl]
    exact Steps.refl _
  · show own_ed_20_Q Z w_DE k_DE w_CA a b kb y0 y1 h0 n0 _ T1.heap _
    rw [e1]
    exact ⟨rfl, N0, rfl⟩
theorem own_get_20_ef (m : MethodId) (a : Addr) : entryFrame m #[(.ref a), (.int 0)] 2 = mkF m 0 #[rv a, iv 0] [] := by first | (simp [entryFrame, mkF, argsToLocals, Value.category]; done) | rfl
def own_get_20_Q (Z : State) (w_DE : Addr) (k_DE : ClassId) (w_CA : Addr) (a : Addr) (b : Addr) (kb : ClassId) (y0 : Addr) (y1 : Addr) (h0 : Heap) (n0 : Nat) (v : Option Value) (h : Heap) (L : List Loc) : Prop := v = some (.ref y0) ∧ Fr n0 L ∧ h = h0
set_option maxRecDepth 65536 in
set_option maxHeartbeats 40000000 in
theorem own_get_20 (l : Launch) (Z : State) (a0 : Array Value) (hw : ∀ d ∈ tables_1, d.before a0 Z = true) (ws : List Jvm.Cond) (w_DE : Addr) (k_DE : ClassId) (w_CA : Addr) (a : Addr) (b : Addr) (kb : ClassId) (y0 : Addr) (y1 : Addr) (h0 : Heap) (n0 : Nat) (O0 : Old Z n0 h0) (S_DE : Sta Z Z.heap "java/util/ArrayList" "DEFAULTCAPACITY_EMPTY_ELEMENTDATA" "[Ljava/lang/Object;" (.ref w_DE)) (V_DE : Arv Z Z.heap w_DE k_DE (.object "java/lang/Object") (0 : Int32) [] .null) (S_CA : Sta Z Z.heap "java/lang/Long$LongCache" "cache" "[Ljava/lang/Long;" (.ref w_CA)) (H_CA : own_Cache Z w_CA) (F_elementData : Fld Z h0 a "java/util/ArrayList" "elementData" "[Ljava/lang/Object;" (.ref b)) (F_size : Fld Z h0 a "java/util/ArrayList" "size" "I" (.int 2)) (E_a : Exa Z h0 a "java/util/ArrayList") (V_b : Arv Z h0 b kb (.object "java/lang/Object") (10 : Int32) [(.ref y0), (.ref y1), .null, .null, .null, .null, .null, .null, .null, .null] .null) :
    MetFree l (⟨"java/util/ArrayList", "get", "(I)Ljava/lang/Object;"⟩ : MethodName) (head1 (Jvm.Cond.code (⟨"java/util/ArrayList", "get", "(I)Ljava/lang/Object;"⟩ : MethodName) jdk_38_method_20_code 2 (some (.object "java/lang/Object")) :: ws) ({ frames := 2, cells := 0, slots := 0, locals := 27 } : Room)) (fun ar U => ar = #[(.ref a), (.int 0)] ∧ Z.Warmed39 U.vm ∧ U.heap = h0) (fun _ _ _ _ _ => True) (fun _ U oc U' => ∃ v L, oc = .returned v ∧ own_get_20_Q Z w_DE k_DE w_CA a b kb y0 y1 h0 n0 v U'.heap L ∧ FrameEnd U oc U' L ({ frames := 2, cells := 0, slots := 0, locals := 27 } : Room).cells ({ frames := 2, cells := 0, slots := 0, locals := 27 } : Room).slots) := by
  refine MetFree.of_bodySF (plainFor_of_name own_pn4) hisR ?_
  intro p e s m args below meth c s₁ Bd hml0 hP hK
  obtain ⟨rfl, hZ, hh⟩ := hP
  have hx := Bd.exec
  have hby := Bd.bytes
  have hml : c.maxLocals = 2 := hml0
  have hown : s.vm.findClass "java/util/ArrayList" = some m.cls := findClass_of_methodNamed Bd.named
  have hnm := (name_of_methodNamed Bd.named Bd.method).1
  have X0 : Stand p l e ({ frames := 2, cells := 0, slots := 0, locals := 27 } : Room) s m #[(.ref a), (.int 0)] below meth c s₁ [] 0 0 := Stand.of_body Bd
  have e0 : s₁.heap = h0 := by rw [← hh, Bd.state]; rfl
  have N0 := Fr.nil n0
  have pre0 : ∀ t, Steps p.tables e below (s₁.setTop (mkF m 0 #[rv a, iv 0] [])) t → Steps p.tables e below (s₁.setTop (entryFrame m #[(.ref a), (.int 0)] 2)) t := fun t k => castTop (own_get_20_ef m a) k
  obtain ⟨T1, X1, e1, st1⟩ := getF X0 hx hZ hown (host := "") (Or.inl (hw _ (own_m 41 rfl))) Via.refl e0 F_size (g := (mkF m 2 #[rv a, iv 0] [(.ref a), (.int 0)])) rfl rfl (hb hby own_d12_2)
  obtain ⟨_, _, ⟨T2, L2, k2, n2⟩, -, X2, ⟨Lc2, hQ2, l2, y2, z2⟩, st2⟩ := Jvm.LawKit.callS X1 hx (y := (⟨"java/util/Objects", "checkIndex", "(II)I"⟩ : MethodName)) hown (mvT hZ (hw _ (own_m 80 rfl))) (mvT hZ (hw _ (own_m 81 rfl))) (mvT hZ (hw _ (own_m 82 rfl))) (mvT hZ (hw _ (own_m 83 rfl))) (by decide) (backOf (W := 0) (own_c1_20 l Z a0 hw [] w_DE k_DE w_CA  h0 n0 O0 S_DE V_DE S_CA H_CA ) hZ (hw _ (own_m 83 rfl)) (hw _ (own_m 82 rfl)) (by decide) (by decide)) (g := (mkF m 5 #[rv a, iv 0] [(.int 2), (.int 0)])) rfl (by rw [hml]; rfl) (argsL := [(.int 0), (.int 2)]) (rest := []) (lenOf own_pd2 rfl) rfl (by show 2 * 0 + _ ≤ _; exact Nat.le_of_eq rfl) (hb hby own_d12_5) (fun _ _ => ⟨rfl, e1, (by decide : 0 + 0 ≤ _), (by decide : 0 + 0 ≤ _)⟩)
  dsimp only [Pt.U, Pt.locs, Pt.cells, Pt.slots] at X2 l2 y2 z2 st2 hQ2
  subst l2 y2 z2
  obtain ⟨rfl, N2q, e2⟩ := hQ2
  have N2 := Fr.app N0 N2q
  obtain ⟨cq3, kq3, q3a, q3b, q3c⟩ := isOf hZ e2 E_a
  obtain ⟨_, _, ⟨T3, L3, k3, n3⟩, -, X3, ⟨Lc3, hQ3, l3, y3, z3⟩, st3⟩ := X2.virtualBack hx (y := (⟨"java/util/ArrayList", "elementData", "(I)Ljava/lang/Object;"⟩ : MethodName)) (z := (⟨"java/util/ArrayList", "elementData", "(I)Ljava/lang/Object;"⟩ : MethodName)) hown (mvT hZ (hw _ (own_m 88 rfl))) (mvT hZ (hw _ (own_m 89 rfl))) (notFace_of_selects (args := #[]) (mvT hZ (hw _ (own_m 91 rfl)))) (mvT hZ (hw _ (own_m 91 rfl))) (mvT hZ (hw _ (own_m 90 rfl))) (by decide) (backOf (W := 0) (own_ed_20 l Z a0 hw [] w_DE k_DE w_CA a b kb y0 y1 h0 n0 O0 S_DE V_DE S_CA H_CA F_elementData F_size E_a V_b) hZ (hw _ (own_m 92 rfl)) (hw _ (own_m 2 rfl)) (by decide) (by decide)) q3a q3c (g := (mkF m 11 #[rv a, iv 0] [(.int 0), (.ref a)])) rfl (by rw [hml]; rfl) (Steps.refl _) (argsL := [(.int 0)]) (rest := []) (lenOf own_pd7 rfl) rfl (by show 2 * 0 + _ ≤ _; exact Nat.le_of_eq rfl) (hb hby own_d12_11) (fun _ _ => ⟨rfl, e2, (by decide : 0 + 0 ≤ _), (by decide : 0 + 0 ≤ _)⟩)
  dsimp only [Pt.U, Pt.locs, Pt.cells, Pt.slots] at X3 l3 y3 z3 st3 hQ3
  subst l3 y3 z3
  obtain ⟨rfl, N3q, e3⟩ := hQ3
  have N3 := Fr.app N2 N3q
  obtain ⟨fs, hr, hrun, hended, hW, hsame⟩ := X3.leave (v := some (.ref y0)) (fun h => by rw [Bd.returns] at h; cases h)
  refine ⟨_, _, pre0 _ ?_, hrun, hended, _, _, rfl, ?_, ⟨_, rfl⟩, hW, hsame.mono (by decide) (by decide)⟩
  · show Steps p.tables e below (s₁.setTop (mkF m 0 #[rv a, iv 0] [])) _
    refine XS.iloadN X0.here hx rfl (hb hby own_d12_0) rfl ?_
    show Steps p.tables e below (s₁.setTop (mkF m 1 #[rv a, iv 0] [(.int 0)])) _
    refine XS.aloadN X0.here hx rfl (hb hby own_d12_1) rfl rfl ?_
    show Steps p.tables e below (s₁.setTop (mkF m 2 #[rv a, iv 0] [(.ref a), (.int 0)])) _
    refine st1 _ ?_
    show Steps p.tables e below (T1.setTop (mkF m 5 #[rv a, iv 0] [(.int 2), (.int 0)])) _
    refine st2 _ ?_
    show Steps p.tables e below (T2.setTop (mkF m 8 #[rv a, iv 0] [(.int 0)])) _
    refine XS.pop X2.here hx rfl (hb hby own_d12_8) rfl rfl ?_
    show Steps p.tables e below (T2.setTop (mkF m 9 #[rv a, iv 0] [])) _
    refine XS.aloadN X2.here hx rfl (hb hby own_d12_9) rfl rfl ?_
    show Steps p.tables e below (T2.setTop (mkF m 10 #[rv a, iv 0] [(.ref a)])) _
    refine XS.iloadN X2.here hx rfl (hb hby own_d12_10) rfl ?_
    show Steps p.tables e below (T2.setTop (mkF m 11 #[rv a, iv 0] [(.int 0), (.ref a)])) _
    refine st3.trans ?_
    show Steps p.tables e below (T3.setTop (mkF m 14 #[rv a, iv 0] [(.ref y0)])) _
    jvm_step X3.here [X3.here.top, hx, (hb hby own_d12_14), X3.method', Bd.returns, Value.isRef, FieldType.isReference]
    first | (intro acts; rw [hr _ acts rfl rfl rfl]) | rw [hr _ _ rfl rfl rfl]
    exact Steps.refl _
  · show own_get_20_Q Z w_DE k_DE w_CA a b kb y0 y1 h0 n0 _ T3.heap _
    rw [e3]
    exact ⟨rfl, N3, rfl⟩
theorem own_c2_21_ef (m : MethodId)  : entryFrame m #[(.int 1), (.int 2), .null] 3 = mkF m 0 #[iv 1, iv 2, .val .null] [] := by first | (simp [entryFrame, mkF, argsToLocals, Value.category]; done) | rfl
def own_c2_21_Q (Z : State) (w_DE : Addr) (k_DE : ClassId) (w_CA : Addr) (h0 : Heap) (n0 : Nat) (v : Option Value) (h : Heap) (L : List Loc) : Prop := v = some (.int 1) ∧ Fr n0 L ∧ h = h0
set_option maxRecDepth 65536 in
set_option maxHeartbeats 40000000 in
theorem own_c2_21 (l : Launch) (Z : State) (a0 : Array Value) (hw : ∀ d ∈ tables_1, d.before a0 Z = true) (ws : List Jvm.Cond) (w_DE : Addr) (k_DE : ClassId) (w_CA : Addr) (h0 : Heap) (n0 : Nat) (O0 : Old Z n0 h0) (S_DE : Sta Z Z.heap "java/util/ArrayList" "DEFAULTCAPACITY_EMPTY_ELEMENTDATA" "[Ljava/lang/Object;" (.ref w_DE)) (V_DE : Arv Z Z.heap w_DE k_DE (.object "java/lang/Object") (0 : Int32) [] .null) (S_CA : Sta Z Z.heap "java/lang/Long$LongCache" "cache" "[Ljava/lang/Long;" (.ref w_CA)) (H_CA : own_Cache Z w_CA) :
    MetFree l (⟨"jdk/internal/util/Preconditions", "checkIndex", "(IILjava/util/function/BiFunction;)I"⟩ : MethodName) (head1 (Jvm.Cond.code (⟨"jdk/internal/util/Preconditions", "checkIndex", "(IILjava/util/function/BiFunction;)I"⟩ : MethodName) jdk_41_method_11_code 3 (some .int) :: ws) ({ frames := 0, cells := 0, slots := 0, locals := 0 } : Room)) (fun ar U => ar = #[(.int 1), (.int 2), .null] ∧ Z.Warmed39 U.vm ∧ U.heap = h0) (fun _ _ _ _ _ => True) (fun _ U oc U' => ∃ v L, oc = .returned v ∧ own_c2_21_Q Z w_DE k_DE w_CA h0 n0 v U'.heap L ∧ FrameEnd U oc U' L ({ frames := 0, cells := 0, slots := 0, locals := 0 } : Room).cells ({ frames := 0, cells := 0, slots := 0, locals := 0 } : Room).slots) := by
  refine MetFree.of_bodySF (plainFor_of_name own_pn6) hisR ?_
  intro p e s m args below meth c s₁ Bd hml0 hP hK
  obtain ⟨rfl, hZ, hh⟩ := hP
  have hx := Bd.exec
  have hby := Bd.bytes
  have hml : c.maxLocals = 3 := hml0
  have hown : s.vm.findClass "jdk/internal/util/Preconditions" = some m.cls := findClass_of_methodNamed Bd.named
  have hnm := (name_of_methodNamed Bd.named Bd.method).1
  have X0 : Stand p l e ({ frames := 0, cells := 0, slots := 0, locals := 0 } : Room) s m #[(.int 1), (.int 2), .null] below meth c s₁ [] 0 0 := Stand.of_body Bd
  have e0 : s₁.heap = h0 := by rw [← hh, Bd.state]; rfl
  have N0 := Fr.nil n0
  have pre0 : ∀ t, Steps p.tables e below (s₁.setTop (mkF m 0 #[iv 1, iv 2, .val .null] [])) t → Steps p.tables e below (s₁.setTop (entryFrame m #[(.int 1), (.int 2), .null] 3)) t := fun t k => castTop (own_c2_21_ef m ) k
  obtain ⟨fs, hr, hrun, hended, hW, hsame⟩ := X0.leave (v := some (.int 1)) (fun h => by rw [Bd.returns] at h; cases h)
  refine ⟨_, _, pre0 _ ?_, hrun, hended, _, _, rfl, ?_, ⟨_, rfl⟩, hW, hsame.mono (by decide) (by decide)⟩
  · show Steps p.tables e below (s₁.setTop (mkF m 0 #[iv 1, iv 2, .val .null] [])) _
    refine XS.iloadN X0.here hx rfl (hb hby own_d14_0) rfl ?_
    show Steps p.tables e below (s₁.setTop (mkF m 1 #[iv 1, iv 2, .val .null] [(.int 1)])) _
    refine XS.ifNo X0.here hx rfl (hb hby own_d14_1) rfl ((if0 _ _).trans (flt (by decide)).1) ?_
    show Steps p.tables e below (s₁.setTop (mkF m 4 #[iv 1, iv 2, .val .null] [])) _
    refine XS.iloadN X0.here hx rfl (hb hby own_d14_4) rfl ?_
    show Steps p.tables e below (s₁.setTop (mkF m 5 #[iv 1, iv 2, .val .null] [(.int 1)])) _
    refine XS.iloadN X0.here hx rfl (hb hby own_d14_5) rfl ?_
    show Steps p.tables e below (s₁.setTop (mkF m 6 #[iv 1, iv 2, .val .null] [(.int 2), (.int 1)])) _
    refine XS.icmpYes X0.here hx rfl (pc0 := 6) (pc' := 16) rfl (hb hby own_d14_6) rfl (tlt (by decide)).1 (by decide) (by decide) ?_
    show Steps p.tables e below (s₁.setTop (mkF m 16 #[iv 1, iv 2, .val .null] [])) _
    refine XS.iloadN X0.here hx rfl (hb hby own_d14_16) rfl ?_
    show Steps p.tables e below (s₁.setTop (mkF m 17 #[iv 1, iv 2, .val .null] [(.int 1)])) _
    exact retI X0 hx Bd.returns (hb hby own_d14_17) hr
  · show own_c2_21_Q Z w_DE k_DE w_CA h0 n0 _ s₁.heap _
    rw [e0]
    exact ⟨rfl, N0, rfl⟩
theorem own_c1_21_ef (m : MethodId)  : entryFrame m #[(.int 1), (.int 2)] 2 = mkF m 0 #[iv 1, iv 2] [] := by first | (simp [entryFrame, mkF, argsToLocals, Value.category]; done) | rfl
def own_c1_21_Q (Z : State) (w_DE : Addr) (k_DE : ClassId) (w_CA : Addr) (h0 : Heap) (n0 : Nat) (v : Option Value) (h : Heap) (L : List Loc) : Prop := v = some (.int 1) ∧ Fr n0 L ∧ h = h0
set_option maxRecDepth 65536 in
set_option maxHeartbeats 40000000 in
theorem own_c1_21 (l : Launch) (Z : State) (a0 : Array Value) (hw : ∀ d ∈ tables_1, d.before a0 Z = true) (ws : List Jvm.Cond) (w_DE : Addr) (k_DE : ClassId) (w_CA : Addr) (h0 : Heap) (n0 : Nat) (O0 : Old Z n0 h0) (S_DE : Sta Z Z.heap "java/util/ArrayList" "DEFAULTCAPACITY_EMPTY_ELEMENTDATA" "[Ljava/lang/Object;" (.ref w_DE)) (V_DE : Arv Z Z.heap w_DE k_DE (.object "java/lang/Object") (0 : Int32) [] .null) (S_CA : Sta Z Z.heap "java/lang/Long$LongCache" "cache" "[Ljava/lang/Long;" (.ref w_CA)) (H_CA : own_Cache Z w_CA) :
    MetFree l (⟨"java/util/Objects", "checkIndex", "(II)I"⟩ : MethodName) (head1 (Jvm.Cond.code (⟨"java/util/Objects", "checkIndex", "(II)I"⟩ : MethodName) jdk_31_method_17_code 2 (some .int) :: ws) ({ frames := 1, cells := 0, slots := 0, locals := 14 } : Room)) (fun ar U => ar = #[(.int 1), (.int 2)] ∧ Z.Warmed39 U.vm ∧ U.heap = h0) (fun _ _ _ _ _ => True) (fun _ U oc U' => ∃ v L, oc = .returned v ∧ own_c1_21_Q Z w_DE k_DE w_CA h0 n0 v U'.heap L ∧ FrameEnd U oc U' L ({ frames := 1, cells := 0, slots := 0, locals := 14 } : Room).cells ({ frames := 1, cells := 0, slots := 0, locals := 14 } : Room).slots) := by
  refine MetFree.of_bodySF (plainFor_of_name own_pn7) hisR ?_
  intro p e s m args below meth c s₁ Bd hml0 hP hK
  obtain ⟨rfl, hZ, hh⟩ := hP
  have hx := Bd.exec
  have hby := Bd.bytes
  have hml : c.maxLocals = 2 := hml0
  have hown : s.vm.findClass "java/util/Objects" = some m.cls := findClass_of_methodNamed Bd.named
  have hnm := (name_of_methodNamed Bd.named Bd.method).1
  have X0 : Stand p l e ({ frames := 1, cells := 0, slots := 0, locals := 14 } : Room) s m #[(.int 1), (.int 2)] below meth c s₁ [] 0 0 := Stand.of_body Bd
  have e0 : s₁.heap = h0 := by rw [← hh, Bd.state]; rfl
  have N0 := Fr.nil n0
  have pre0 : ∀ t, Steps p.tables e below (s₁.setTop (mkF m 0 #[iv 1, iv 2] [])) t → Steps p.tables e below (s₁.setTop (entryFrame m #[(.int 1), (.int 2)] 2)) t := fun t k => castTop (own_c1_21_ef m ) k
  obtain ⟨_, _, ⟨T1, L1, k1, n1⟩, -, X1, ⟨Lc1, hQ1, l1, y1, z1⟩, st1⟩ := Jvm.LawKit.callS X0 hx (y := (⟨"jdk/internal/util/Preconditions", "checkIndex", "(IILjava/util/function/BiFunction;)I"⟩ : MethodName)) hown (mvT hZ (hw _ (own_m 84 rfl))) (mvT hZ (hw _ (own_m 85 rfl))) (mvT hZ (hw _ (own_m 86 rfl))) (mvT hZ (hw _ (own_m 87 rfl))) (by decide) (backOf (W := 0) (own_c2_21 l Z a0 hw [] w_DE k_DE w_CA  h0 n0 O0 S_DE V_DE S_CA H_CA ) hZ (hw _ (own_m 87 rfl)) (hw _ (own_m 86 rfl)) (by decide) (by decide)) (g := (mkF m 3 #[iv 1, iv 2] [.null, (.int 2), (.int 1)])) rfl (by rw [hml]; rfl) (argsL := [(.int 1), (.int 2), .null]) (rest := []) (lenOf own_pd6 rfl) rfl (by show 2 * 0 + _ ≤ _; exact Nat.le_of_eq rfl) (hb hby own_d13_3) (fun _ _ => ⟨rfl, e0, (by decide : 0 + 0 ≤ _), (by decide : 0 + 0 ≤ _)⟩)
  dsimp only [Pt.U, Pt.locs, Pt.cells, Pt.slots] at X1 l1 y1 z1 st1 hQ1
  subst l1 y1 z1
  obtain ⟨rfl, N1q, e1⟩ := hQ1
  have N1 := Fr.app N0 N1q
  obtain ⟨fs, hr, hrun, hended, hW, hsame⟩ := X1.leave (v := some (.int 1)) (fun h => by rw [Bd.returns] at h; cases h)
  refine ⟨_, _, pre0 _ ?_, hrun, hended, _, _, rfl, ?_, ⟨_, rfl⟩, hW, hsame.mono (by decide) (by decide)⟩
  · show Steps p.tables e below (s₁.setTop (mkF m 0 #[iv 1, iv 2] [])) _
    refine XS.iloadN X0.here hx rfl (hb hby own_d13_0) rfl ?_
    show Steps p.tables e below (s₁.setTop (mkF m 1 #[iv 1, iv 2] [(.int 1)])) _
    refine XS.iloadN X0.here hx rfl (hb hby own_d13_1) rfl ?_
    show Steps p.tables e below (s₁.setTop (mkF m 2 #[iv 1, iv 2] [(.int 2), (.int 1)])) _
    refine XS.aconstNull X0.here hx rfl (hb hby own_d13_2) ?_
    show Steps p.tables e below (s₁.setTop (mkF m 3 #[iv 1, iv 2] [.null, (.int 2), (.int 1)])) _
    refine st1 _ ?_
    show Steps p.tables e below (T1.setTop (mkF m 6 #[iv 1, iv 2] [(.int 1)])) _
    exact retI X1 hx Bd.returns (hb hby own_d13_6) hr
  · show own_c1_21_Q Z w_DE k_DE w_CA h0 n0 _ T1.heap _
    rw [e1]
    exact ⟨rfl, N1, rfl⟩
theorem own_ed_21_ef (m : MethodId) (a : Addr) : entryFrame m #[(.ref a), (.int 1)] 2 = mkF m 0 #[rv a, iv 1] [] := by first | (simp [entryFrame, mkF, argsToLocals, Value.category]; done) | rfl
def own_ed_21_Q (Z : State) (w_DE : Addr) (k_DE : ClassId) (w_CA : Addr) (a : Addr) (b : Addr) (kb : ClassId) (y0 : Addr) (y1 : Addr) (h0 : Heap) (n0 : Nat) (v : Option Value) (h : Heap) (L : List Loc) : Prop := v = some (.ref y1) ∧ Fr n0 L ∧ h = h0
set_option maxRecDepth 65536 in
set_option maxHeartbeats 40000000 in
theorem own_ed_21 (l : Launch) (Z : State) (a0 : Array Value) (hw : ∀ d ∈ tables_1, d.before a0 Z = true) (ws : List Jvm.Cond) (w_DE : Addr) (k_DE : ClassId) (w_CA : Addr) (a : Addr) (b : Addr) (kb : ClassId) (y0 : Addr) (y1 : Addr) (h0 : Heap) (n0 : Nat) (O0 : Old Z n0 h0) (S_DE : Sta Z Z.heap "java/util/ArrayList" "DEFAULTCAPACITY_EMPTY_ELEMENTDATA" "[Ljava/lang/Object;" (.ref w_DE)) (V_DE : Arv Z Z.heap w_DE k_DE (.object "java/lang/Object") (0 : Int32) [] .null) (S_CA : Sta Z Z.heap "java/lang/Long$LongCache" "cache" "[Ljava/lang/Long;" (.ref w_CA)) (H_CA : own_Cache Z w_CA) (F_elementData : Fld Z h0 a "java/util/ArrayList" "elementData" "[Ljava/lang/Object;" (.ref b)) (F_size : Fld Z h0 a "java/util/ArrayList" "size" "I" (.int 2)) (E_a : Exa Z h0 a "java/util/ArrayList") (V_b : Arv Z h0 b kb (.object "java/lang/Object") (10 : Int32) [(.ref y0), (.ref y1), .null, .null, .null, .null, .null, .null, .null, .null] .null) :
    MetFree l (⟨"java/util/ArrayList", "elementData", "(I)Ljava/lang/Object;"⟩ : MethodName) (head1 (Jvm.Cond.code (⟨"java/util/ArrayList", "elementData", "(I)Ljava/lang/Object;"⟩ : MethodName) jdk_38_method_18_code 2 (some (.object "java/lang/Object")) :: ws) ({ frames := 0, cells := 0, slots := 0, locals := 0 } : Room)) (fun ar U => ar = #[(.ref a), (.int 1)] ∧ Z.Warmed39 U.vm ∧ U.heap = h0) (fun _ _ _ _ _ => True) (fun _ U oc U' => ∃ v L, oc = .returned v ∧ own_ed_21_Q Z w_DE k_DE w_CA a b kb y0 y1 h0 n0 v U'.heap L ∧ FrameEnd U oc U' L ({ frames := 0, cells := 0, slots := 0, locals := 0 } : Room).cells ({ frames := 0, cells := 0, slots := 0, locals := 0 } : Room).slots) := by
  refine MetFree.of_bodySF (plainFor_of_name own_pn4) hisR ?_
  intro p e s m args below meth c s₁ Bd hml0 hP hK
  obtain ⟨rfl, hZ, hh⟩ := hP
  have hx := Bd.exec
  have hby := Bd.bytes
  have hml : c.maxLocals = 2 := hml0
  have hown : s.vm.findClass "java/util/ArrayList" = some m.cls := findClass_of_methodNamed Bd.named
  have hnm := (name_of_methodNamed Bd.named Bd.method).1
  have X0 : Stand p l e ({ frames := 0, cells := 0, slots := 0, locals := 0 } : Room) s m #[(.ref a), (.int 1)] below meth c s₁ [] 0 0 := Stand.of_body Bd
  have e0 : s₁.heap = h0 := by rw [← hh, Bd.state]; rfl
  have N0 := Fr.nil n0
  have pre0 : ∀ t, Steps p.tables e below (s₁.setTop (mkF m 0 #[rv a, iv 1] [])) t → Steps p.tables e below (s₁.setTop (entryFrame m #[(.ref a), (.int 1)] 2)) t := fun t k => castTop (own_ed_21_ef m a) k
  obtain ⟨T1, X1, e1, st1⟩ := getF X0 hx hZ hown (host := "") (Or.inl (hw _ (own_m 24 rfl))) Via.refl e0 F_elementData (g := (mkF m 1 #[rv a, iv 1] [(.ref a)])) rfl rfl (hb hby own_d15_1)
  obtain ⟨c2, c2A, c2q, c2S, c2N, c2H, c2G⟩ := id V_b
  have c2in : ¬ ((1 : Int32) < 0 ∨ c2.slots.size ≤ ((1 : Int32)).toNatClampNeg) := inb_of c2S ⟨by decide, by decide⟩
  have c2at : c2.slots[((1 : Int32)).toNatClampNeg]? = some (.ref y1) := Has.at c2H c2in rfl
  obtain ⟨fs, hr, hrun, hended, hW, hsame⟩ := X1.leave (v := some (.ref y1)) (fun h => by rw [Bd.returns] at h; cases h)
  refine ⟨_, _, pre0 _ ?_, hrun, hended, _, _, rfl, ?_, ⟨_, rfl⟩, hW, hsame.mono (by decide) (by decide)⟩
  · show Steps p.tables e below (s₁.setTop (mkF m 0 #[rv a, iv 1] [])) _
    refine XS.aloadN X0.here hx rfl (hb hby own_d15_0) rfl rfl ?_
    show Steps p.tables e below (s₁.setTop (mkF m 1 #[rv a, iv 1] [(.ref a)])) _
    refine st1 _ ?_
    show Steps p.tables e below (T1.setTop (mkF m 4 #[rv a, iv 1] [(.ref b)])) _
    refine XS.iloadN X1.here hx rfl (hb hby own_d15_4) rfl ?_
    show Steps p.tables e below (T1.setTop (mkF m 5 #[rv a, iv 1] [(.int 1), (.ref b)])) _
    refine X1.aaload hx (j := (1 : Int32)) (v := (.ref y1)) (by rw [e1]; exact c2A.1) (State.isArrayOf_alike hZ.alike c2A.2.1) rfl c2A.2.2 c2in c2at (g := (mkF m 5 #[rv a, iv 1] [(.int 1), (.ref b)])) rfl rfl (hb hby own_d15_5) _ ?_
    show Steps p.tables e below (T1.setTop (mkF m 6 #[rv a, iv 1] [(.ref y1)])) _
    jvm_step X1.here [X1.here.top, hx, (hb hby own_d15_6), X1.method', Bd.returns, Value.isRef, FieldType.isReference]
    first | (intro acts; rw [hr _ acts rfl rfl rfl]) | rw [hr _ _ rfl rfl rfl]
    exact Steps.refl _
  · show own_ed_21_Q Z w_DE k_DE w_CA a b kb y0 y1 h0 n0 _ T1.heap _
    rw [e1]
    exact ⟨rfl, N0, rfl⟩
theorem own_get_21_ef (m : MethodId) (a : Addr) : entryFrame m #[(.ref a), (.int 1)] 2 = mkF m 0 #[rv a, iv 1] [] := by first | (simp [entryFrame, mkF, argsToLocals, Value.category]; done) | rfl
def own_get_21_Q (Z : State) (w_DE : Addr) (k_DE : ClassId) (w_CA : Addr) (a : Addr) (b : Addr) (kb : ClassId) (y0 : Addr) (y1 : Addr) (h0 : Heap) (n0 : Nat) (v : Option Value) (h : Heap) (L : List Loc) : Prop := v = some (.ref y1) ∧ Fr n0 L ∧ h = h0
set_option maxRecDepth 65536 in
set_option maxHeartbeats 40000000 in
theorem own_get_21 (l : Launch) (Z : State) (a0 : Array Value) (hw : ∀ d ∈ tables_1, d.before a0 Z = true) (ws : List Jvm.Cond) (w_DE : Addr) (k_DE : ClassId) (w_CA : Addr) (a : Addr) (b : Addr) (kb : ClassId) (y0 : Addr) (y1 : Addr) (h0 : Heap) (n0 : Nat) (O0 : Old Z n0 h0) (S_DE : Sta Z Z.heap "java/util/ArrayList" "DEFAULTCAPACITY_EMPTY_ELEMENTDATA" "[Ljava/lang/Object;" (.ref w_DE)) (V_DE : Arv Z Z.heap w_DE k_DE (.object "java/lang/Object") (0 : Int32) [] .null) (S_CA : Sta Z Z.heap "java/lang/Long$LongCache" "cache" "[Ljava/lang/Long;" (.ref w_CA)) (H_CA : own_Cache Z w_CA) (F_elementData : Fld Z h0 a "java/util/ArrayList" "elementData" "[Ljava/lang/Object;" (.ref b)) (F_size : Fld Z h0 a "java/util/ArrayList" "size" "I" (.int 2)) (E_a : Exa Z h0 a "java/util/ArrayList") (V_b : Arv Z h0 b kb (.object "java/lang/Object") (10 : Int32) [(.ref y0), (.ref y1), .null, .null, .null, .null, .null, .null, .null, .null] .null) :
    MetFree l (⟨"java/util/ArrayList", "get", "(I)Ljava/lang/Object;"⟩ : MethodName) (head1 (Jvm.Cond.code (⟨"java/util/ArrayList", "get", "(I)Ljava/lang/Object;"⟩ : MethodName) jdk_38_method_20_code 2 (some (.object "java/lang/Object")) :: ws) ({ frames := 2, cells := 0, slots := 0, locals := 27 } : Room)) (fun ar U => ar = #[(.ref a), (.int 1)] ∧ Z.Warmed39 U.vm ∧ U.heap = h0) (fun _ _ _ _ _ => True) (fun _ U oc U' => ∃ v L, oc = .returned v ∧ own_get_21_Q Z w_DE k_DE w_CA a b kb y0 y1 h0 n0 v U'.heap L ∧ FrameEnd U oc U' L ({ frames := 2, cells := 0, slots := 0, locals := 27 } : Room).cells ({ frames := 2, cells := 0, slots := 0, locals := 27 } : Room).slots) := by
  refine MetFree.of_bodySF (plainFor_of_name own_pn4) hisR ?_
  intro p e s m args below meth c s₁ Bd hml0 hP hK
  obtain ⟨rfl, hZ, hh⟩ := hP
  have hx := Bd.exec
  have hby := Bd.bytes
  have hml : c.maxLocals = 2 := hml0
  have hown : s.vm.findClass "java/util/ArrayList" = some m.cls := findClass_of_methodNamed Bd.named
  have hnm := (name_of_methodNamed Bd.named Bd.method).1
  have X0 : Stand p l e ({ frames := 2, cells := 0, slots := 0, locals := 27 } : Room) s m #[(.ref a), (.int 1)] below meth c s₁ [] 0 0 := Stand.of_body Bd
  have e0 : s₁.heap = h0 := by rw [← hh, Bd.state]; rfl
  have N0 := Fr.nil n0
  have pre0 : ∀ t, Steps p.tables e below (s₁.setTop (mkF m 0 #[rv a, iv 1] [])) t → Steps p.tables e below (s₁.setTop (entryFrame m #[(.ref a), (.int 1)] 2)) t := fun t k => castTop (own_get_21_ef m a) k
  obtain ⟨T1, X1, e1, st1⟩ := getF X0 hx hZ hown (host := "") (Or.inl (hw _ (own_m 41 rfl))) Via.refl e0 F_size (g := (mkF m 2 #[rv a, iv 1] [(.ref a), (.int 1)])) rfl rfl (hb hby own_d12_2)
  obtain ⟨_, _, ⟨T2, L2, k2, n2⟩, -, X2, ⟨Lc2, hQ2, l2, y2, z2⟩, st2⟩ := Jvm.LawKit.callS X1 hx (y := (⟨"java/util/Objects", "checkIndex", "(II)I"⟩ : MethodName)) hown (mvT hZ (hw _ (own_m 80 rfl))) (mvT hZ (hw _ (own_m 81 rfl))) (mvT hZ (hw _ (own_m 82 rfl))) (mvT hZ (hw _ (own_m 83 rfl))) (by decide) (backOf (W := 0) (own_c1_21 l Z a0 hw [] w_DE k_DE w_CA  h0 n0 O0 S_DE V_DE S_CA H_CA ) hZ (hw _ (own_m 83 rfl)) (hw _ (own_m 82 rfl)) (by decide) (by decide)) (g := (mkF m 5 #[rv a, iv 1] [(.int 2), (.int 1)])) rfl (by rw [hml]; rfl) (argsL := [(.int 1), (.int 2)]) (rest := []) (lenOf own_pd2 rfl) rfl (by show 2 * 0 + _ ≤ _; exact Nat.le_of_eq rfl) (hb hby own_d12_5) (fun _ _ => ⟨rfl, e1, (by decide : 0 + 0 ≤ _), (by decide : 0 + 0 ≤ _)⟩)
  dsimp only [Pt.U, Pt.locs, Pt.cells, Pt.slots] at X2 l2 y2 z2 st2 hQ2
  subst l2 y2 z2
  obtain ⟨rfl, N2q, e2⟩ := hQ2
  have N2 := Fr.app N0 N2q
  obtain ⟨cq3, kq3, q3a, q3b, q3c⟩ := isOf hZ e2 E_a
  obtain ⟨_, _, ⟨T3, L3, k3, n3⟩, -, X3, ⟨Lc3, hQ3, l3, y3, z3⟩, st3⟩ := X2.virtualBack hx (y := (⟨"java/util/ArrayList", "elementData", "(I)Ljava/lang/Object;"⟩ : MethodName)) (z := (⟨"java/util/ArrayList", "elementData", "(I)Ljava/lang/Object;"⟩ : MethodName)) hown (mvT hZ (hw _ (own_m 88 rfl))) (mvT hZ (hw _ (own_m 89 rfl))) (notFace_of_selects (args := #[]) (mvT hZ (hw _ (own_m 91 rfl)))) (mvT hZ (hw _ (own_m 91 rfl))) (mvT hZ (hw _ (own_m 90 rfl))) (by decide) (backOf (W := 0) (own_ed_21 l Z a0 hw [] w_DE k_DE w_CA a b kb y0 y1 h0 n0 O0 S_DE V_DE S_CA H_CA F_elementData F_size E_a V_b) hZ (hw _ (own_m 92 rfl)) (hw _ (own_m 2 rfl)) (by decide) (by decide)) q3a q3c (g := (mkF m 11 #[rv a, iv 1] [(.int 1), (.ref a)])) rfl (by rw [hml]; rfl) (Steps.refl _) (argsL := [(.int 1)]) (rest := []) (lenOf own_pd7 rfl) rfl (by show 2 * 0 + _ ≤ _; exact Nat.le_of_eq rfl) (hb hby own_d12_11) (fun _ _ => ⟨rfl, e2, (by decide : 0 + 0 ≤ _), (by decide : 0 + 0 ≤ _)⟩)
  dsimp only [Pt.U, Pt.locs, Pt.cells, Pt.slots] at X3 l3 y3 z3 st3 hQ3
  subst l3 y3 z3
  obtain ⟨rfl, N3q, e3⟩ := hQ3
  have N3 := Fr.app N2 N3q
  obtain ⟨fs, hr, hrun, hended, hW, hsame⟩ := X3.leave (v := some (.ref y1)) (fun h => by rw [Bd.returns] at h; cases h)
  refine ⟨_, _, pre0 _ ?_, hrun, hended, _, _, rfl, ?_, ⟨_, rfl⟩, hW, hsame.mono (by decide) (by decide)⟩
  · show Steps p.tables e below (s₁.setTop (mkF m 0 #[rv a, iv 1] [])) _
    refine XS.iloadN X0.here hx rfl (hb hby own_d12_0) rfl ?_
    show Steps p.tables e below (s₁.setTop (mkF m 1 #[rv a, iv 1] [(.int 1)])) _
    refine XS.aloadN X0.here hx rfl (hb hby own_d12_1) rfl rfl ?_
    show Steps p.tables e below (s₁.setTop (mkF m 2 #[rv a, iv 1] [(.ref a), (.int 1)])) _
    refine st1 _ ?_
    show Steps p.tables e below (T1.setTop (mkF m 5 #[rv a, iv 1] [(.int 2), (.int 1)])) _
    refine st2 _ ?_
    show Steps p.tables e below (T2.setTop (mkF m 8 #[rv a, iv 1] [(.int 1)])) _
    refine XS.pop X2.here hx rfl (hb hby own_d12_8) rfl rfl ?_
    show Steps p.tables e below (T2.setTop (mkF m 9 #[rv a, iv 1] [])) _
    refine XS.aloadN X2.here hx rfl (hb hby own_d12_9) rfl rfl ?_
    show Steps p.tables e below (T2.setTop (mkF m 10 #[rv a, iv 1] [(.ref a)])) _
    refine XS.iloadN X2.here hx rfl (hb hby own_d12_10) rfl ?_
    show Steps p.tables e below (T2.setTop (mkF m 11 #[rv a, iv 1] [(.int 1), (.ref a)])) _
    refine st3.trans ?_
    show Steps p.tables e below (T3.setTop (mkF m 14 #[rv a, iv 1] [(.ref y1)])) _
    jvm_step X3.here [X3.here.top, hx, (hb hby own_d12_14), X3.method', Bd.returns, Value.isRef, FieldType.isReference]
    first | (intro acts; rw [hr _ acts rfl rfl rfl]) | rw [hr _ _ rfl rfl rfl]
    exact Steps.refl _
  · show own_get_21_Q Z w_DE k_DE w_CA a b kb y0 y1 h0 n0 _ T3.heap _
    rw [e3]
    exact ⟨rfl, N3, rfl⟩
theorem own_c2_30_ef (m : MethodId)  : entryFrame m #[(.int 0), (.int 3), .null] 3 = mkF m 0 #[iv 0, iv 3, .val .null] [] := by first | (simp [entryFrame, mkF, argsToLocals, Value.category]; done) | rfl
def own_c2_30_Q (Z : State) (w_DE : Addr) (k_DE : ClassId) (w_CA : Addr) (h0 : Heap) (n0 : Nat) (v : Option Value) (h : Heap) (L : List Loc) : Prop := v = some (.int 0) ∧ Fr n0 L ∧ h = h0
set_option maxRecDepth 65536 in
set_option maxHeartbeats 40000000 in
theorem own_c2_30 (l : Launch) (Z : State) (a0 : Array Value) (hw : ∀ d ∈ tables_1, d.before a0 Z = true) (ws : List Jvm.Cond) (w_DE : Addr) (k_DE : ClassId) (w_CA : Addr) (h0 : Heap) (n0 : Nat) (O0 : Old Z n0 h0) (S_DE : Sta Z Z.heap "java/util/ArrayList" "DEFAULTCAPACITY_EMPTY_ELEMENTDATA" "[Ljava/lang/Object;" (.ref w_DE)) (V_DE : Arv Z Z.heap w_DE k_DE (.object "java/lang/Object") (0 : Int32) [] .null) (S_CA : Sta Z Z.heap "java/lang/Long$LongCache" "cache" "[Ljava/lang/Long;" (.ref w_CA)) (H_CA : own_Cache Z w_CA) :
    MetFree l (⟨"jdk/internal/util/Preconditions", "checkIndex", "(IILjava/util/function/BiFunction;)I"⟩ : MethodName) (head1 (Jvm.Cond.code (⟨"jdk/internal/util/Preconditions", "checkIndex", "(IILjava/util/function/BiFunction;)I"⟩ : MethodName) jdk_41_method_11_code 3 (some .int) :: ws) ({ frames := 0, cells := 0, slots := 0, locals := 0 } : Room)) (fun ar U => ar = #[(.int 0), (.int 3), .null] ∧ Z.Warmed39 U.vm ∧ U.heap = h0) (fun _ _ _ _ _ => True) (fun _ U oc U' => ∃ v L, oc = .returned v ∧ own_c2_30_Q Z w_DE k_DE w_CA h0 n0 v U'.heap L ∧ FrameEnd U oc U' L ({ frames := 0, cells := 0, slots := 0, locals := 0 } : Room).cells ({ frames := 0, cells := 0, slots := 0, locals := 0 } : Room).slots) := by
  refine MetFree.of_bodySF (plainFor_of_name own_pn6) hisR ?_
  intro p e s m args below meth c s₁ Bd hml0 hP hK
  obtain ⟨rfl, hZ, hh⟩ := hP
  have hx := Bd.exec
  have hby := Bd.bytes
  have hml : c.maxLocals = 3 := hml0
  have hown : s.vm.findClass "jdk/internal/util/Preconditions" = some m.cls := findClass_of_methodNamed Bd.named
  have hnm := (name_of_methodNamed Bd.named Bd.method).1
  have X0 : Stand p l e ({ frames := 0, cells := 0, slots := 0, locals := 0 } : Room) s m #[(.int 0), (.int 3), .null] below meth c s₁ [] 0 0 := Stand.of_body Bd
  have e0 : s₁.heap = h0 := by rw [← hh, Bd.state]; rfl
  have N0 := Fr.nil n0
  have pre0 : ∀ t, Steps p.tables e below (s₁.setTop (mkF m 0 #[iv 0, iv 3, .val .null] [])) t → Steps p.tables e below (s₁.setTop (entryFrame m #[(.int 0), (.int 3), .null] 3)) t := fun t k => castTop (own_c2_30_ef m ) k
  obtain ⟨fs, hr, hrun, hended, hW, hsame⟩ := X0.leave (v := some (.int 0)) (fun h => by rw [Bd.returns] at h; cases h)
  refine ⟨_, _, pre0 _ ?_, hrun, hended, _, _, rfl, ?_, ⟨_, rfl⟩, hW, hsame.mono (by decide) (by decide)⟩
  · show Steps p.tables e below (s₁.setTop (mkF m 0 #[iv 0, iv 3, .val .null] [])) _
    refine XS.iloadN X0.here hx rfl (hb hby own_d14_0) rfl ?_
    show Steps p.tables e below (s₁.setTop (mkF m 1 #[iv 0, iv 3, .val .null] [(.int 0)])) _
    refine XS.ifNo X0.here hx rfl (hb hby own_d14_1) rfl ((if0 _ _).trans (flt (by decide)).1) ?_
    show Steps p.tables e below (s₁.setTop (mkF m 4 #[iv 0, iv 3, .val .null] [])) _
    refine XS.iloadN X0.here hx rfl (hb hby own_d14_4) rfl ?_
    show Steps p.tables e below (s₁.setTop (mkF m 5 #[iv 0, iv 3, .val .null] [(.int 0)])) _
    refine XS.iloadN X0.here hx rfl (hb hby own_d14_5) rfl ?_
    show Steps p.tables e below (s₁.setTop (mkF m 6 #[iv 0, iv 3, .val .null] [(.int 3), (.int 0)])) _
    refine XS.icmpYes X0.here hx rfl (pc0 := 6) (pc' := 16) rfl (hb hby own_d14_6) rfl (tlt (by decide)).1 (by decide) (by decide) ?_
    show Steps p.tables e below (s₁.setTop (mkF m 16 #[iv 0, iv 3, .val .null] [])) _
    refine XS.iloadN X0.here hx rfl (hb hby own_d14_16) rfl ?_
    show Steps p.tables e below (s₁.setTop (mkF m 17 #[iv 0, iv 3, .val .null] [(.int 0)])) _
    exact retI X0 hx Bd.returns (hb hby own_d14_17) hr
  · show own_c2_30_Q Z w_DE k_DE w_CA h0 n0 _ s₁.heap _
    rw [e0]
    exact ⟨rfl, N0, rfl⟩
theorem own_c1_30_ef (m : MethodId)  : entryFrame m #[(.int 0), (.int 3)] 2 = mkF m 0 #[iv 0, iv 3] [] := by first | (simp [entryFrame, mkF, argsToLocals, Value.category]; done) | rfl
def own_c1_30_Q (Z : State) (w_DE : Addr) (k_DE : ClassId) (w_CA : Addr) (h0 : Heap) (n0 : Nat) (v : Option Value) (h : Heap) (L : List Loc) : Prop := v = some (.int 0) ∧ Fr n0 L ∧ h = h0
set_option maxRecDepth 65536 in
set_option maxHeartbeats 40000000 in
theorem own_c1_30 (l : Launch) (Z : State) (a0 : Array Value) (hw : ∀ d ∈ tables_1, d.before a0 Z = true) (ws : List Jvm.Cond) (w_DE : Addr) (k_DE : ClassId) (w_CA : Addr) (h0 : Heap) (n0 : Nat) (O0 : Old Z n0 h0) (S_DE : Sta Z Z.heap "java/util/ArrayList" "DEFAULTCAPACITY_EMPTY_ELEMENTDATA" "[Ljava/lang/Object;" (.ref w_DE)) (V_DE : Arv Z Z.heap w_DE k_DE (.object "java/lang/Object") (0 : Int32) [] .null) (S_CA : Sta Z Z.heap "java/lang/Long$LongCache" "cache" "[Ljava/lang/Long;" (.ref w_CA)) (H_CA : own_Cache Z w_CA) :
    MetFree l (⟨"java/util/Objects", "checkIndex", "(II)I"⟩ : MethodName) (head1 (Jvm.Cond.code (⟨"java/util/Objects", "checkIndex", "(II)I"⟩ : MethodName) jdk_31_method_17_code 2 (some .int) :: ws) ({ frames := 1, cells := 0, slots := 0, locals := 14 } : Room)) (fun ar U => ar = #[(.int 0), (.int 3)] ∧ Z.Warmed39 U.vm ∧ U.heap = h0) (fun _ _ _ _ _ => True) (fun _ U oc U' => ∃ v L, oc = .returned v ∧ own_c1_30_Q Z w_DE k_DE w_CA h0 n0 v U'.heap L ∧ FrameEnd U oc U' L ({ frames := 1, cells := 0, slots := 0, locals := 14 } : Room).cells ({ frames := 1, cells := 0, slots := 0, locals := 14 } : Room).slots) := by
  refine MetFree.of_bodySF (plainFor_of_name own_pn7) hisR ?_
  intro p e s m args below meth c s₁ Bd hml0 hP hK
  obtain ⟨rfl, hZ, hh⟩ := hP
  have hx := Bd.exec
  have hby := Bd.bytes
  have hml : c.maxLocals = 2 := hml0
  have hown : s.vm.findClass "java/util/Objects" = some m.cls := findClass_of_methodNamed Bd.named
  have hnm := (name_of_methodNamed Bd.named Bd.method).1
  have X0 : Stand p l e ({ frames := 1, cells := 0, slots := 0, locals := 14 } : Room) s m #[(.int 0), (.int 3)] below meth c s₁ [] 0 0 := Stand.of_body Bd
  have e0 : s₁.heap = h0 := by rw [← hh, Bd.state]; rfl
  have N0 := Fr.nil n0
  have pre0 : ∀ t, Steps p.tables e below (s₁.setTop (mkF m 0 #[iv 0, iv 3] [])) t → Steps p.tables e below (s₁.setTop (entryFrame m #[(.int 0), (.int 3)] 2)) t := fun t k => castTop (own_c1_30_ef m ) k
  obtain ⟨_, _, ⟨T1, L1, k1, n1⟩, -, X1, ⟨Lc1, hQ1, l1, y1, z1⟩, st1⟩ := Jvm.LawKit.callS X0 hx (y := (⟨"jdk/internal/util/Preconditions", "checkIndex", "(IILjava/util/function/BiFunction;)I"⟩ : MethodName)) hown (mvT hZ (hw _ (own_m 84 rfl))) (mvT hZ (hw _ (own_m 85 rfl))) (mvT hZ (hw _ (own_m 86 rfl))) (mvT hZ (hw _ (own_m 87 rfl))) (by decide) (backOf (W := 0) (own_c2_30 l Z a0 hw [] w_DE k_DE w_CA  h0 n0 O0 S_DE V_DE S_CA H_CA ) hZ (hw _ (own_m 87 rfl)) (hw _ (own_m 86 rfl)) (by decide) (by decide)) (g := (mkF m 3 #[iv 0, iv 3] [.null, (.int 3), (.int 0)])) rfl (by rw [hml]; rfl) (argsL := [(.int 0), (.int 3), .null]) (rest := []) (lenOf own_pd6 rfl) rfl (by show 2 * 0 + _ ≤ _; exact Nat.le_of_eq rfl) (hb hby own_d13_3) (fun _ _ => ⟨rfl, e0, (by decide : 0 + 0 ≤ _), (by decide : 0 + 0 ≤ _)⟩)
  dsimp only [Pt.U, Pt.locs, Pt.cells, Pt.slots] at X1 l1 y1 z1 st1 hQ1
  subst l1 y1 z1
  obtain ⟨rfl, N1q, e1⟩ := hQ1
  have N1 := Fr.app N0 N1q
  obtain ⟨fs, hr, hrun, hended, hW, hsame⟩ := X1.leave (v := some (.int 0)) (fun h => by rw [Bd.returns] at h; cases h)
  refine ⟨_, _, pre0 _ ?_, hrun, hended, _, _, rfl, ?_, ⟨_, rfl⟩, hW, hsame.mono (by decide) (by decide)⟩
  · show Steps p.tables e below (s₁.setTop (mkF m 0 #[iv 0, iv 3] [])) _
    refine XS.iloadN X0.here hx rfl (hb hby own_d13_0) rfl ?_
    show Steps p.tables e below (s₁.setTop (mkF m 1 #[iv 0, iv 3] [(.int 0)])) _
    refine XS.iloadN X0.here hx rfl (hb hby own_d13_1) rfl ?_
    show Steps p.tables e below (s₁.setTop (mkF m 2 #[iv 0, iv 3] [(.int 3), (.int 0)])) _
    refine XS.aconstNull X0.here hx rfl (hb hby own_d13_2) ?_
    show Steps p.tables e below (s₁.setTop (mkF m 3 #[iv 0, iv 3] [.null, (.int 3), (.int 0)])) _
    refine st1 _ ?_
    show Steps p.tables e below (T1.setTop (mkF m 6 #[iv 0, iv 3] [(.int 0)])) _
    exact retI X1 hx Bd.returns (hb hby own_d13_6) hr
  · show own_c1_30_Q Z w_DE k_DE w_CA h0 n0 _ T1.heap _
    rw [e1]
    exact ⟨rfl, N1, rfl⟩
theorem own_ed_30_ef (m : MethodId) (a : Addr) : entryFrame m #[(.ref a), (.int 0)] 2 = mkF m 0 #[rv a, iv 0] [] := by first | (simp [entryFrame, mkF, argsToLocals, Value.category]; done) | rfl
def own_ed_30_Q (Z : State) (w_DE : Addr) (k_DE : ClassId) (w_CA : Addr) (a : Addr) (b : Addr) (kb : ClassId) (y0 : Addr) (y1 : Addr) (y2 : Addr) (h0 : Heap) (n0 : Nat) (v : Option Value) (h : Heap) (L : List Loc) : Prop := v = some (.ref y0) ∧ Fr n0 L ∧ h = h0
set_option maxRecDepth 65536 in
set_option maxHeartbeats 40000000 in
theorem own_ed_30 (l : Launch) (Z : State) (a0 : Array Value) (hw : ∀ d ∈ tables_1, d.before a0 Z = true) (ws : List Jvm.Cond) (w_DE : Addr) (k_DE : ClassId) (w_CA : Addr) (a : Addr) (b : Addr) (kb : ClassId) (y0 : Addr) (y1 : Addr) (y2 : Addr) (h0 : Heap) (n0 : Nat) (O0 : Old Z n0 h0) (S_DE : Sta Z Z.heap "java/util/ArrayList" "DEFAULTCAPACITY_EMPTY_ELEMENTDATA" "[Ljava/lang/Object;" (.ref w_DE)) (V_DE : Arv Z Z.heap w_DE k_DE (.object "java/lang/Object") (0 : Int32) [] .null) (S_CA : Sta Z Z.heap "java/lang/Long$LongCache" "cache" "[Ljava/lang/Long;" (.ref w_CA)) (H_CA : own_Cache Z w_CA) (F_elementData : Fld Z h0 a "java/util/ArrayList" "elementData" "[Ljava/lang/Object;" (.ref b)) (F_size : Fld Z h0 a "java/util/ArrayList" "size" "I" (.int 3)) (E_a : Exa Z h0 a "java/util/ArrayList") (V_b : Arv Z h0 b kb (.object "java/lang/Object") (10 : Int32) [(.ref y0), (.ref y1), (.ref y2), .null, .null, .null, .null, .null, .null, .null] .null) :
    MetFree l (⟨"java/util/ArrayList", "elementData", "(I)Ljava/lang/Object;"⟩ : MethodName) (head1 (Jvm.Cond.code (⟨"java/util/ArrayList", "elementData", "(I)Ljava/lang/Object;"⟩ : MethodName) jdk_38_method_18_code 2 (some (.object "java/lang/Object")) :: ws) ({ frames := 0, cells := 0, slots := 0, locals := 0 } : Room)) (fun ar U => ar = #[(.ref a), (.int 0)] ∧ Z.Warmed39 U.vm ∧ U.heap = h0) (fun _ _ _ _ _ => True) (fun _ U oc U' => ∃ v L, oc = .returned v ∧ own_ed_30_Q Z w_DE k_DE w_CA a b kb y0 y1 y2 h0 n0 v U'.heap L ∧ FrameEnd U oc U' L ({ frames := 0, cells := 0, slots := 0, locals := 0 } : Room).cells ({ frames := 0, cells := 0, slots := 0, locals := 0 } : Room).slots) := by
  refine MetFree.of_bodySF (plainFor_of_name own_pn4) hisR ?_
  intro p e s m args below meth c s₁ Bd hml0 hP hK
  obtain ⟨rfl, hZ, hh⟩ := hP
  have hx := Bd.exec
  have hby := Bd.bytes
  have hml : c.maxLocals = 2 := hml0
  have hown : s.vm.findClass "java/util/ArrayList" = some m.cls := findClass_of_methodNamed Bd.named
  have hnm := (name_of_methodNamed Bd.named Bd.method).1
  have X0 : Stand p l e ({ frames := 0, cells := 0, slots := 0, locals := 0 } : Room) s m #[(.ref a), (.int 0)] below meth c s₁ [] 0 0 := Stand.of_body Bd
  have e0 : s₁.heap = h0 := by rw [← hh, Bd.state]; rfl
  have N0 := Fr.nil n0
  have pre0 : ∀ t, Steps p.tables e below (s₁.setTop (mkF m 0 #[rv a, iv 0] [])) t → Steps p.tables e below (s₁.setTop (entryFrame m #[(.ref a), (.int 0)] 2)) t := fun t k => castTop (own_ed_30_ef m a) k
  obtain ⟨T1, X1, e1, st1⟩ := getF X0 hx hZ hown (host := "") (Or.inl (hw _ (own_m 24 rfl))) Via.refl e0 F_elementData (g := (mkF m 1 #[rv a, iv 0] [(.ref a)])) rfl rfl (hb hby own_d15_1)
  obtain ⟨c2, c2A, c2q, c2S, c2N, c2H, c2G⟩ := id V_b
  have c2in : ¬ ((0 : Int32) < 0 ∨ c2.slots.size ≤ ((0 : Int32)).toNatClampNeg) := inb_of c2S ⟨by decide, by decide⟩
  have c2at : c2.slots[((0 : Int32)).toNatClampNeg]? = some (.ref y0) := Has.at c2H c2in rfl
  obtain ⟨fs, hr, hrun, hended, hW, hsame⟩ := X1.leave (v := some (.ref y0)) (fun h => by rw [Bd.returns] at h; cases h)
  refine ⟨_, _, pre0 _ ?_, hrun, hended, _, _, rfl, ?_, ⟨_, rfl⟩, hW, hsame.mono (by decide) (by decide)⟩
  · show Steps p.tables e below (s₁.setTop (mkF m 0 #[rv a, iv 0] [])) _
    refine XS.aloadN X0.here hx rfl (hb hby own_d15_0) rfl rfl ?_
    show Steps p.tables e below (s₁.setTop (mkF m 1 #[rv a, iv 0] [(.ref a)])) _
    refine st1 _ ?_
    show Steps p.tables e below (T1.setTop (mkF m 4 #[rv a, iv 0] [(.ref b)])) _
    refine XS.iloadN X1.here hx rfl (hb hby own_d15_4) rfl ?_
    show Steps p.tables e below (T1.setTop (mkF m 5 #[rv a, iv 0] [(.int 0), (.ref b)])) _
    refine X1.aaload hx (j := (0 : Int32)) (v := (.ref y0)) (by rw [e1]; exact c2A.1) (State.isArrayOf_alike hZ.alike c2A.2.1) rfl c2A.2.2 c2in c2at (g := (mkF m 5 #[rv a, iv 0] [(.int 0), (.ref b)])) rfl rfl (hb hby own_d15_5) _ ?_
    show Steps p.tables e below (T1.setTop (mkF m 6 #[rv a, iv 0] [(.ref y0)])) _
    jvm_step X1.here [X1.here.top, hx, (hb hby own_d15_6), X1.method', Bd.returns, Value.isRef, FieldType.isReference]
    first | (intro acts; rw [hr _ acts rfl rfl rfl]) | rw [hr _ _ rfl rfl rfl]
    exact Steps.refl _
  · show own_ed_30_Q Z w_DE k_DE w_CA a b kb y0 y1 y2 h0 n0 _ T1.heap _
    rw [e1]
    exact ⟨rfl, N0, rfl⟩
theorem own_get_30_ef (m : MethodId) (a : Addr) : entryFrame m #[(.ref a), (.int 0)] 2 = mkF m 0 #[rv a, iv 0] [] := by first | (simp [entryFrame, mkF, argsToLocals, Value.category]; done) | rfl
def own_get_30_Q (Z : State) (w_DE : Addr) (k_DE : ClassId) (w_CA : Addr) (a : Addr) (b : Addr) (kb : ClassId) (y0 : Addr) (y1 : Addr) (y2 : Addr) (h0 : Heap) (n0 : Nat) (v : Option Value) (h : Heap) (L : List Loc) : Prop := v = some (.ref y0) ∧ Fr n0 L ∧ h = h0
set_option maxRecDepth 65536 in
set_option maxHeartbeats 40000000 in
theorem own_get_30 (l : Launch) (Z : State) (a0 : Array Value) (hw : ∀ d ∈ tables_1, d.before a0 Z = true) (ws : List Jvm.Cond) (w_DE : Addr) (k_DE : ClassId) (w_CA : Addr) (a : Addr) (b : Addr) (kb : ClassId) (y0 : Addr) (y1 : Addr) (y2 : Addr) (h0 : Heap) (n0 : Nat) (O0 : Old Z n0 h0) (S_DE : Sta Z Z.heap "java/util/ArrayList" "DEFAULTCAPACITY_EMPTY_ELEMENTDATA" "[Ljava/lang/Object;" (.ref w_DE)) (V_DE : Arv Z Z.heap w_DE k_DE (.object "java/lang/Object") (0 : Int32) [] .null) (S_CA : Sta Z Z.heap "java/lang/Long$LongCache" "cache" "[Ljava/lang/Long;" (.ref w_CA)) (H_CA : own_Cache Z w_CA) (F_elementData : Fld Z h0 a "java/util/ArrayList" "elementData" "[Ljava/lang/Object;" (.ref b)) (F_size : Fld Z h0 a "java/util/ArrayList" "size" "I" (.int 3)) (E_a : Exa Z h0 a "java/util/ArrayList") (V_b : Arv Z h0 b kb (.object "java/lang/Object") (10 : Int32) [(.ref y0), (.ref y1), (.ref y2), .null, .null, .null, .null, .null, .null, .null] .null) :
    MetFree l (⟨"java/util/ArrayList", "get", "(I)Ljava/lang/Object;"⟩ : MethodName) (head1 (Jvm.Cond.code (⟨"java/util/ArrayList", "get", "(I)Ljava/lang/Object;"⟩ : MethodName) jdk_38_method_20_code 2 (some (.object "java/lang/Object")) :: ws) ({ frames := 2, cells := 0, slots := 0, locals := 27 } : Room)) (fun ar U => ar = #[(.ref a), (.int 0)] ∧ Z.Warmed39 U.vm ∧ U.heap = h0) (fun _ _ _ _ _ => True) (fun _ U oc U' => ∃ v L, oc = .returned v ∧ own_get_30_Q Z w_DE k_DE w_CA a b kb y0 y1 y2 h0 n0 v U'.heap L ∧ FrameEnd U oc U' L ({ frames := 2, cells := 0, slots := 0, locals := 27 } : Room).cells ({ frames := 2, cells := 0, slots := 0, locals := 27 } : Room).slots) := by
  refine MetFree.of_bodySF (plainFor_of_name own_pn4) hisR ?_
  intro p e s m args below meth c s₁ Bd hml0 hP hK
  obtain ⟨rfl, hZ, hh⟩ := hP
  have hx := Bd.exec
  have hby := Bd.bytes
  have hml : c.maxLocals = 2 := hml0
  have hown : s.vm.findClass "java/util/ArrayList" = some m.cls := findClass_of_methodNamed Bd.named
  have hnm := (name_of_methodNamed Bd.named Bd.method).1
  have X0 : Stand p l e ({ frames := 2, cells := 0, slots := 0, locals := 27 } : Room) s m #[(.ref a), (.int 0)] below meth c s₁ [] 0 0 := Stand.of_body Bd
  have e0 : s₁.heap = h0 := by rw [← hh, Bd.state]; rfl
  have N0 := Fr.nil n0
  have pre0 : ∀ t, Steps p.tables e below (s₁.setTop (mkF m 0 #[rv a, iv 0] [])) t → Steps p.tables e below (s₁.setTop (entryFrame m #[(.ref a), (.int 0)] 2)) t := fun t k => castTop (own_get_30_ef m a) k
  obtain ⟨T1, X1, e1, st1⟩ := getF X0 hx hZ hown (host := "") (Or.inl (hw _ (own_m 41 rfl))) Via.refl e0 F_size (g := (mkF m 2 #[rv a, iv 0] [(.ref a), (.int 0)])) rfl rfl (hb hby own_d12_2)
  obtain ⟨_, _, ⟨T2, L2, k2, n2⟩, -, X2, ⟨Lc2, hQ2, l2, y2, z2⟩, st2⟩ := Jvm.LawKit.callS X1 hx (y := (⟨"java/util/Objects", "checkIndex", "(II)I"⟩ : MethodName)) hown (mvT hZ (hw _ (own_m 80 rfl))) (mvT hZ (hw _ (own_m 81 rfl))) (mvT hZ (hw _ (own_m 82 rfl))) (mvT hZ (hw _ (own_m 83 rfl))) (by decide) (backOf (W := 0) (own_c1_30 l Z a0 hw [] w_DE k_DE w_CA  h0 n0 O0 S_DE V_DE S_CA H_CA ) hZ (hw _ (own_m 83 rfl)) (hw _ (own_m 82 rfl)) (by decide) (by decide)) (g := (mkF m 5 #[rv a, iv 0] [(.int 3), (.int 0)])) rfl (by rw [hml]; rfl) (argsL := [(.int 0), (.int 3)]) (rest := []) (lenOf own_pd2 rfl) rfl (by show 2 * 0 + _ ≤ _; exact Nat.le_of_eq rfl) (hb hby own_d12_5) (fun _ _ => ⟨rfl, e1, (by decide : 0 + 0 ≤ _), (by decide : 0 + 0 ≤ _)⟩)
  dsimp only [Pt.U, Pt.locs, Pt.cells, Pt.slots] at X2 l2 y2 z2 st2 hQ2
  subst l2 y2 z2
  obtain ⟨rfl, N2q, e2⟩ := hQ2
  have N2 := Fr.app N0 N2q
  obtain ⟨cq3, kq3, q3a, q3b, q3c⟩ := isOf hZ e2 E_a
  obtain ⟨_, _, ⟨T3, L3, k3, n3⟩, -, X3, ⟨Lc3, hQ3, l3, y3, z3⟩, st3⟩ := X2.virtualBack hx (y := (⟨"java/util/ArrayList", "elementData", "(I)Ljava/lang/Object;"⟩ : MethodName)) (z := (⟨"java/util/ArrayList", "elementData", "(I)Ljava/lang/Object;"⟩ : MethodName)) hown (mvT hZ (hw _ (own_m 88 rfl))) (mvT hZ (hw _ (own_m 89 rfl))) (notFace_of_selects (args := #[]) (mvT hZ (hw _ (own_m 91 rfl)))) (mvT hZ (hw _ (own_m 91 rfl))) (mvT hZ (hw _ (own_m 90 rfl))) (by decide) (backOf (W := 0) (own_ed_30 l Z a0 hw [] w_DE k_DE w_CA a b kb y0 y1 y2 h0 n0 O0 S_DE V_DE S_CA H_CA F_elementData F_size E_a V_b) hZ (hw _ (own_m 92 rfl)) (hw _ (own_m 2 rfl)) (by decide) (by decide)) q3a q3c (g := (mkF m 11 #[rv a, iv 0] [(.int 0), (.ref a)])) rfl (by rw [hml]; rfl) (Steps.refl _) (argsL := [(.int 0)]) (rest := []) (lenOf own_pd7 rfl) rfl (by show 2 * 0 + _ ≤ _; exact Nat.le_of_eq rfl) (hb hby own_d12_11) (fun _ _ => ⟨rfl, e2, (by decide : 0 + 0 ≤ _), (by decide : 0 + 0 ≤ _)⟩)
  dsimp only [Pt.U, Pt.locs, Pt.cells, Pt.slots] at X3 l3 y3 z3 st3 hQ3
  subst l3 y3 z3
  obtain ⟨rfl, N3q, e3⟩ := hQ3
  have N3 := Fr.app N2 N3q
  obtain ⟨fs, hr, hrun, hended, hW, hsame⟩ := X3.leave (v := some (.ref y0)) (fun h => by rw [Bd.returns] at h; cases h)
  refine ⟨_, _, pre0 _ ?_, hrun, hended, _, _, rfl, ?_, ⟨_, rfl⟩, hW, hsame.mono (by decide) (by decide)⟩
  · show Steps p.tables e below (s₁.setTop (mkF m 0 #[rv a, iv 0] [])) _
    refine XS.iloadN X0.here hx rfl (hb hby own_d12_0) rfl ?_
    show Steps p.tables e below (s₁.setTop (mkF m 1 #[rv a, iv 0] [(.int 0)])) _
    refine XS.aloadN X0.here hx rfl (hb hby own_d12_1) rfl rfl ?_
    show Steps p.tables e below (s₁.setTop (mkF m 2 #[rv a, iv 0] [(.ref a), (.int 0)])) _
    refine st1 _ ?_
    show Steps p.tables e below (T1.setTop (mkF m 5 #[rv a, iv 0] [(.int 3), (.int 0)])) _
    refine st2 _ ?_
    show Steps p.tables e below (T2.setTop (mkF m 8 #[rv a, iv 0] [(.int 0)])) _
    refine XS.pop X2.here hx rfl (hb hby own_d12_8) rfl rfl ?_
    show Steps p.tables e below (T2.setTop (mkF m 9 #[rv a, iv 0] [])) _
    refine XS.aloadN X2.here hx rfl (hb hby own_d12_9) rfl rfl ?_
    show Steps p.tables e below (T2.setTop (mkF m 10 #[rv a, iv 0] [(.ref a)])) _
    refine XS.iloadN X2.here hx rfl (hb hby own_d12_10) rfl ?_
    show Steps p.tables e below (T2.setTop (mkF m 11 #[rv a, iv 0] [(.int 0), (.ref a)])) _
    refine st3.trans ?_
    show Steps p.tables e below (T3.setTop (mkF m 14 #[rv a, iv 0] [(.ref y0)])) _
    jvm_step X3.here [X3.here.top, hx, (hb hby own_d12_14), X3.method', Bd.returns, Value.isRef, FieldType.isReference]
    first | (intro acts; rw [hr _ acts rfl rfl rfl]) | rw [hr _ _ rfl rfl rfl]
    exact Steps.refl _
  · show own_get_30_Q Z w_DE k_DE w_CA a b kb y0 y1 y2 h0 n0 _ T3.heap _
    rw [e3]
    exact ⟨rfl, N3, rfl⟩
theorem own_c2_31_ef (m : MethodId)  : entryFrame m #[(.int 1), (.int 3), .null] 3 = mkF m 0 #[iv 1, iv 3, .val .null] [] := by first | (simp [entryFrame, mkF, argsToLocals, Value.category]; done) | rfl
def own_c2_31_Q (Z : State) (w_DE : Addr) (k_DE : ClassId) (w_CA : Addr) (h0 : Heap) (n0 : Nat) (v : Option Value) (h : Heap) (L : List Loc) : Prop := v = some (.int 1) ∧ Fr n0 L ∧ h = h0
set_option maxRecDepth 65536 in
set_option maxHeartbeats 40000000 in
theorem own_c2_31 (l : Launch) (Z : State) (a0 : Array Value) (hw : ∀ d ∈ tables_1, d.before a0 Z = true) (ws : List Jvm.Cond) (w_DE : Addr) (k_DE : ClassId) (w_CA : Addr) (h0 : Heap) (n0 : Nat) (O0 : Old Z n0 h0) (S_DE : Sta Z Z.heap "java/util/ArrayList" "DEFAULTCAPACITY_EMPTY_ELEMENTDATA" "[Ljava/lang/Object;" (.ref w_DE)) (V_DE : Arv Z Z.heap w_DE k_DE (.object "java/lang/Object") (0 : Int32) [] .null) (S_CA : Sta Z Z.heap "java/lang/Long$LongCache" "cache" "[Ljava/lang/Long;" (.ref w_CA)) (H_CA : own_Cache Z w_CA) :
    MetFree l (⟨"jdk/internal/util/Preconditions", "checkIndex", "(IILjava/util/function/BiFunction;)I"⟩ : MethodName) (head1 (Jvm.Cond.code (⟨"jdk/internal/util/Preconditions", "checkIndex", "(IILjava/util/function/BiFunction;)I"⟩ : MethodName) jdk_41_method_11_code 3 (some .int) :: ws) ({ frames := 0, cells := 0, slots := 0, locals := 0 } : Room)) (fun ar U => ar = #[(.int 1), (.int 3), .null] ∧ Z.Warmed39 U.vm ∧ U.heap = h0) (fun _ _ _ _ _ => True) (fun _ U oc U' => ∃ v L, oc = .returned v ∧ own_c2_31_Q Z w_DE k_DE w_CA h0 n0 v U'.heap L ∧ FrameEnd U oc U' L ({ frames := 0, cells := 0, slots := 0, locals := 0 } : Room).cells ({ frames := 0, cells := 0, slots := 0, locals := 0 } : Room).slots) := by
  refine MetFree.of_bodySF (plainFor_of_name own_pn6) hisR ?_
  intro p e s m args below meth c s₁ Bd hml0 hP hK
  obtain ⟨rfl, hZ, hh⟩ := hP
  have hx := Bd.exec
  have hby := Bd.bytes
  have hml : c.maxLocals = 3 := hml0
  have hown : s.vm.findClass "jdk/internal/util/Preconditions" = some m.cls := findClass_of_methodNamed Bd.named
  have hnm := (name_of_methodNamed Bd.named Bd.method).1
  have X0 : Stand p l e ({ frames := 0, cells := 0, slots := 0, locals := 0 } : Room) s m #[(.int 1), (.int 3), .null] below meth c s₁ [] 0 0 := Stand.of_body Bd
  have e0 : s₁.heap = h0 := by rw [← hh, Bd.state]; rfl
  have N0 := Fr.nil n0
  have pre0 : ∀ t, Steps p.tables e below (s₁.setTop (mkF m 0 #[iv 1, iv 3, .val .null] [])) t → Steps p.tables e below (s₁.setTop (entryFrame m #[(.int 1), (.int 3), .null] 3)) t := fun t k => castTop (own_c2_31_ef m ) k
  obtain ⟨fs, hr, hrun, hended, hW, hsame⟩ := X0.leave (v := some (.int 1)) (fun h => by rw [Bd.returns] at h; cases h)
  refine ⟨_, _, pre0 _ ?_, hrun, hended, _, _, rfl, ?_, ⟨_, rfl⟩, hW, hsame.mono (by decide) (by decide)⟩
  · show Steps p.tables e below (s₁.setTop (mkF m 0 #[iv 1, iv 3, .val .null] [])) _
    refine XS.iloadN X0.here hx rfl (hb hby own_d14_0) rfl ?_
    show Steps p.tables e below (s₁.setTop (mkF m 1 #[iv 1, iv 3, .val .null] [(.int 1)])) _
    refine XS.ifNo X0.here hx rfl (hb hby own_d14_1) rfl ((if0 _ _).trans (flt (by decide)).1) ?_
    show Steps p.tables e below (s₁.setTop (mkF m 4 #[iv 1, iv 3, .val .null] [])) _
    refine XS.iloadN X0.here hx rfl (hb hby own_d14_4) rfl ?_
    show Steps p.tables e below (s₁.setTop (mkF m 5 #[iv 1, iv 3, .val .null] [(.int 1)])) _
    refine XS.iloadN X0.here hx rfl (hb hby own_d14_5) rfl ?_
    show Steps p.tables e below (s₁.setTop (mkF m 6 #[iv 1, iv 3, .val .null] [(.int 3), (.int 1)])) _
    refine XS.icmpYes X0.here hx rfl (pc0 := 6) (pc' := 16) rfl (hb hby own_d14_6) rfl (tlt (by decide)).1 (by decide) (by decide) ?_
    show Steps p.tables e below (s₁.setTop (mkF m 16 #[iv 1, iv 3, .val .null] [])) _
    refine XS.iloadN X0.here hx rfl (hb hby own_d14_16) rfl ?_
    show Steps p.tables e below (s₁.setTop (mkF m 17 #[iv 1, iv 3, .val .null] [(.int 1)])) _
    exact retI X0 hx Bd.returns (hb hby own_d14_17) hr
  · show own_c2_31_Q Z w_DE k_DE w_CA h0 n0 _ s₁.heap _
    rw [e0]
    exact ⟨rfl, N0, rfl⟩
theorem own_c1_31_ef (m : MethodId)  : entryFrame m #[(.int 1), (.int 3)] 2 = mkF m 0 #[iv 1, iv 3] [] := by first | (simp [entryFrame, mkF, argsToLocals, Value.category]; done) | rfl
def own_c1_31_Q (Z : State) (w_DE : Addr) (k_DE : ClassId) (w_CA : Addr) (h0 : Heap) (n0 : Nat) (v : Option Value) (h : Heap) (L : List Loc) : Prop := v = some (.int 1) ∧ Fr n0 L ∧ h = h0
set_option maxRecDepth 65536 in
set_option maxHeartbeats 40000000 in
theorem own_c1_31 (l : Launch) (Z : State) (a0 : Array Value) (hw : ∀ d ∈ tables_1, d.before a0 Z = true) (ws : List Jvm.Cond) (w_DE : Addr) (k_DE : ClassId) (w_CA : Addr) (h0 : Heap) (n0 : Nat) (O0 : Old Z n0 h0) (S_DE : Sta Z Z.heap "java/util/ArrayList" "DEFAULTCAPACITY_EMPTY_ELEMENTDATA" "[Ljava/lang/Object;" (.ref w_DE)) (V_DE : Arv Z Z.heap w_DE k_DE (.object "java/lang/Object") (0 : Int32) [] .null) (S_CA : Sta Z Z.heap "java/lang/Long$LongCache" "cache" "[Ljava/lang/Long;" (.ref w_CA)) (H_CA : own_Cache Z w_CA) :
    MetFree l (⟨"java/util/Objects", "checkIndex", "(II)I"⟩ : MethodName) (head1 (Jvm.Cond.code (⟨"java/util/Objects", "checkIndex", "(II)I"⟩ : MethodName) jdk_31_method_17_code 2 (some .int) :: ws) ({ frames := 1, cells := 0, slots := 0, locals := 14 } : Room)) (fun ar U => ar = #[(.int 1), (.int 3)] ∧ Z.Warmed39 U.vm ∧ U.heap = h0) (fun _ _ _ _ _ => True) (fun _ U oc U' => ∃ v L, oc = .returned v ∧ own_c1_31_Q Z w_DE k_DE w_CA h0 n0 v U'.heap L ∧ FrameEnd U oc U' L ({ frames := 1, cells := 0, slots := 0, locals := 14 } : Room).cells ({ frames := 1, cells := 0, slots := 0, locals := 14 } : Room).slots) := by
  refine MetFree.of_bodySF (plainFor_of_name own_pn7) hisR ?_
  intro p e s m args below meth c s₁ Bd hml0 hP hK
  obtain ⟨rfl, hZ, hh⟩ := hP
  have hx := Bd.exec
  have hby := Bd.bytes
  have hml : c.maxLocals = 2 := hml0
  have hown : s.vm.findClass "java/util/Objects" = some m.cls := findClass_of_methodNamed Bd.named
  have hnm := (name_of_methodNamed Bd.named Bd.method).1
  have X0 : Stand p l e ({ frames := 1, cells := 0, slots := 0, locals := 14 } : Room) s m #[(.int 1), (.int 3)] below meth c s₁ [] 0 0 := Stand.of_body Bd
  have e0 : s₁.heap = h0 := by rw [← hh, Bd.state]; rfl
  have N0 := Fr.nil n0
  have pre0 : ∀ t, Steps p.tables e below (s₁.setTop (mkF m 0 #[iv 1, iv 3] [])) t → Steps p.tables e below (s₁.setTop (entryFrame m #[(.int 1), (.int 3)] 2)) t := fun t k => castTop (own_c1_31_ef m ) k
  obtain ⟨_, _, ⟨T1, L1, k1, n1⟩, -, X1, ⟨Lc1, hQ1, l1, y1, z1⟩, st1⟩ := Jvm.LawKit.callS X0 hx (y := (⟨"jdk/internal/util/Preconditions", "checkIndex", "(IILjava/util/function/BiFunction;)I"⟩ : MethodName)) hown (mvT hZ (hw _ (own_m 84 rfl))) (mvT hZ (hw _ (own_m 85 rfl))) (mvT hZ (hw _ (own_m 86 rfl))) (mvT hZ (hw _ (own_m 87 rfl))) (by decide) (backOf (W := 0) (own_c2_31 l Z a0 hw [] w_DE k_DE w_CA  h0 n0 O0 S_DE V_DE S_CA H_CA ) hZ (hw _ (own_m 87 rfl)) (hw _ (own_m 86 rfl)) (by decide) (by decide)) (g := (mkF m 3 #[iv 1, iv 3] [.null, (.int 3), (.int 1)])) rfl (by rw [hml]; rfl) (argsL := [(.int 1), (.int 3), .null]) (rest := []) (lenOf own_pd6 rfl) rfl (by show 2 * 0 + _ ≤ _; exact Nat.le_of_eq rfl) (hb hby own_d13_3) (fun _ _ => ⟨rfl, e0, (by decide : 0 + 0 ≤ _), (by decide : 0 + 0 ≤ _)⟩)
  dsimp only [Pt.U, Pt.locs, Pt.cells, Pt.slots] at X1 l1 y1 z1 st1 hQ1
  subst l1 y1 z1
  obtain ⟨rfl, N1q, e1⟩ := hQ1
  have N1 := Fr.app N0 N1q
  obtain ⟨fs, hr, hrun, hended, hW, hsame⟩ := X1.leave (v := some (.int 1)) (fun h => by rw [Bd.returns] at h; cases h)
  refine ⟨_, _, pre0 _ ?_, hrun, hended, _, _, rfl, ?_, ⟨_, rfl⟩, hW, hsame.mono (by decide) (by decide)⟩
  · show Steps p.tables e below (s₁.setTop (mkF m 0 #[iv 1, iv 3] [])) _
    refine XS.iloadN X0.here hx rfl (hb hby own_d13_0) rfl ?_
    show Steps p.tables e below (s₁.setTop (mkF m 1 #[iv 1, iv 3] [(.int 1)])) _
    refine XS.iloadN X0.here hx rfl (hb hby own_d13_1) rfl ?_
    show Steps p.tables e below (s₁.setTop (mkF m 2 #[iv 1, iv 3] [(.int 3), (.int 1)])) _
    refine XS.aconstNull X0.here hx rfl (hb hby own_d13_2) ?_
    show Steps p.tables e below (s₁.setTop (mkF m 3 #[iv 1, iv 3] [.null, (.int 3), (.int 1)])) _
    refine st1 _ ?_
    show Steps p.tables e below (T1.setTop (mkF m 6 #[iv 1, iv 3] [(.int 1)])) _
    exact retI X1 hx Bd.returns (hb hby own_d13_6) hr
  · show own_c1_31_Q Z w_DE k_DE w_CA h0 n0 _ T1.heap _
    rw [e1]
    exact ⟨rfl, N1, rfl⟩
theorem own_ed_31_ef (m : MethodId) (a : Addr) : entryFrame m #[(.ref a), (.int 1)] 2 = mkF m 0 #[rv a, iv 1] [] := by first | (simp [entryFrame, mkF, argsToLocals, Value.category]; done) | rfl
def own_ed_31_Q (Z : State) (w_DE : Addr) (k_DE : ClassId) (w_CA : Addr) (a : Addr) (b : Addr) (kb : ClassId) (y0 : Addr) (y1 : Addr) (y2 : Addr) (h0 : Heap) (n0 : Nat) (v : Option Value) (h : Heap) (L : List Loc) : Prop := v = some (.ref y1) ∧ Fr n0 L ∧ h = h0
set_option maxRecDepth 65536 in
set_option maxHeartbeats 40000000 in
theorem own_ed_31 (l : Launch) (Z : State) (a0 : Array Value) (hw : ∀ d ∈ tables_1, d.before a0 Z = true) (ws : List Jvm.Cond) (w_DE : Addr) (k_DE : ClassId) (w_CA : Addr) (a : Addr) (b : Addr) (kb : ClassId) (y0 : Addr) (y1 : Addr) (y2 : Addr) (h0 : Heap) (n0 : Nat) (O0 : Old Z n0 h0) (S_DE : Sta Z Z.heap "java/util/ArrayList" "DEFAULTCAPACITY_EMPTY_ELEMENTDATA" "[Ljava/lang/Object;" (.ref w_DE)) (V_DE : Arv Z Z.heap w_DE k_DE (.object "java/lang/Object") (0 : Int32) [] .null) (S_CA : Sta Z Z.heap "java/lang/Long$LongCache" "cache" "[Ljava/lang/Long;" (.ref w_CA)) (H_CA : own_Cache Z w_CA) (F_elementData : Fld Z h0 a "java/util/ArrayList" "elementData" "[Ljava/lang/Object;" (.ref b)) (F_size : Fld Z h0 a "java/util/ArrayList" "size" "I" (.int 3)) (E_a : Exa Z h0 a "java/util/ArrayList") (V_b : Arv Z h0 b kb (.object "java/lang/Object") (10 : Int32) [(.ref y0), (.ref y1), (.ref y2), .null, .null, .null, .null, .null, .null, .null] .null) :
    MetFree l (⟨"java/util/ArrayList", "elementData", "(I)Ljava/lang/Object;"⟩ : MethodName) (head1 (Jvm.Cond.code (⟨"java/util/ArrayList", "elementData", "(I)Ljava/lang/Object;"⟩ : MethodName) jdk_38_method_18_code 2 (some (.object "java/lang/Object")) :: ws) ({ frames := 0, cells := 0, slots := 0, locals := 0 } : Room)) (fun ar U => ar = #[(.ref a), (.int 1)] ∧ Z.Warmed39 U.vm ∧ U.heap = h0) (fun _ _ _ _ _ => True) (fun _ U oc U' => ∃ v L, oc = .returned v ∧ own_ed_31_Q Z w_DE k_DE w_CA a b kb y0 y1 y2 h0 n0 v U'.heap L ∧ FrameEnd U oc U' L ({ frames := 0, cells := 0, slots := 0, locals := 0 } : Room).cells ({ frames := 0, cells := 0, slots := 0, locals := 0 } : Room).slots) := by
  refine MetFree.of_bodySF (plainFor_of_name own_pn4) hisR ?_
  intro p e s m args below meth c s₁ Bd hml0 hP hK
  obtain ⟨rfl, hZ, hh⟩ := hP
  have hx := Bd.exec
  have hby := Bd.bytes
  have hml : c.maxLocals = 2 := hml0
  have hown : s.vm.findClass "java/util/ArrayList" = some m.cls := findClass_of_methodNamed Bd.named
  have hnm := (name_of_methodNamed Bd.named Bd.method).1
  have X0 : Stand p l e ({ frames := 0, cells := 0, slots := 0, locals := 0 } : Room) s m #[(.ref a), (.int 1)] below meth c s₁ [] 0 0 := Stand.of_body Bd
  have e0 : s₁.heap = h0 := by rw [← hh, Bd.state]; rfl
  have N0 := Fr.nil n0
  have pre0 : ∀ t, Steps p.tables e below (s₁.setTop (mkF m 0 #[rv a, iv 1] [])) t → Steps p.tables e below (s₁.setTop (entryFrame m #[(.ref a), (.int 1)] 2)) t := fun t k => castTop (own_ed_31_ef m a) k
  obtain ⟨T1, X1, e1, st1⟩ := getF X0 hx hZ hown (host := "") (Or.inl (hw _ (own_m 24 rfl))) Via.refl e0 F_elementData (g := (mkF m 1 #[rv a, iv 1] [(.ref a)])) rfl rfl (hb hby own_d15_1)
  obtain ⟨c2, c2A, c2q, c2S, c2N, c2H, c2G⟩ := id V_b
  have c2in : ¬ ((1 : Int32) < 0 ∨ c2.slots.size ≤ ((1 : Int32)).toNatClampNeg) := inb_of c2S ⟨by decide, by decide⟩
  have c2at : c2.slots[((1 : Int32)).toNatClampNeg]? = some (.ref y1) := Has.at c2H c2in rfl
  obtain ⟨fs, hr, hrun, hended, hW, hsame⟩ := X1.leave (v := some (.ref y1)) (fun h => by rw [Bd.returns] at h; cases h)
  refine ⟨_, _, pre0 _ ?_, hrun, hended, _, _, rfl, ?_, ⟨_, rfl⟩, hW, hsame.mono (by decide) (by decide)⟩
  · show Steps p.tables e below (s₁.setTop (mkF m 0 #[rv a, iv 1] [])) _
    refine XS.aloadN X0.here hx rfl (hb hby own_d15_0) rfl rfl ?_
    show Steps p.tables e below (s₁.setTop (mkF m 1 #[rv a, iv 1] [(.ref a)])) _
    refine st1 _ ?_
    show Steps p.tables e below (T1.setTop (mkF m 4 #[rv a, iv 1] [(.ref b)])) _
    refine XS.iloadN X1.here hx rfl (hb hby own_d15_4) rfl ?_
    show Steps p.tables e below (T1.setTop (mkF m 5 #[rv a, iv 1] [(.int 1), (.ref b)])) _
    refine X1.aaload hx (j := (1 : Int32)) (v := (.ref y1)) (by rw [e1]; exact c2A.1) (State.isArrayOf_alike hZ.alike c2A.2.1) rfl c2A.2.2 c2in c2at (g := (mkF m 5 #[rv a, iv 1] [(.int 1), (.ref b)])) rfl rfl (hb hby own_d15_5) _ ?_
    show Steps p.tables e below (T1.setTop (mkF m 6 #[rv a, iv 1] [(.ref y1)])) _
    jvm_step X1.here [X1.here.top, hx, (hb hby own_d15_6), X1.method', Bd.returns, Value.isRef, FieldType.isReference]
    first | (intro acts; rw [hr _ acts rfl rfl rfl]) | rw [hr _ _ rfl rfl rfl]
    exact Steps.refl _
  · show own_ed_31_Q Z w_DE k_DE w_CA a b kb y0 y1 y2 h0 n0 _ T1.heap _
    rw [e1]
    exact ⟨rfl, N0, rfl⟩
theorem own_get_31_ef (m : MethodId) (a : Addr) : entryFrame m #[(.ref a), (.int 1)] 2 = mkF m 0 #[rv a, iv 1] [] := by first | (simp [entryFrame, mkF, argsToLocals, Value.category]; done) | rfl
def own_get_31_Q (Z : State) (w_DE : Addr) (k_DE : ClassId) (w_CA : Addr) (a : Addr) (b : Addr) (kb : ClassId) (y0 : Addr) (y1 : Addr) (y2 : Addr) (h0 : Heap) (n0 : Nat) (v : Option Value) (h : Heap) (L : List Loc) : Prop := v = some (.ref y1) ∧ Fr n0 L ∧ h = h0
set_option maxRecDepth 65536 in
set_option maxHeartbeats 40000000 in
theorem own_get_31 (l : Launch) (Z : State) (a0 : Array Value) (hw : ∀ d ∈ tables_1, d.before a0 Z = true) (ws : List Jvm.Cond) (w_DE : Addr) (k_DE : ClassId) (w_CA : Addr) (a : Addr) (b : Addr) (kb : ClassId) (y0 : Addr) (y1 : Addr) (y2 : Addr) (h0 : Heap) (n0 : Nat) (O0 : Old Z n0 h0) (S_DE : Sta Z Z.heap "java/util/ArrayList" "DEFAULTCAPACITY_EMPTY_ELEMENTDATA" "[Ljava/lang/Object;" (.ref w_DE)) (V_DE : Arv Z Z.heap w_DE k_DE (.object "java/lang/Object") (0 : Int32) [] .null) (S_CA : Sta Z Z.heap "java/lang/Long$LongCache" "cache" "[Ljava/lang/Long;" (.ref w_CA)) (H_CA : own_Cache Z w_CA) (F_elementData : Fld Z h0 a "java/util/ArrayList" "elementData" "[Ljava/lang/Object;" (.ref b)) (F_size : Fld Z h0 a "java/util/ArrayList" "size" "I" (.int 3)) (E_a : Exa Z h0 a "java/util/ArrayList") (V_b : Arv Z h0 b kb (.object "java/lang/Object") (10 : Int32) [(.ref y0), (.ref y1), (.ref y2), .null, .null, .null, .null, .null, .null, .null] .null) :
    MetFree l (⟨"java/util/ArrayList", "get", "(I)Ljava/lang/Object;"⟩ : MethodName) (head1 (Jvm.Cond.code (⟨"java/util/ArrayList", "get", "(I)Ljava/lang/Object;"⟩ : MethodName) jdk_38_method_20_code 2 (some (.object "java/lang/Object")) :: ws) ({ frames := 2, cells := 0, slots := 0, locals := 27 } : Room)) (fun ar U => ar = #[(.ref a), (.int 1)] ∧ Z.Warmed39 U.vm ∧ U.heap = h0) (fun _ _ _ _ _ => True) (fun _ U oc U' => ∃ v L, oc = .returned v ∧ own_get_31_Q Z w_DE k_DE w_CA a b kb y0 y1 y2 h0 n0 v U'.heap L ∧ FrameEnd U oc U' L ({ frames := 2, cells := 0, slots := 0, locals := 27 } : Room).cells ({ frames := 2, cells := 0, slots := 0, locals := 27 } : Room).slots) := by
  refine MetFree.of_bodySF (plainFor_of_name own_pn4) hisR ?_
  intro p e s m args below meth c s₁ Bd hml0 hP hK
  obtain ⟨rfl, hZ, hh⟩ := hP
  have hx := Bd.exec
  have hby := Bd.bytes
  have hml : c.maxLocals = 2 := hml0
  have hown : s.vm.findClass "java/util/ArrayList" = some m.cls := findClass_of_methodNamed Bd.named
  have hnm := (name_of_methodNamed Bd.named Bd.method).1
  have X0 : Stand p l e ({ frames := 2, cells := 0, slots := 0, locals := 27 } : Room) s m #[(.ref a), (.int 1)] below meth c s₁ [] 0 0 := Stand.of_body Bd
  have e0 : s₁.heap = h0 := by rw [← hh, Bd.state]; rfl
  have N0 := Fr.nil n0
  have pre0 : ∀ t, Steps p.tables e below (s₁.setTop (mkF m 0 #[rv a, iv 1] [])) t → Steps p.tables e below (s₁.setTop (entryFrame m #[(.ref a), (.int 1)] 2)) t := fun t k => castTop (own_get_31_ef m a) k
  obtain ⟨T1, X1, e1, st1⟩ := getF X0 hx hZ hown (host := "") (Or.inl (hw _ (own_m 41 rfl))) Via.refl e0 F_size (g := (mkF m 2 #[rv a, iv 1] [(.ref a), (.int 1)])) rfl rfl (hb hby own_d12_2)
  obtain ⟨_, _, ⟨T2, L2, k2, n2⟩, -, X2, ⟨Lc2, hQ2, l2, y2, z2⟩, st2⟩ := Jvm.LawKit.callS X1 hx (y := (⟨"java/util/Objects", "checkIndex", "(II)I"⟩ : MethodName)) hown (mvT hZ (hw _ (own_m 80 rfl))) (mvT hZ (hw _ (own_m 81 rfl))) (mvT hZ (hw _ (own_m 82 rfl))) (mvT hZ (hw _ (own_m 83 rfl))) (by decide) (backOf (W := 0) (own_c1_31 l Z a0 hw [] w_DE k_DE w_CA  h0 n0 O0 S_DE V_DE S_CA H_CA ) hZ (hw _ (own_m 83 rfl)) (hw _ (own_m 82 rfl)) (by decide) (by decide)) (g := (mkF m 5 #[rv a, iv 1] [(.int 3), (.int 1)])) rfl (by rw [hml]; rfl) (argsL := [(.int 1), (.int 3)]) (rest := []) (lenOf own_pd2 rfl) rfl (by show 2 * 0 + _ ≤ _; exact Nat.le_of_eq rfl) (hb hby own_d12_5) (fun _ _ => ⟨rfl, e1, (by decide : 0 + 0 ≤ _), (by decide : 0 + 0 ≤ _)⟩)
  dsimp only [Pt.U, Pt.locs, Pt.cells, Pt.slots] at X2 l2 y2 z2 st2 hQ2
  subst l2 y2 z2
  obtain ⟨rfl, N2q, e2⟩ := hQ2
  have N2 := Fr.app N0 N2q
  obtain ⟨cq3, kq3, q3a, q3b, q3c⟩ := isOf hZ e2 E_a
  obtain ⟨_, _, ⟨T3, L3, k3, n3⟩, -, X3, ⟨Lc3, hQ3, l3, y3, z3⟩, st3⟩ := X2.virtualBack hx (y := (⟨"java/util/ArrayList", "elementData", "(I)Ljava/lang/Object;"⟩ : MethodName)) (z := (⟨"java/util/ArrayList", "elementData", "(I)Ljava/lang/Object;"⟩ : MethodName)) hown (mvT hZ (hw _ (own_m 88 rfl))) (mvT hZ (hw _ (own_m 89 rfl))) (notFace_of_selects (args := #[]) (mvT hZ (hw _ (own_m 91 rfl)))) (mvT hZ (hw _ (own_m 91 rfl))) (mvT hZ (hw _ (own_m 90 rfl))) (by decide) (backOf (W := 0) (own_ed_31 l Z a0 hw [] w_DE k_DE w_CA a b kb y0 y1 y2 h0 n0 O0 S_DE V_DE S_CA H_CA F_elementData F_size E_a V_b) hZ (hw _ (own_m 92 rfl)) (hw _ (own_m 2 rfl)) (by decide) (by decide)) q3a q3c (g := (mkF m 11 #[rv a, iv 1] [(.int 1), (.ref a)])) rfl (by rw [hml]; rfl) (Steps.refl _) (argsL := [(.int 1)]) (rest := []) (lenOf own_pd7 rfl) rfl (by show 2 * 0 + _ ≤ _; exact Nat.le_of_eq rfl) (hb hby own_d12_11) (fun _ _ => ⟨rfl, e2, (by decide : 0 + 0 ≤ _), (by decide : 0 + 0 ≤ _)⟩)
  dsimp only [Pt.U, Pt.locs, Pt.cells, Pt.slots] at X3 l3 y3 z3 st3 hQ3
  subst l3 y3 z3
  obtain ⟨rfl, N3q, e3⟩ := hQ3
  have N3 := Fr.app N2 N3q
  obtain ⟨fs, hr, hrun, hended, hW, hsame⟩ := X3.leave (v := some (.ref y1)) (fun h => by rw [Bd.returns] at h; cases h)
  refine ⟨_, _, pre0 _ ?_, hrun, hended, _, _, rfl, ?_, ⟨_, rfl⟩, hW, hsame.mono (by decide) (by decide)⟩
  · show Steps p.tables e below (s₁.setTop (mkF m 0 #[rv a, iv 1] [])) _
    refine XS.iloadN X0.here hx rfl (hb hby own_d12_0) rfl ?_
    show Steps p.tables e below (s₁.setTop (mkF m 1 #[rv a, iv 1] [(.int 1)])) _
    refine XS.aloadN X0.here hx rfl (hb hby own_d12_1) rfl rfl ?_
    show Steps p.tables e below (s₁.setTop (mkF m 2 #[rv a, iv 1] [(.ref a), (.int 1)])) _
    refine st1 _ ?_
    show Steps p.tables e below (T1.setTop (mkF m 5 #[rv a, iv 1] [(.int 3), (.int 1)])) _
    refine st2 _ ?_
    show Steps p.tables e below (T2.setTop (mkF m 8 #[rv a, iv 1] [(.int 1)])) _
    refine XS.pop X2.here hx rfl (hb hby own_d12_8) rfl rfl ?_
    show Steps p.tables e below (T2.setTop (mkF m 9 #[rv a, iv 1] [])) _
    refine XS.aloadN X2.here hx rfl (hb hby own_d12_9) rfl rfl ?_
    show Steps p.tables e below (T2.setTop (mkF m 10 #[rv a, iv 1] [(.ref a)])) _
    refine XS.iloadN X2.here hx rfl (hb hby own_d12_10) rfl ?_
    show Steps p.tables e below (T2.setTop (mkF m 11 #[rv a, iv 1] [(.int 1), (.ref a)])) _
    refine st3.trans ?_
    show Steps p.tables e below (T3.setTop (mkF m 14 #[rv a, iv 1] [(.ref y1)])) _
    jvm_step X3.here [X3.here.top, hx, (hb hby own_d12_14), X3.method', Bd.returns, Value.isRef, FieldType.isReference]
    first | (intro acts; rw [hr _ acts rfl rfl rfl]) | rw [hr _ _ rfl rfl rfl]
    exact Steps.refl _
  · show own_get_31_Q Z w_DE k_DE w_CA a b kb y0 y1 y2 h0 n0 _ T3.heap _
    rw [e3]
    exact ⟨rfl, N3, rfl⟩
theorem own_lv_ef (m : MethodId) (a : Addr) : entryFrame m #[(.ref a)] 1 = mkF m 0 #[rv a] [] := by first | (simp [entryFrame, mkF, argsToLocals, Value.category]; done) | rfl
def own_lv_Q (Z : State) (w_DE : Addr) (k_DE : ClassId) (w_CA : Addr) (a : Addr) (q : Int64) (h0 : Heap) (n0 : Nat) (v : Option Value) (h : Heap) (L : List Loc) : Prop := v = some (.long q) ∧ Fr n0 L ∧ h = h0
set_option maxRecDepth 65536 in
set_option maxHeartbeats 40000000 in
theorem own_lv (l : Launch) (Z : State) (a0 : Array Value) (hw : ∀ d ∈ tables_1, d.before a0 Z = true) (ws : List Jvm.Cond) (w_DE : Addr) (k_DE : ClassId) (w_CA : Addr) (a : Addr) (q : Int64) (h0 : Heap) (n0 : Nat) (O0 : Old Z n0 h0) (S_DE : Sta Z Z.heap "java/util/ArrayList" "DEFAULTCAPACITY_EMPTY_ELEMENTDATA" "[Ljava/lang/Object;" (.ref w_DE)) (V_DE : Arv Z Z.heap w_DE k_DE (.object "java/lang/Object") (0 : Int32) [] .null) (S_CA : Sta Z Z.heap "java/lang/Long$LongCache" "cache" "[Ljava/lang/Long;" (.ref w_CA)) (H_CA : own_Cache Z w_CA) (F_v : Fld Z h0 a "java/lang/Long" "value" "J" (.long q)) :
    MetFree l (⟨"java/lang/Long", "longValue", "()J"⟩ : MethodName) (head1 (Jvm.Cond.code (⟨"java/lang/Long", "longValue", "()J"⟩ : MethodName) jdk_35_method_31_code 1 (some .long) :: ws) ({ frames := 0, cells := 0, slots := 0, locals := 0 } : Room)) (fun ar U => ar = #[(.ref a)] ∧ Z.Warmed39 U.vm ∧ U.heap = h0) (fun _ _ _ _ _ => True) (fun _ U oc U' => ∃ v L, oc = .returned v ∧ own_lv_Q Z w_DE k_DE w_CA a q h0 n0 v U'.heap L ∧ FrameEnd U oc U' L ({ frames := 0, cells := 0, slots := 0, locals := 0 } : Room).cells ({ frames := 0, cells := 0, slots := 0, locals := 0 } : Room).slots) := by
  refine MetFree.of_bodySF (plainFor_of_name own_pn5) hisR ?_
  intro p e s m args below meth c s₁ Bd hml0 hP hK
  obtain ⟨rfl, hZ, hh⟩ := hP
  have hx := Bd.exec
  have hby := Bd.bytes
  have hml : c.maxLocals = 1 := hml0
  have hown : s.vm.findClass "java/lang/Long" = some m.cls := findClass_of_methodNamed Bd.named
  have hnm := (name_of_methodNamed Bd.named Bd.method).1
  have X0 : Stand p l e ({ frames := 0, cells := 0, slots := 0, locals := 0 } : Room) s m #[(.ref a)] below meth c s₁ [] 0 0 := Stand.of_body Bd
  have e0 : s₁.heap = h0 := by rw [← hh, Bd.state]; rfl
  have N0 := Fr.nil n0
  have pre0 : ∀ t, Steps p.tables e below (s₁.setTop (mkF m 0 #[rv a] [])) t → Steps p.tables e below (s₁.setTop (entryFrame m #[(.ref a)] 1)) t := fun t k => castTop (own_lv_ef m a) k
  obtain ⟨T1, X1, e1, st1⟩ := getF X0 hx hZ hown (host := "") (Or.inl (hw _ (own_m 100 rfl))) Via.refl e0 F_v (g := (mkF m 1 #[rv a] [(.ref a)])) rfl rfl (hb hby own_d16_1)
  obtain ⟨fs, hr, hrun, hended, hW, hsame⟩ := X1.leave (v := some (.long q)) (fun h => by rw [Bd.returns] at h; cases h)
  refine ⟨_, _, pre0 _ ?_, hrun, hended, _, _, rfl, ?_, ⟨_, rfl⟩, hW, hsame.mono (by decide) (by decide)⟩
  · show Steps p.tables e below (s₁.setTop (mkF m 0 #[rv a] [])) _
    refine XS.aloadN X0.here hx rfl (hb hby own_d16_0) rfl rfl ?_
    show Steps p.tables e below (s₁.setTop (mkF m 1 #[rv a] [(.ref a)])) _
    refine st1 _ ?_
    show Steps p.tables e below (T1.setTop (mkF m 4 #[rv a] [(.long q)])) _
    jvm_step X1.here [X1.here.top, hx, (hb hby own_d16_4), X1.method', Bd.returns, narrow]
    first | (intro acts; rw [hr _ acts rfl rfl rfl]) | rw [hr _ _ rfl rfl rfl]
    exact Steps.refl _
  · show own_lv_Q Z w_DE k_DE w_CA a q h0 n0 _ T1.heap _
    rw [e1]
    exact ⟨rfl, N0, rfl⟩
theorem own_ar_ef (m : MethodId) (a : Addr) (q1 : Int64) (q2 : Int64) : entryFrame m #[(.ref a), (.long q1), (.long q2)] 5 = mkF m 0 #[rv a, .val (.long q1), .second, .val (.long q2), .second] [] := by first | (simp [entryFrame, mkF, argsToLocals, Value.category]; done) | rfl
def own_ar_Q (Z : State) (w_DE : Addr) (k_DE : ClassId) (w_CA : Addr) (a : Addr) (q1 : Int64) (q2 : Int64) (h0 : Heap) (n0 : Nat) (v : Option Value) (h : Heap) (L : List Loc) : Prop := v = none ∧ Fr n0 L ∧ Keep h0 h [a] ∧ Exa Z h a "com/example/horkos/horkos/internal/AcquireReply" ∧ Fld Z h a "com/example/horkos/horkos/internal/AcquireReply" "holds" "J" (.long q1) ∧ Fld Z h a "com/example/horkos/horkos/internal/AcquireReply" "token" "J" (.long q2)
set_option maxRecDepth 65536 in
set_option maxHeartbeats 40000000 in
theorem own_ar (l : Launch) (Z : State) (a0 : Array Value) (hw : ∀ d ∈ tables_1, d.before a0 Z = true) (ws : List Jvm.Cond) (w_DE : Addr) (k_DE : ClassId) (w_CA : Addr) (a : Addr) (q1 : Int64) (q2 : Int64) (h0 : Heap) (n0 : Nat) (O0 : Old Z n0 h0) (S_DE : Sta Z Z.heap "java/util/ArrayList" "DEFAULTCAPACITY_EMPTY_ELEMENTDATA" "[Ljava/lang/Object;" (.ref w_DE)) (V_DE : Arv Z Z.heap w_DE k_DE (.object "java/lang/Object") (0 : Int32) [] .null) (S_CA : Sta Z Z.heap "java/lang/Long$LongCache" "cache" "[Ljava/lang/Long;" (.ref w_CA)) (H_CA : own_Cache Z w_CA) (g_a : n0 ≤ a) (E_a : Exa Z h0 a "com/example/horkos/horkos/internal/AcquireReply") (F_holds : Fld Z h0 a "com/example/horkos/horkos/internal/AcquireReply" "holds" "J" (.long 0)) (F_token : Fld Z h0 a "com/example/horkos/horkos/internal/AcquireReply" "token" "J" (.long 0)) :
    MetFree l (⟨"com/example/horkos/horkos/internal/AcquireReply", "<init>", "(JJ)V"⟩ : MethodName) (head1 (Jvm.Cond.code (⟨"com/example/horkos/horkos/internal/AcquireReply", "<init>", "(JJ)V"⟩ : MethodName) prog_4_method_1_code 5 none :: ws) ({ frames := 2, cells := 0, slots := 0, locals := 24 } : Room)) (fun ar U => ar = #[(.ref a), (.long q1), (.long q2)] ∧ Z.Warmed39 U.vm ∧ U.heap = h0) (fun _ _ _ _ _ => True) (fun _ U oc U' => ∃ v L, oc = .returned v ∧ own_ar_Q Z w_DE k_DE w_CA a q1 q2 h0 n0 v U'.heap L ∧ FrameEnd U oc U' L ({ frames := 2, cells := 0, slots := 0, locals := 24 } : Room).cells ({ frames := 2, cells := 0, slots := 0, locals := 24 } : Room).slots) := by
  refine MetFree.of_bodySF (plainFor_of_name own_pn8) hisR ?_
  intro p e s m args below meth c s₁ Bd hml0 hP hK
  obtain ⟨rfl, hZ, hh⟩ := hP
  have hx := Bd.exec
  have hby := Bd.bytes
  have hml : c.maxLocals = 5 := hml0
  have hown : s.vm.findClass "com/example/horkos/horkos/internal/AcquireReply" = some m.cls := findClass_of_methodNamed Bd.named
  have hnm := (name_of_methodNamed Bd.named Bd.method).1
  have X0 : Stand p l e ({ frames := 2, cells := 0, slots := 0, locals := 24 } : Room) s m #[(.ref a), (.long q1), (.long q2)] below meth c s₁ [] 0 0 := Stand.of_body Bd
  have e0 : s₁.heap = h0 := by rw [← hh, Bd.state]; rfl
  have N0 := Fr.nil n0
  have pre0 : ∀ t, Steps p.tables e below (s₁.setTop (mkF m 0 #[rv a, .val (.long q1), .second, .val (.long q2), .second] [])) t → Steps p.tables e below (s₁.setTop (entryFrame m #[(.ref a), (.long q1), (.long q2)] 5)) t := fun t k => castTop (own_ar_ef m a q1 q2) k
  have kp0 := Keep.refl h0 ([a] : List Addr)
  obtain ⟨_, _, ⟨T1, L1, k1, n1⟩, -, X1, ⟨Lc1, hQ1, l1, y1, z1⟩, st1⟩ := X0.specialBack hx (y := (⟨"java/lang/Record", "<init>", "()V"⟩ : MethodName)) rfl hown (mvT hZ (hw _ (own_m 105 rfl))) (mvT hZ (hw _ (own_m 106 rfl))) (mvT hZ (hw _ (own_m 109 rfl))) (by decide) (backOf (W := 0) (own_rec l Z a0 hw [] w_DE k_DE w_CA a h0 n0 O0 S_DE V_DE S_CA H_CA ) hZ (hw _ (own_m 109 rfl)) (hw _ (own_m 108 rfl)) (by decide) (by decide)) (g := (mkF m 1 #[rv a, .val (.long q1), .second, .val (.long q2), .second] [(.ref a)])) rfl (by rw [hml]; rfl) (Steps.refl _) (a := a) (argsL := []) (rest := []) (lenOf own_pd0 rfl) rfl (by show 2 * 0 + _ ≤ _; exact Nat.le_of_eq rfl) (hb hby own_d17_1) (fun _ _ => ⟨rfl, e0, (by decide : 0 + 0 ≤ _), (by decide : 0 + 0 ≤ _)⟩)
  dsimp only [Pt.U, Pt.locs, Pt.cells, Pt.slots] at X1 l1 y1 z1 st1 hQ1
  subst l1 y1 z1
  obtain ⟨rfl, N1q, e1⟩ := hQ1
  have N1 := Fr.app N0 N1q
  obtain ⟨T2, h2, X2, e2, W2, st2⟩ := putF X1 hx hZ hown (host := "") (Or.inl (hw _ (own_m 111 rfl))) Via.refl e1 F_holds E_a (Or.inr ⟨(hw _ (own_m 112 rfl)), rfl, hnm⟩) (hw _ (own_m 70 rfl)) (ty := .long) (by decide) rfl rfl (g := (mkF m 6 #[rv a, .val (.long q1), .second, .val (.long q2), .second] [(.long q1), (.ref a)])) rfl rfl (hb hby own_d17_6)
  have Fw2 := F_holds.same W2
  have O3 := O0.wr W2 g_a
  have kp4 := kp0.wr W2 (Or.inl (own_m 0 rfl))
  have N2 := Fr.snoc X2 N1 g_a
  have f5 := (F_token.other W2 (Or.inr (slot_ne (Or.inr (hw _ (own_m 114 rfl))) (Or.inr (hw _ (own_m 112 rfl))) (by decide) (t := .long) (t' := .long) (by decide) (by decide))))
  have f6 := (E_a.wr W2)
  obtain ⟨T7, h7, X7, e7, W7, st7⟩ := putF X2 hx hZ hown (host := "") (Or.inl (hw _ (own_m 113 rfl))) Via.refl e2 f5 f6 (Or.inr ⟨(hw _ (own_m 114 rfl)), rfl, hnm⟩) (hw _ (own_m 70 rfl)) (ty := .long) (by decide) rfl rfl (g := (mkF m 11 #[rv a, .val (.long q1), .second, .val (.long q2), .second] [(.long q2), (.ref a)])) rfl rfl (hb hby own_d17_11)
  have Fw7 := f5.same W7
  have O8 := O3.wr W7 g_a
  have kp9 := kp4.wr W7 (Or.inl (own_m 0 rfl))
  have N7 := Fr.snoc X7 N2 g_a
  have f10 := (f6.wr W7)
  have f11 := (Fw2.other W7 (Or.inr (slot_ne (Or.inr (hw _ (own_m 112 rfl))) (Or.inr (hw _ (own_m 114 rfl))) (by decide) (t := .long) (t' := .long) (by decide) (by decide))))
  obtain ⟨fs, hr, hrun, hended, hW, hsame⟩ := X7.leave (v := none) (fun _ => rfl)
  refine ⟨_, _, pre0 _ ?_, hrun, hended, _, _, rfl, ?_, ⟨_, rfl⟩, hW, hsame.mono (by decide) (by decide)⟩
  · show Steps p.tables e below (s₁.setTop (mkF m 0 #[rv a, .val (.long q1), .second, .val (.long q2), .second] [])) _
    refine XS.aloadN X0.here hx rfl (hb hby own_d17_0) rfl rfl ?_
    show Steps p.tables e below (s₁.setTop (mkF m 1 #[rv a, .val (.long q1), .second, .val (.long q2), .second] [(.ref a)])) _
    refine st1.trans ?_
    show Steps p.tables e below (T1.setTop (mkF m 4 #[rv a, .val (.long q1), .second, .val (.long q2), .second] [])) _
    refine XS.aloadN X1.here hx rfl (hb hby own_d17_4) rfl rfl ?_
    show Steps p.tables e below (T1.setTop (mkF m 5 #[rv a, .val (.long q1), .second, .val (.long q2), .second] [(.ref a)])) _
    refine XS.lloadN X1.here hx rfl (hb hby own_d17_5) rfl ?_
    show Steps p.tables e below (T1.setTop (mkF m 6 #[rv a, .val (.long q1), .second, .val (.long q2), .second] [(.long q1), (.ref a)])) _
    refine st2 _ ?_
    show Steps p.tables e below (T2.setTop (mkF m 9 #[rv a, .val (.long q1), .second, .val (.long q2), .second] [])) _
    refine XS.aloadN X2.here hx rfl (hb hby own_d17_9) rfl rfl ?_
    show Steps p.tables e below (T2.setTop (mkF m 10 #[rv a, .val (.long q1), .second, .val (.long q2), .second] [(.ref a)])) _
    refine XS.lloadN X2.here hx rfl (hb hby own_d17_10) rfl ?_
    show Steps p.tables e below (T2.setTop (mkF m 11 #[rv a, .val (.long q1), .second, .val (.long q2), .second] [(.long q2), (.ref a)])) _
    refine st7 _ ?_
    show Steps p.tables e below (T7.setTop (mkF m 14 #[rv a, .val (.long q1), .second, .val (.long q2), .second] [])) _
    exact X7.returnOut hx Bd.returns (hb hby own_d17_14) hr
  · show own_ar_Q Z w_DE k_DE w_CA a q1 q2 h0 n0 _ T7.heap _
    rw [e7]
    exact ⟨rfl, N7, kp9, f10, f11, Fw7⟩
theorem own_holds_ef (m : MethodId) (a : Addr) : entryFrame m #[(.ref a)] 1 = mkF m 0 #[rv a] [] := by first | (simp [entryFrame, mkF, argsToLocals, Value.category]; done) | rfl
def own_holds_Q (Z : State) (w_DE : Addr) (k_DE : ClassId) (w_CA : Addr) (a : Addr) (q : Int64) (h0 : Heap) (n0 : Nat) (v : Option Value) (h : Heap) (L : List Loc) : Prop := v = some (.long q) ∧ Fr n0 L ∧ h = h0
set_option maxRecDepth 65536 in
set_option maxHeartbeats 40000000 in
theorem own_holds (l : Launch) (Z : State) (a0 : Array Value) (hw : ∀ d ∈ tables_1, d.before a0 Z = true) (ws : List Jvm.Cond) (w_DE : Addr) (k_DE : ClassId) (w_CA : Addr) (a : Addr) (q : Int64) (h0 : Heap) (n0 : Nat) (O0 : Old Z n0 h0) (S_DE : Sta Z Z.heap "java/util/ArrayList" "DEFAULTCAPACITY_EMPTY_ELEMENTDATA" "[Ljava/lang/Object;" (.ref w_DE)) (V_DE : Arv Z Z.heap w_DE k_DE (.object "java/lang/Object") (0 : Int32) [] .null) (S_CA : Sta Z Z.heap "java/lang/Long$LongCache" "cache" "[Ljava/lang/Long;" (.ref w_CA)) (H_CA : own_Cache Z w_CA) (F_a : Fld Z h0 a "com/example/horkos/horkos/internal/AcquireReply" "holds" "J" (.long q)) :
    MetFree l (⟨"com/example/horkos/horkos/internal/AcquireReply", "holds", "()J"⟩ : MethodName) (head1 (Jvm.Cond.code (⟨"com/example/horkos/horkos/internal/AcquireReply", "holds", "()J"⟩ : MethodName) prog_4_method_6_code 1 (some .long) :: ws) ({ frames := 0, cells := 0, slots := 0, locals := 0 } : Room)) (fun ar U => ar = #[(.ref a)] ∧ Z.Warmed39 U.vm ∧ U.heap = h0) (fun _ _ _ _ _ => True) (fun _ U oc U' => ∃ v L, oc = .returned v ∧ own_holds_Q Z w_DE k_DE w_CA a q h0 n0 v U'.heap L ∧ FrameEnd U oc U' L ({ frames := 0, cells := 0, slots := 0, locals := 0 } : Room).cells ({ frames := 0, cells := 0, slots := 0, locals := 0 } : Room).slots) := by
  refine MetFree.of_bodySF (plainFor_of_name own_pn8) hisR ?_
  intro p e s m args below meth c s₁ Bd hml0 hP hK
  obtain ⟨rfl, hZ, hh⟩ := hP
  have hx := Bd.exec
  have hby := Bd.bytes
  have hml : c.maxLocals = 1 := hml0
  have hown : s.vm.findClass "com/example/horkos/horkos/internal/AcquireReply" = some m.cls := findClass_of_methodNamed Bd.named
  have hnm := (name_of_methodNamed Bd.named Bd.method).1
  have X0 : Stand p l e ({ frames := 0, cells := 0, slots := 0, locals := 0 } : Room) s m #[(.ref a)] below meth c s₁ [] 0 0 := Stand.of_body Bd
  have e0 : s₁.heap = h0 := by rw [← hh, Bd.state]; rfl
  have N0 := Fr.nil n0
  have pre0 : ∀ t, Steps p.tables e below (s₁.setTop (mkF m 0 #[rv a] [])) t → Steps p.tables e below (s₁.setTop (entryFrame m #[(.ref a)] 1)) t := fun t k => castTop (own_holds_ef m a) k
  obtain ⟨T1, X1, e1, st1⟩ := getF X0 hx hZ hown (host := "") (Or.inl (hw _ (own_m 111 rfl))) Via.refl e0 F_a (g := (mkF m 1 #[rv a] [(.ref a)])) rfl rfl (hb hby own_d19_1)
  obtain ⟨fs, hr, hrun, hended, hW, hsame⟩ := X1.leave (v := some (.long q)) (fun h => by rw [Bd.returns] at h; cases h)
  refine ⟨_, _, pre0 _ ?_, hrun, hended, _, _, rfl, ?_, ⟨_, rfl⟩, hW, hsame.mono (by decide) (by decide)⟩
  · show Steps p.tables e below (s₁.setTop (mkF m 0 #[rv a] [])) _
    refine XS.aloadN X0.here hx rfl (hb hby own_d19_0) rfl rfl ?_
    show Steps p.tables e below (s₁.setTop (mkF m 1 #[rv a] [(.ref a)])) _
    refine st1 _ ?_
    show Steps p.tables e below (T1.setTop (mkF m 4 #[rv a] [(.long q)])) _
    jvm_step X1.here [X1.here.top, hx, (hb hby own_d19_4), X1.method', Bd.returns, narrow]
    first | (intro acts; rw [hr _ acts rfl rfl rfl]) | rw [hr _ _ rfl rfl rfl]
    exact Steps.refl _
  · show own_holds_Q Z w_DE k_DE w_CA a q h0 n0 _ T1.heap _
    rw [e1]
    exact ⟨rfl, N0, rfl⟩
theorem own_token_ef (m : MethodId) (a : Addr) : entryFrame m #[(.ref a)] 1 = mkF m 0 #[rv a] [] := by first | (simp [entryFrame, mkF, argsToLocals, Value.category]; done) | rfl
def own_token_Q (Z : State) (w_DE : Addr) (k_DE : ClassId) (w_CA : Addr) (a : Addr) (q : Int64) (h0 : Heap) (n0 : Nat) (v : Option Value) (h : Heap) (L : List Loc) : Prop := v = some (.long q) ∧ Fr n0 L ∧ h = h0
set_option maxRecDepth 65536 in
set_option maxHeartbeats 40000000 in
theorem own_token (l : Launch) (Z : State) (a0 : Array Value) (hw : ∀ d ∈ tables_1, d.before a0 Z = true) (ws : List Jvm.Cond) (w_DE : Addr) (k_DE : ClassId) (w_CA : Addr) (a : Addr) (q : Int64) (h0 : Heap) (n0 : Nat) (O0 : Old Z n0 h0) (S_DE : Sta Z Z.heap "java/util/ArrayList" "DEFAULTCAPACITY_EMPTY_ELEMENTDATA" "[Ljava/lang/Object;" (.ref w_DE)) (V_DE : Arv Z Z.heap w_DE k_DE (.object "java/lang/Object") (0 : Int32) [] .null) (S_CA : Sta Z Z.heap "java/lang/Long$LongCache" "cache" "[Ljava/lang/Long;" (.ref w_CA)) (H_CA : own_Cache Z w_CA) (F_a : Fld Z h0 a "com/example/horkos/horkos/internal/AcquireReply" "token" "J" (.long q)) :
    MetFree l (⟨"com/example/horkos/horkos/internal/AcquireReply", "token", "()J"⟩ : MethodName) (head1 (Jvm.Cond.code (⟨"com/example/horkos/horkos/internal/AcquireReply", "token", "()J"⟩ : MethodName) prog_4_method_7_code 1 (some .long) :: ws) ({ frames := 0, cells := 0, slots := 0, locals := 0 } : Room)) (fun ar U => ar = #[(.ref a)] ∧ Z.Warmed39 U.vm ∧ U.heap = h0) (fun _ _ _ _ _ => True) (fun _ U oc U' => ∃ v L, oc = .returned v ∧ own_token_Q Z w_DE k_DE w_CA a q h0 n0 v U'.heap L ∧ FrameEnd U oc U' L ({ frames := 0, cells := 0, slots := 0, locals := 0 } : Room).cells ({ frames := 0, cells := 0, slots := 0, locals := 0 } : Room).slots) := by
  refine MetFree.of_bodySF (plainFor_of_name own_pn8) hisR ?_
  intro p e s m args below meth c s₁ Bd hml0 hP hK
  obtain ⟨rfl, hZ, hh⟩ := hP
  have hx := Bd.exec
  have hby := Bd.bytes
  have hml : c.maxLocals = 1 := hml0
  have hown : s.vm.findClass "com/example/horkos/horkos/internal/AcquireReply" = some m.cls := findClass_of_methodNamed Bd.named
  have hnm := (name_of_methodNamed Bd.named Bd.method).1
  have X0 : Stand p l e ({ frames := 0, cells := 0, slots := 0, locals := 0 } : Room) s m #[(.ref a)] below meth c s₁ [] 0 0 := Stand.of_body Bd
  have e0 : s₁.heap = h0 := by rw [← hh, Bd.state]; rfl
  have N0 := Fr.nil n0
  have pre0 : ∀ t, Steps p.tables e below (s₁.setTop (mkF m 0 #[rv a] [])) t → Steps p.tables e below (s₁.setTop (entryFrame m #[(.ref a)] 1)) t := fun t k => castTop (own_token_ef m a) k
  obtain ⟨T1, X1, e1, st1⟩ := getF X0 hx hZ hown (host := "") (Or.inl (hw _ (own_m 113 rfl))) Via.refl e0 F_a (g := (mkF m 1 #[rv a] [(.ref a)])) rfl rfl (hb hby own_d20_1)
  obtain ⟨fs, hr, hrun, hended, hW, hsame⟩ := X1.leave (v := some (.long q)) (fun h => by rw [Bd.returns] at h; cases h)
  refine ⟨_, _, pre0 _ ?_, hrun, hended, _, _, rfl, ?_, ⟨_, rfl⟩, hW, hsame.mono (by decide) (by decide)⟩
  · show Steps p.tables e below (s₁.setTop (mkF m 0 #[rv a] [])) _
    refine XS.aloadN X0.here hx rfl (hb hby own_d20_0) rfl rfl ?_
    show Steps p.tables e below (s₁.setTop (mkF m 1 #[rv a] [(.ref a)])) _
    refine st1 _ ?_
    show Steps p.tables e below (T1.setTop (mkF m 4 #[rv a] [(.long q)])) _
    jvm_step X1.here [X1.here.top, hx, (hb hby own_d20_4), X1.method', Bd.returns, narrow]
    first | (intro acts; rw [hr _ acts rfl rfl rfl]) | rw [hr _ _ rfl rfl rfl]
    exact Steps.refl _
  · show own_token_Q Z w_DE k_DE w_CA a q h0 n0 _ T1.heap _
    rw [e1]
    exact ⟨rfl, N0, rfl⟩
theorem own_of2_ef (m : MethodId) (a : Addr) : entryFrame m #[(.ref a)] 1 = mkF m 0 #[rv a] [] := by first | (simp [entryFrame, mkF, argsToLocals, Value.category]; done) | rfl
def own_of2_Q (Z : State) (w_DE : Addr) (k_DE : ClassId) (w_CA : Addr) (a : Addr) (b : Addr) (kb : ClassId) (y0 : Addr) (y1 : Addr) (q0 : Int64) (q1 : Int64) (h0 : Heap) (n0 : Nat) (v : Option Value) (h : Heap) (L : List Loc) : Prop := ∃ r : Addr, v = some (.ref r) ∧ Fr n0 L ∧ Keep h0 h [] ∧ Exa Z h r "com/example/horkos/horkos/internal/AcquireReply" ∧ Fld Z h r "com/example/horkos/horkos/internal/AcquireReply" "holds" "J" (.long q0) ∧ Fld Z h r "com/example/horkos/horkos/internal/AcquireReply" "token" "J" (.long q1)
set_option maxRecDepth 65536 in
set_option maxHeartbeats 40000000 in
theorem own_of2 (l : Launch) (Z : State) (a0 : Array Value) (hw : ∀ d ∈ tables_1, d.before a0 Z = true) (ws : List Jvm.Cond) (w_DE : Addr) (k_DE : ClassId) (w_CA : Addr) (a : Addr) (b : Addr) (kb : ClassId) (y0 : Addr) (y1 : Addr) (q0 : Int64) (q1 : Int64) (h0 : Heap) (n0 : Nat) (O0 : Old Z n0 h0) (S_DE : Sta Z Z.heap "java/util/ArrayList" "DEFAULTCAPACITY_EMPTY_ELEMENTDATA" "[Ljava/lang/Object;" (.ref w_DE)) (V_DE : Arv Z Z.heap w_DE k_DE (.object "java/lang/Object") (0 : Int32) [] .null) (S_CA : Sta Z Z.heap "java/lang/Long$LongCache" "cache" "[Ljava/lang/Long;" (.ref w_CA)) (H_CA : own_Cache Z w_CA) (F_elementData : Fld Z h0 a "java/util/ArrayList" "elementData" "[Ljava/lang/Object;" (.ref b)) (F_size : Fld Z h0 a "java/util/ArrayList" "size" "I" (.int 2)) (E_a : Exa Z h0 a "java/util/ArrayList") (V_b : Arv Z h0 b kb (.object "java/lang/Object") (10 : Int32) [(.ref y0), (.ref y1), .null, .null, .null, .null, .null, .null, .null, .null] .null) (E_y0 : Exa Z h0 y0 "java/lang/Long") (E_y1 : Exa Z h0 y1 "java/lang/Long") (G_y0 : Fld Z h0 y0 "java/lang/Long" "value" "J" (.long q0)) (G_y1 : Fld Z h0 y1 "java/lang/Long" "value" "J" (.long q1)) :
    MetFree l (⟨"com/example/horkos/horkos/internal/AcquireReply", "of", "(Ljava/util/List;)Lcom/example/horkos/horkos/internal/AcquireReply;"⟩ : MethodName) (head1 (Jvm.Cond.code (⟨"com/example/horkos/horkos/internal/AcquireReply", "of", "(Ljava/util/List;)Lcom/example/horkos/horkos/internal/AcquireReply;"⟩ : MethodName) prog_4_method_2_code 1 (some (.object "com/example/horkos/horkos/internal/AcquireReply")) :: ws) ({ frames := 3, cells := 1, slots := 2, locals := 47 } : Room)) (fun ar U => ar = #[(.ref a)] ∧ Z.Warmed39 U.vm ∧ U.heap = h0) (fun _ _ _ _ _ => True) (fun _ U oc U' => ∃ v L, oc = .returned v ∧ own_of2_Q Z w_DE k_DE w_CA a b kb y0 y1 q0 q1 h0 n0 v U'.heap L ∧ FrameEnd U oc U' L ({ frames := 3, cells := 1, slots := 2, locals := 47 } : Room).cells ({ frames := 3, cells := 1, slots := 2, locals := 47 } : Room).slots) := by
  refine MetFree.of_bodySF (plainFor_of_name own_pn8) hisR ?_
  intro p e s m args below meth c s₁ Bd hml0 hP hK
  obtain ⟨rfl, hZ, hh⟩ := hP
  have hx := Bd.exec
  have hby := Bd.bytes
  have hml : c.maxLocals = 1 := hml0
  have hown : s.vm.findClass "com/example/horkos/horkos/internal/AcquireReply" = some m.cls := findClass_of_methodNamed Bd.named
  have hnm := (name_of_methodNamed Bd.named Bd.method).1
  have X0 : Stand p l e ({ frames := 3, cells := 1, slots := 2, locals := 47 } : Room) s m #[(.ref a)] below meth c s₁ [] 0 0 := Stand.of_body Bd
  have e0 : s₁.heap = h0 := by rw [← hh, Bd.state]; rfl
  have N0 := Fr.nil n0
  have pre0 : ∀ t, Steps p.tables e below (s₁.setTop (mkF m 0 #[rv a] [])) t → Steps p.tables e below (s₁.setTop (entryFrame m #[(.ref a)] 1)) t := fun t k => castTop (own_of2_ef m a) k
  have kp0 := Keep.refl h0 ([] : List Addr)
  obtain ⟨T1, h1, X1, e1, E1, A1, D1, -, st1⟩ := newO X0 hx hZ hown (hw _ (own_m 69 rfl)) (hw _ (own_m 70 rfl)) (hw _ (own_m 67 rfl)) e0 (g := (mkF m 0 #[rv a] [])) rfl (hb hby own_d11_0) (by decide) (by decide)
  obtain ⟨b1, g1⟩ : ∃ z, z = h0.size := ⟨_, rfl⟩
  rw [← g1] at A1 D1 st1
  have ne_a_b1 : a ≠ b1 := Nat.ne_of_lt (g1 ▸ F_elementData.lt)
  have ne_b_b1 : b ≠ b1 := Nat.ne_of_lt (g1 ▸ V_b.lt)
  have ne_y0_b1 : y0 ≠ b1 := Nat.ne_of_lt (g1 ▸ E_y0.lt)
  have ne_y1_b1 : y1 ≠ b1 := Nat.ne_of_lt (g1 ▸ E_y1.lt)
  have gg_b1 : n0 ≤ b1 := g1 ▸ own_le O0
  have sz_b1 : h0.size ≤ b1 := g1 ▸ kp0.1
  have O2 := O0.ext E1
  have kp3 := kp0.ext E1
  have F_holds_b1 : Fld Z h1 b1 "com/example/horkos/horkos/internal/AcquireReply" "holds" "J" (.long 0) := D1 (Or.inr (hw _ (own_m 112 rfl))) (ty := .long) (by decide)
  have F_token_b1 : Fld Z h1 b1 "com/example/horkos/horkos/internal/AcquireReply" "token" "J" (.long 0) := D1 (Or.inr (hw _ (own_m 114 rfl))) (ty := .long) (by decide)
  have f4 := (F_elementData.ext E1)
  have f5 := (F_size.ext E1)
  have f6 := (E_a.ext E1)
  have f7 := (V_b.ext E1)
  obtain ⟨cq8, kq8, q8a, q8b, q8c⟩ := isOf hZ e1 f6
  obtain ⟨_, _, ⟨T8, L8, k8, n8⟩, -, X8, ⟨Lc8, hQ8, l8, y8, z8⟩, st8⟩ := X1.interfaceBack hx (xi := (⟨"java/util/List", "get", "(I)Ljava/lang/Object;"⟩ : MethodName)) (y := (⟨"java/util/ArrayList", "get", "(I)Ljava/lang/Object;"⟩ : MethodName)) hown (mvT hZ (hw _ (own_m 71 rfl))) (mvT hZ (hw _ (own_m 72 rfl))) (mvT hZ (hw _ (own_m 73 rfl))) (mvT hZ (hw _ (own_m 74 rfl))) (mvT hZ (hw _ (own_m 75 rfl))) (mvT hZ (hw _ (own_m 76 rfl))) (mvT hZ (hw _ (own_m 77 rfl))) (mvT hZ (hw _ (own_m 78 rfl))) (by decide) (backOf (W := 2) (own_get_20 l Z a0 hw [] w_DE k_DE w_CA a b kb y0 y1 h1 n0 O2 S_DE V_DE S_CA H_CA f4 f5 f6 f7) hZ (hw _ (own_m 79 rfl)) (hw _ (own_m 2 rfl)) (by decide) (by decide)) q8a q8b q8c (g := (mkF m 6 #[rv a] [(.int 0), (.ref a), (.ref b1), (.ref b1)])) rfl (by rw [hml]; rfl) (Steps.refl _) (argsL := [(.int 0)]) (rest := [(.ref b1), (.ref b1)]) (lenOf own_pd7 rfl) rfl (by show 2 * 0 + _ ≤ _; exact Nat.le_of_eq rfl) (hb hby own_d11_6) (fun _ _ => ⟨rfl, e1, (by decide : 1 + 0 ≤ _), (by decide : 2 + 0 ≤ _)⟩)
  dsimp only [Pt.U, Pt.locs, Pt.cells, Pt.slots] at X8 l8 y8 z8 st8 hQ8
  subst l8 y8 z8
  obtain ⟨rfl, N8q, e8⟩ := hQ8
  have N8 := Fr.app N0 N8q
  have f9 := (E_y0.ext E1)
  obtain ⟨T10, X10, e10, st10⟩ := castY X8 hx hZ hown (hw _ (own_m 93 rfl)) e8 (Ins.self f9) (g := (mkF m 11 #[rv a] [(.ref y0), (.ref b1), (.ref b1)])) rfl rfl (hb hby own_d11_11)
  have f11 := (G_y0.ext E1)
  obtain ⟨cq12, kq12, q12a, q12b, q12c⟩ := isOf hZ e10 f9
  obtain ⟨_, _, ⟨T12, L12, k12, n12⟩, -, X12, ⟨Lc12, hQ12, l12, y12, z12⟩, st12⟩ := X10.virtualBack hx (y := (⟨"java/lang/Long", "longValue", "()J"⟩ : MethodName)) (z := (⟨"java/lang/Long", "longValue", "()J"⟩ : MethodName)) hown (mvT hZ (hw _ (own_m 95 rfl))) (mvT hZ (hw _ (own_m 96 rfl))) (notFace_of_selects (args := #[]) (mvT hZ (hw _ (own_m 98 rfl)))) (mvT hZ (hw _ (own_m 98 rfl))) (mvT hZ (hw _ (own_m 97 rfl))) (by decide) (backOf (W := 2) (own_lv l Z a0 hw [] w_DE k_DE w_CA y0 q0 h1 n0 O2 S_DE V_DE S_CA H_CA f11) hZ (hw _ (own_m 99 rfl)) (hw _ (own_m 28 rfl)) (by decide) (by decide)) q12a q12c (g := (mkF m 14 #[rv a] [(.ref y0), (.ref b1), (.ref b1)])) rfl (by rw [hml]; rfl) (Steps.refl _) (argsL := []) (rest := [(.ref b1), (.ref b1)]) (lenOf own_pd8 rfl) rfl (by show 2 * 0 + _ ≤ _; exact Nat.le_of_eq rfl) (hb hby own_d11_14) (fun _ _ => ⟨rfl, e10, (by decide : 1 + 0 ≤ _), (by decide : 2 + 0 ≤ _)⟩)
  dsimp only [Pt.U, Pt.locs, Pt.cells, Pt.slots] at X12 l12 y12 z12 st12 hQ12
  subst l12 y12 z12
  obtain ⟨rfl, N12q, e12⟩ := hQ12
  have N12 := Fr.app N8 N12q
  obtain ⟨cq13, kq13, q13a, q13b, q13c⟩ := isOf hZ e12 f6
  obtain ⟨_, _, ⟨T13, L13, k13, n13⟩, -, X13, ⟨Lc13, hQ13, l13, y13, z13⟩, st13⟩ := X12.interfaceBack hx (xi := (⟨"java/util/List", "get", "(I)Ljava/lang/Object;"⟩ : MethodName)) (y := (⟨"java/util/ArrayList", "get", "(I)Ljava/lang/Object;"⟩ : MethodName)) hown (mvT hZ (hw _ (own_m 71 rfl))) (mvT hZ (hw _ (own_m 72 rfl))) (mvT hZ (hw _ (own_m 73 rfl))) (mvT hZ (hw _ (own_m 74 rfl))) (mvT hZ (hw _ (own_m 75 rfl))) (mvT hZ (hw _ (own_m 76 rfl))) (mvT hZ (hw _ (own_m 77 rfl))) (mvT hZ (hw _ (own_m 78 rfl))) (by decide) (backOf (W := 4) (own_get_21 l Z a0 hw [] w_DE k_DE w_CA a b kb y0 y1 h1 n0 O2 S_DE V_DE S_CA H_CA f4 f5 f6 f7) hZ (hw _ (own_m 79 rfl)) (hw _ (own_m 2 rfl)) (by decide) (by decide)) q13a q13b q13c (g := (mkF m 19 #[rv a] [(.int 1), (.ref a), (.long q0), (.ref b1), (.ref b1)])) rfl (by rw [hml]; rfl) (Steps.refl _) (argsL := [(.int 1)]) (rest := [(.long q0), (.ref b1), (.ref b1)]) (lenOf own_pd7 rfl) rfl (by show 2 * 0 + _ ≤ _; exact Nat.le_of_eq rfl) (hb hby own_d11_19) (fun _ _ => ⟨rfl, e12, (by decide : 1 + 0 ≤ _), (by decide : 2 + 0 ≤ _)⟩)
  dsimp only [Pt.U, Pt.locs, Pt.cells, Pt.slots] at X13 l13 y13 z13 st13 hQ13
  subst l13 y13 z13
  obtain ⟨rfl, N13q, e13⟩ := hQ13
  have N13 := Fr.app N12 N13q
  have f14 := (E_y1.ext E1)
  obtain ⟨T15, X15, e15, st15⟩ := castY X13 hx hZ hown (hw _ (own_m 93 rfl)) e13 (Ins.self f14) (g := (mkF m 24 #[rv a] [(.ref y1), (.long q0), (.ref b1), (.ref b1)])) rfl rfl (hb hby own_d11_24)
  have f16 := (G_y1.ext E1)
  obtain ⟨cq17, kq17, q17a, q17b, q17c⟩ := isOf hZ e15 f14
  obtain ⟨_, _, ⟨T17, L17, k17, n17⟩, -, X17, ⟨Lc17, hQ17, l17, y17, z17⟩, st17⟩ := X15.virtualBack hx (y := (⟨"java/lang/Long", "longValue", "()J"⟩ : MethodName)) (z := (⟨"java/lang/Long", "longValue", "()J"⟩ : MethodName)) hown (mvT hZ (hw _ (own_m 95 rfl))) (mvT hZ (hw _ (own_m 96 rfl))) (notFace_of_selects (args := #[]) (mvT hZ (hw _ (own_m 98 rfl)))) (mvT hZ (hw _ (own_m 98 rfl))) (mvT hZ (hw _ (own_m 97 rfl))) (by decide) (backOf (W := 4) (own_lv l Z a0 hw [] w_DE k_DE w_CA y1 q1 h1 n0 O2 S_DE V_DE S_CA H_CA f16) hZ (hw _ (own_m 99 rfl)) (hw _ (own_m 28 rfl)) (by decide) (by decide)) q17a q17c (g := (mkF m 27 #[rv a] [(.ref y1), (.long q0), (.ref b1), (.ref b1)])) rfl (by rw [hml]; rfl) (Steps.refl _) (argsL := []) (rest := [(.long q0), (.ref b1), (.ref b1)]) (lenOf own_pd8 rfl) rfl (by show 2 * 0 + _ ≤ _; exact Nat.le_of_eq rfl) (hb hby own_d11_27) (fun _ _ => ⟨rfl, e15, (by decide : 1 + 0 ≤ _), (by decide : 2 + 0 ≤ _)⟩)
  dsimp only [Pt.U, Pt.locs, Pt.cells, Pt.slots] at X17 l17 y17 z17 st17 hQ17
  subst l17 y17 z17
  obtain ⟨rfl, N17q, e17⟩ := hQ17
  have N17 := Fr.app N13 N17q
  obtain ⟨_, _, ⟨T18, L18, k18, n18⟩, -, X18, ⟨Lc18, hQ18, l18, y18, z18⟩, st18⟩ := X17.specialBack hx (y := (⟨"com/example/horkos/horkos/internal/AcquireReply", "<init>", "(JJ)V"⟩ : MethodName)) rfl hown (mvT hZ (hw _ (own_m 102 rfl))) (mvT hZ (hw _ (own_m 103 rfl))) (mvT hZ (hw _ (own_m 104 rfl))) (by decide) (backOf (W := 1) (own_ar l Z a0 hw [] w_DE k_DE w_CA b1 q0 q1 h1 n0 O2 S_DE V_DE S_CA H_CA gg_b1 A1 F_holds_b1 F_token_b1) hZ (hw _ (own_m 104 rfl)) (hw _ (own_m 67 rfl)) (by decide) (by decide)) (g := (mkF m 30 #[rv a] [(.long q1), (.long q0), (.ref b1), (.ref b1)])) rfl (by rw [hml]; rfl) (Steps.refl _) (a := b1) (argsL := [(.long q0), (.long q1)]) (rest := [(.ref b1)]) (lenOf own_pd9 rfl) rfl (by show 2 * 0 + _ ≤ _; exact Nat.le_of_eq rfl) (hb hby own_d11_30) (fun _ _ => ⟨rfl, e17, (by decide : 1 + 0 ≤ _), (by decide : 2 + 0 ≤ _)⟩)
  dsimp only [Pt.U, Pt.locs, Pt.cells, Pt.slots] at X18 l18 y18 z18 st18 hQ18
  subst l18 y18 z18
  obtain ⟨rfl, N18q, K18, q19, q20, q21⟩ := hQ18
  have N18 := Fr.app N17 N18q
  have O22 := O2.keep K18 (allS gg_b1 all0)
  have kp23 := kp3.trans K18 ((allS (P := fun x => x ∈ ([] : List Addr) ∨ h0.size ≤ x) (Or.inr sz_b1) all0))
  obtain ⟨fs, hr, hrun, hended, hW, hsame⟩ := X18.leave (v := some (.ref b1)) (fun h => by rw [Bd.returns] at h; cases h)
  refine ⟨_, _, pre0 _ ?_, hrun, hended, _, _, rfl, ?_, ⟨_, rfl⟩, hW, hsame.mono (by decide) (by decide)⟩
  · show Steps p.tables e below (s₁.setTop (mkF m 0 #[rv a] [])) _
    refine st1 _ ?_
    show Steps p.tables e below (T1.setTop (mkF m 3 #[rv a] [(.ref b1)])) _
    refine XS.dup X1.here hx rfl (hb hby own_d11_3) rfl rfl ?_
    show Steps p.tables e below (T1.setTop (mkF m 4 #[rv a] [(.ref b1), (.ref b1)])) _
    refine XS.aloadN X1.here hx rfl (hb hby own_d11_4) rfl rfl ?_
    show Steps p.tables e below (T1.setTop (mkF m 5 #[rv a] [(.ref a), (.ref b1), (.ref b1)])) _
    refine XS.iconst X1.here hx rfl (hb hby own_d11_5) ?_
    show Steps p.tables e below (T1.setTop (mkF m 6 #[rv a] [(.int 0), (.ref a), (.ref b1), (.ref b1)])) _
    refine st8.trans ?_
    show Steps p.tables e below (T8.setTop (mkF m 11 #[rv a] [(.ref y0), (.ref b1), (.ref b1)])) _
    refine st10 _ ?_
    show Steps p.tables e below (T10.setTop (mkF m 14 #[rv a] [(.ref y0), (.ref b1), (.ref b1)])) _
    refine st12.trans ?_
    show Steps p.tables e below (T12.setTop (mkF m 17 #[rv a] [(.long q0), (.ref b1), (.ref b1)])) _
    refine XS.aloadN X12.here hx rfl (hb hby own_d11_17) rfl rfl ?_
    show Steps p.tables e below (T12.setTop (mkF m 18 #[rv a] [(.ref a), (.long q0), (.ref b1), (.ref b1)])) _
    refine XS.iconst X12.here hx rfl (hb hby own_d11_18) ?_
    show Steps p.tables e below (T12.setTop (mkF m 19 #[rv a] [(.int 1), (.ref a), (.long q0), (.ref b1), (.ref b1)])) _
    refine st13.trans ?_
    show Steps p.tables e below (T13.setTop (mkF m 24 #[rv a] [(.ref y1), (.long q0), (.ref b1), (.ref b1)])) _
    refine st15 _ ?_
    show Steps p.tables e below (T15.setTop (mkF m 27 #[rv a] [(.ref y1), (.long q0), (.ref b1), (.ref b1)])) _
    refine st17.trans ?_
    show Steps p.tables e below (T17.setTop (mkF m 30 #[rv a] [(.long q1), (.long q0), (.ref b1), (.ref b1)])) _
    refine st18.trans ?_
    show Steps p.tables e below (T18.setTop (mkF m 33 #[rv a] [(.ref b1)])) _
    jvm_step X18.here [X18.here.top, hx, (hb hby own_d11_33), X18.method', Bd.returns, Value.isRef, FieldType.isReference]
    first | (intro acts; rw [hr _ acts rfl rfl rfl]) | rw [hr _ _ rfl rfl rfl]
    exact Steps.refl _
  · show own_of2_Q Z w_DE k_DE w_CA a b kb y0 y1 q0 q1 h0 n0 _ T18.heap _
    exact ⟨b1, rfl, N18, kp23, q19, q20, q21⟩
theorem own_of3_ef (m : MethodId) (a : Addr) : entryFrame m #[(.ref a)] 1 = mkF m 0 #[rv a] [] := by first | (simp [entryFrame, mkF, argsToLocals, Value.category]; done) | rfl
def own_of3_Q (Z : State) (w_DE : Addr) (k_DE : ClassId) (w_CA : Addr) (a : Addr) (b : Addr) (kb : ClassId) (y0 : Addr) (y1 : Addr) (y2 : Addr) (q0 : Int64) (q1 : Int64) (h0 : Heap) (n0 : Nat) (v : Option Value) (h : Heap) (L : List Loc) : Prop := ∃ r : Addr, v = some (.ref r) ∧ Fr n0 L ∧ Keep h0 h [] ∧ Exa Z h r "com/example/horkos/horkos/internal/AcquireReply" ∧ Fld Z h r "com/example/horkos/horkos/internal/AcquireReply" "holds" "J" (.long q0) ∧ Fld Z h r "com/example/horkos/horkos/internal/AcquireReply" "token" "J" (.long q1)
set_option maxRecDepth 65536 in
set_option maxHeartbeats 40000000 in
theorem own_of3 (l : Launch) (Z : State) (a0 : Array Value) (hw : ∀ d ∈ tables_1, d.before a0 Z = true) (ws : List Jvm.Cond) (w_DE : Addr) (k_DE : ClassId) (w_CA : Addr) (a : Addr) (b : Addr) (kb : ClassId) (y0 : Addr) (y1 : Addr) (y2 : Addr) (q0 : Int64) (q1 : Int64) (h0 : Heap) (n0 : Nat) (O0 : Old Z n0 h0) (S_DE : Sta Z Z.heap "java/util/ArrayList" "DEFAULTCAPACITY_EMPTY_ELEMENTDATA" "[Ljava/lang/Object;" (.ref w_DE)) (V_DE : Arv Z Z.heap w_DE k_DE (.object "java/lang/Object") (0 : Int32) [] .null) (S_CA : Sta Z Z.heap "java/lang/Long$LongCache" "cache" "[Ljava/lang/Long;" (.ref w_CA)) (H_CA : own_Cache Z w_CA) (F_elementData : Fld Z h0 a "java/util/ArrayList" "elementData" "[Ljava/lang/Object;" (.ref b)) (F_size : Fld Z h0 a "java/util/ArrayList" "size" "I" (.int 3)) (E_a : Exa Z h0 a "java/util/ArrayList") (V_b : Arv Z h0 b kb (.object "java/lang/Object") (10 : Int32) [(.ref y0), (.ref y1), (.ref y2), .null, .null, .null, .null, .null, .null, .null] .null) (E_y0 : Exa Z h0 y0 "java/lang/Long") (E_y1 : Exa Z h0 y1 "java/lang/Long") (G_y0 : Fld Z h0 y0 "java/lang/Long" "value" "J" (.long q0)) (G_y1 : Fld Z h0 y1 "java/lang/Long" "value" "J" (.long q1)) :
    MetFree l (⟨"com/example/horkos/horkos/internal/AcquireReply", "of", "(Ljava/util/List;)Lcom/example/horkos/horkos/internal/AcquireReply;"⟩ : MethodName) (head1 (Jvm.Cond.code (⟨"com/example/horkos/horkos/internal/AcquireReply", "of", "(Ljava/util/List;)Lcom/example/horkos/horkos/internal/AcquireReply;"⟩ : MethodName) prog_4_method_2_code 1 (some (.object "com/example/horkos/horkos/internal/AcquireReply")) :: ws) ({ frames := 3, cells := 1, slots := 2, locals := 47 } : Room)) (fun ar U => ar = #[(.ref a)] ∧ Z.Warmed39 U.vm ∧ U.heap = h0) (fun _ _ _ _ _ => True) (fun _ U oc U' => ∃ v L, oc = .returned v ∧ own_of3_Q Z w_DE k_DE w_CA a b kb y0 y1 y2 q0 q1 h0 n0 v U'.heap L ∧ FrameEnd U oc U' L ({ frames := 3, cells := 1, slots := 2, locals := 47 } : Room).cells ({ frames := 3, cells := 1, slots := 2, locals := 47 } : Room).slots) := by
  refine MetFree.of_bodySF (plainFor_of_name own_pn8) hisR ?_
  intro p e s m args below meth c s₁ Bd hml0 hP hK
  obtain ⟨rfl, hZ, hh⟩ := hP
  have hx := Bd.exec
  have hby := Bd.bytes
  have hml : c.maxLocals = 1 := hml0
  have hown : s.vm.findClass "com/example/horkos/horkos/internal/AcquireReply" = some m.cls := findClass_of_methodNamed Bd.named
  have hnm := (name_of_methodNamed Bd.named Bd.method).1
  have X0 : Stand p l e ({ frames := 3, cells := 1, slots := 2, locals := 47 } : Room) s m #[(.ref a)] below meth c s₁ [] 0 0 := Stand.of_body Bd
  have e0 : s₁.heap = h0 := by rw [← hh, Bd.state]; rfl
  have N0 := Fr.nil n0
  have pre0 : ∀ t, Steps p.tables e below (s₁.setTop (mkF m 0 #[rv a] [])) t → Steps p.tables e below (s₁.setTop (entryFrame m #[(.ref a)] 1)) t := fun t k => castTop (own_of3_ef m a) k
  have kp0 := Keep.refl h0 ([] : List Addr)
  obtain ⟨T1, h1, X1, e1, E1, A1, D1, -, st1⟩ := newO X0 hx hZ hown (hw _ (own_m 69 rfl)) (hw _ (own_m 70 rfl)) (hw _ (own_m 67 rfl)) e0 (g := (mkF m 0 #[rv a] [])) rfl (hb hby own_d11_0) (by decide) (by decide)
  obtain ⟨b1, g1⟩ : ∃ z, z = h0.size := ⟨_, rfl⟩
  rw [← g1] at A1 D1 st1
  have ne_a_b1 : a ≠ b1 := Nat.ne_of_lt (g1 ▸ F_elementData.lt)
  have ne_b_b1 : b ≠ b1 := Nat.ne_of_lt (g1 ▸ V_b.lt)
  have ne_y0_b1 : y0 ≠ b1 := Nat.ne_of_lt (g1 ▸ E_y0.lt)
  have ne_y1_b1 : y1 ≠ b1 := Nat.ne_of_lt (g1 ▸ E_y1.lt)
  have gg_b1 : n0 ≤ b1 := g1 ▸ own_le O0
  have sz_b1 : h0.size ≤ b1 := g1 ▸ kp0.1
  have O2 := O0.ext E1
  have kp3 := kp0.ext E1
  have F_holds_b1 : Fld Z h1 b1 "com/example/horkos/horkos/internal/AcquireReply" "holds" "J" (.long 0) := D1 (Or.inr (hw _ (own_m 112 rfl))) (ty := .long) (by decide)
  have F_token_b1 : Fld Z h1 b1 "com/example/horkos/horkos/internal/AcquireReply" "token" "J" (.long 0) := D1 (Or.inr (hw _ (own_m 114 rfl))) (ty := .long) (by decide)
  have f4 := (F_elementData.ext E1)
  have f5 := (F_size.ext E1)
  have f6 := (E_a.ext E1)
  have f7 := (V_b.ext E1)
  obtain ⟨cq8, kq8, q8a, q8b, q8c⟩ := isOf hZ e1 f6
  obtain ⟨_, _, ⟨T8, L8, k8, n8⟩, -, X8, ⟨Lc8, hQ8, l8, y8, z8⟩, st8⟩ := X1.interfaceBack hx (xi := (⟨"java/util/List", "get", "(I)Ljava/lang/Object;"⟩ : MethodName)) (y := (⟨"java/util/ArrayList", "get", "(I)Ljava/lang/Object;"⟩ : MethodName)) hown (mvT hZ (hw _ (own_m 71 rfl))) (mvT hZ (hw _ (own_m 72 rfl))) (mvT hZ (hw _ (own_m 73 rfl))) (mvT hZ (hw _ (own_m 74 rfl))) (mvT hZ (hw _ (own_m 75 rfl))) (mvT hZ (hw _ (own_m 76 rfl))) (mvT hZ (hw _ (own_m 77 rfl))) (mvT hZ (hw _ (own_m 78 rfl))) (by decide) (backOf (W := 2) (own_get_30 l Z a0 hw [] w_DE k_DE w_CA a b kb y0 y1 y2 h1 n0 O2 S_DE V_DE S_CA H_CA f4 f5 f6 f7) hZ (hw _ (own_m 79 rfl)) (hw _ (own_m 2 rfl)) (by decide) (by decide)) q8a q8b q8c (g := (mkF m 6 #[rv a] [(.int 0), (.ref a), (.ref b1), (.ref b1)])) rfl (by rw [hml]; rfl) (Steps.refl _) (argsL := [(.int 0)]) (rest := [(.ref b1), (.ref b1)]) (lenOf own_pd7 rfl) rfl (by show 2 * 0 + _ ≤ _; exact Nat.le_of_eq rfl) (hb hby own_d11_6) (fun _ _ => ⟨rfl, e1, (by decide : 1 + 0 ≤ _), (by decide : 2 + 0 ≤ _)⟩)
  dsimp only [Pt.U, Pt.locs, Pt.cells, Pt.slots] at X8 l8 y8 z8 st8 hQ8
  subst l8 y8 z8
  obtain ⟨rfl, N8q, e8⟩ := hQ8
  have N8 := Fr.app N0 N8q
  have f9 := (E_y0.ext E1)
  obtain ⟨T10, X10, e10, st10⟩ := castY X8 hx hZ hown (hw _ (own_m 93 rfl)) e8 (Ins.self f9) (g := (mkF m 11 #[rv a] [(.ref y0), (.ref b1), (.ref b1)])) rfl rfl (hb hby own_d11_11)
  have f11 := (G_y0.ext E1)
  obtain ⟨cq12, kq12, q12a, q12b, q12c⟩ := isOf hZ e10 f9
  obtain ⟨_, _, ⟨T12, L12, k12, n12⟩, -, X12, ⟨Lc12, hQ12, l12, y12, z12⟩, st12⟩ := X10.virtualBack hx (y := (⟨"java/lang/Long", "longValue", "()J"⟩ : MethodName)) (z := (⟨"java/lang/Long", "longValue", "()J"⟩ : MethodName)) hown (mvT hZ (hw _ (own_m 95 rfl))) (mvT hZ (hw _ (own_m 96 rfl))) (notFace_of_selects (args := #[]) (mvT hZ (hw _ (own_m 98 rfl)))) (mvT hZ (hw _ (own_m 98 rfl))) (mvT hZ (hw _ (own_m 97 rfl))) (by decide) (backOf (W := 2) (own_lv l Z a0 hw [] w_DE k_DE w_CA y0 q0 h1 n0 O2 S_DE V_DE S_CA H_CA f11) hZ (hw _ (own_m 99 rfl)) (hw _ (own_m 28 rfl)) (by decide) (by decide)) q12a q12c (g := (mkF m 14 #[rv a] [(.ref y0), (.ref b1), (.ref b1)])) rfl (by rw [hml]; rfl) (Steps.refl _) (argsL := []) (rest := [(.ref b1), (.ref b1)]) (lenOf own_pd8 rfl) rfl (by show 2 * 0 + _ ≤ _; exact Nat.le_of_eq rfl) (hb hby own_d11_14) (fun _ _ => ⟨rfl, e10, (by decide : 1 + 0 ≤ _), (by decide : 2 + 0 ≤ _)⟩)
  dsimp only [Pt.U, Pt.locs, Pt.cells, Pt.slots] at X12 l12 y12 z12 st12 hQ12
  subst l12 y12 z12
  obtain ⟨rfl, N12q, e12⟩ := hQ12
  have N12 := Fr.app N8 N12q
  obtain ⟨cq13, kq13, q13a, q13b, q13c⟩ := isOf hZ e12 f6
  obtain ⟨_, _, ⟨T13, L13, k13, n13⟩, -, X13, ⟨Lc13, hQ13, l13, y13, z13⟩, st13⟩ := X12.interfaceBack hx (xi := (⟨"java/util/List", "get", "(I)Ljava/lang/Object;"⟩ : MethodName)) (y := (⟨"java/util/ArrayList", "get", "(I)Ljava/lang/Object;"⟩ : MethodName)) hown (mvT hZ (hw _ (own_m 71 rfl))) (mvT hZ (hw _ (own_m 72 rfl))) (mvT hZ (hw _ (own_m 73 rfl))) (mvT hZ (hw _ (own_m 74 rfl))) (mvT hZ (hw _ (own_m 75 rfl))) (mvT hZ (hw _ (own_m 76 rfl))) (mvT hZ (hw _ (own_m 77 rfl))) (mvT hZ (hw _ (own_m 78 rfl))) (by decide) (backOf (W := 4) (own_get_31 l Z a0 hw [] w_DE k_DE w_CA a b kb y0 y1 y2 h1 n0 O2 S_DE V_DE S_CA H_CA f4 f5 f6 f7) hZ (hw _ (own_m 79 rfl)) (hw _ (own_m 2 rfl)) (by decide) (by decide)) q13a q13b q13c (g := (mkF m 19 #[rv a] [(.int 1), (.ref a), (.long q0), (.ref b1), (.ref b1)])) rfl (by rw [hml]; rfl) (Steps.refl _) (argsL := [(.int 1)]) (rest := [(.long q0), (.ref b1), (.ref b1)]) (lenOf own_pd7 rfl) rfl (by show 2 * 0 + _ ≤ _; exact Nat.le_of_eq rfl) (hb hby own_d11_19) (fun _ _ => ⟨rfl, e12, (by decide : 1 + 0 ≤ _), (by decide : 2 + 0 ≤ _)⟩)
  dsimp only [Pt.U, Pt.locs, Pt.cells, Pt.slots] at X13 l13 y13 z13 st13 hQ13
  subst l13 y13 z13
  obtain ⟨rfl, N13q, e13⟩ := hQ13
  have N13 := Fr.app N12 N13q
  have f14 := (E_y1.ext E1)
  obtain ⟨T15, X15, e15, st15⟩ := castY X13 hx hZ hown (hw _ (own_m 93 rfl)) e13 (Ins.self f14) (g := (mkF m 24 #[rv a] [(.ref y1), (.long q0), (.ref b1), (.ref b1)])) rfl rfl (hb hby own_d11_24)
  have f16 := (G_y1.ext E1)
  obtain ⟨cq17, kq17, q17a, q17b, q17c⟩ := isOf hZ e15 f14
  obtain ⟨_, _, ⟨T17, L17, k17, n17⟩, -, X17, ⟨Lc17, hQ17, l17, y17, z17⟩, st17⟩ := X15.virtualBack hx (y := (⟨"java/lang/Long", "longValue", "()J"⟩ : MethodName)) (z := (⟨"java/lang/Long", "longValue", "()J"⟩ : MethodName)) hown (mvT hZ (hw _ (own_m 95 rfl))) (mvT hZ (hw _ (own_m 96 rfl))) (notFace_of_selects (args := #[]) (mvT hZ (hw _ (own_m 98 rfl)))) (mvT hZ (hw _ (own_m 98 rfl))) (mvT hZ (hw _ (own_m 97 rfl))) (by decide) (backOf (W := 4) (own_lv l Z a0 hw [] w_DE k_DE w_CA y1 q1 h1 n0 O2 S_DE V_DE S_CA H_CA f16) hZ (hw _ (own_m 99 rfl)) (hw _ (own_m 28 rfl)) (by decide) (by decide)) q17a q17c (g := (mkF m 27 #[rv a] [(.ref y1), (.long q0), (.ref b1), (.ref b1)])) rfl (by rw [hml]; rfl) (Steps.refl _) (argsL := []) (rest := [(.long q0), (.ref b1), (.ref b1)]) (lenOf own_pd8 rfl) rfl (by show 2 * 0 + _ ≤ _; exact Nat.le_of_eq rfl) (hb hby own_d11_27) (fun _ _ => ⟨rfl, e15, (by decide : 1 + 0 ≤ _), (by decide : 2 + 0 ≤ _)⟩)
  dsimp only [Pt.U, Pt.locs, Pt.cells, Pt.slots] at X17 l17 y17 z17 st17 hQ17
  subst l17 y17 z17
  obtain ⟨rfl, N17q, e17⟩ := hQ17
  have N17 := Fr.app N13 N17q
  obtain ⟨_, _, ⟨T18, L18, k18, n18⟩, -, X18, ⟨Lc18, hQ18, l18, y18, z18⟩, st18⟩ := X17.specialBack hx (y := (⟨"com/example/horkos/horkos/internal/AcquireReply", "<init>", "(JJ)V"⟩ : MethodName)) rfl hown (mvT hZ (hw _ (own_m 102 rfl))) (mvT hZ (hw _ (own_m 103 rfl))) (mvT hZ (hw _ (own_m 104 rfl))) (by decide) (backOf (W := 1) (own_ar l Z a0 hw [] w_DE k_DE w_CA b1 q0 q1 h1 n0 O2 S_DE V_DE S_CA H_CA gg_b1 A1 F_holds_b1 F_token_b1) hZ (hw _ (own_m 104 rfl)) (hw _ (own_m 67 rfl)) (by decide) (by decide)) (g := (mkF m 30 #[rv a] [(.long q1), (.long q0), (.ref b1), (.ref b1)])) rfl (by rw [hml]; rfl) (Steps.refl _) (a := b1) (argsL := [(.long q0), (.long q1)]) (rest := [(.ref b1)]) (lenOf own_pd9 rfl) rfl (by show 2 * 0 + _ ≤ _; exact Nat.le_of_eq rfl) (hb hby own_d11_30) (fun _ _ => ⟨rfl, e17, (by decide : 1 + 0 ≤ _), (by decide : 2 + 0 ≤ _)⟩)
  dsimp only [Pt.U, Pt.locs, Pt.cells, Pt.slots] at X18 l18 y18 z18 st18 hQ18
  subst l18 y18 z18
  obtain ⟨rfl, N18q, K18, q19, q20, q21⟩ := hQ18
  have N18 := Fr.app N17 N18q
  have O22 := O2.keep K18 (allS gg_b1 all0)
  have kp23 := kp3.trans K18 ((allS (P := fun x => x ∈ ([] : List Addr) ∨ h0.size ≤ x) (Or.inr sz_b1) all0))
  obtain ⟨fs, hr, hrun, hended, hW, hsame⟩ := X18.leave (v := some (.ref b1)) (fun h => by rw [Bd.returns] at h; cases h)
  refine ⟨_, _, pre0 _ ?_, hrun, hended, _, _, rfl, ?_, ⟨_, rfl⟩, hW, hsame.mono (by decide) (by decide)⟩
  · show Steps p.tables e below (s₁.setTop (mkF m 0 #[rv a] [])) _
    refine st1 _ ?_
    show Steps p.tables e below (T1.setTop (mkF m 3 #[rv a] [(.ref b1)])) _
    refine XS.dup X1.here hx rfl (hb hby own_d11_3) rfl rfl ?_
    show Steps p.tables e below (T1.setTop (mkF m 4 #[rv a] [(.ref b1), (.ref b1)])) _
    refine XS.aloadN X1.here hx rfl (hb hby own_d11_4) rfl rfl ?_
    show Steps p.tables e below (T1.setTop (mkF m 5 #[rv a] [(.ref a), (.ref b1), (.ref b1)])) _
    refine XS.iconst X1.here hx rfl (hb hby own_d11_5) ?_
    show Steps p.tables e below (T1.setTop (mkF m 6 #[rv a] [(.int 0), (.ref a), (.ref b1), (.ref b1)])) _
    refine st8.trans ?_
    show Steps p.tables e below (T8.setTop (mkF m 11 #[rv a] [(.ref y0), (.ref b1), (.ref b1)])) _
    refine st10 _ ?_
    show Steps p.tables e below (T10.setTop (mkF m 14 #[rv a] [(.ref y0), (.ref b1), (.ref b1)])) _
    refine st12.trans ?_
    show Steps p.tables e below (T12.setTop (mkF m 17 #[rv a] [(.long q0), (.ref b1), (.ref b1)])) _
    refine XS.aloadN X12.here hx rfl (hb hby own_d11_17) rfl rfl ?_
    show Steps p.tables e below (T12.setTop (mkF m 18 #[rv a] [(.ref a), (.long q0), (.ref b1), (.ref b1)])) _
    refine XS.iconst X12.here hx rfl (hb hby own_d11_18) ?_
    show Steps p.tables e below (T12.setTop (mkF m 19 #[rv a] [(.int 1), (.ref a), (.long q0), (.ref b1), (.ref b1)])) _
    refine st13.trans ?_
    show Steps p.tables e below (T13.setTop (mkF m 24 #[rv a] [(.ref y1), (.long q0), (.ref b1), (.ref b1)])) _
    refine st15 _ ?_
    show Steps p.tables e below (T15.setTop (mkF m 27 #[rv a] [(.ref y1), (.long q0), (.ref b1), (.ref b1)])) _
    refine st17.trans ?_
    show Steps p.tables e below (T17.setTop (mkF m 30 #[rv a] [(.long q1), (.long q0), (.ref b1), (.ref b1)])) _
    refine st18.trans ?_
    show Steps p.tables e below (T18.setTop (mkF m 33 #[rv a] [(.ref b1)])) _
    jvm_step X18.here [X18.here.top, hx, (hb hby own_d11_33), X18.method', Bd.returns, Value.isRef, FieldType.isReference]
    first | (intro acts; rw [hr _ acts rfl rfl rfl]) | rw [hr _ _ rfl rfl rfl]
    exact Steps.refl _
  · show own_of3_Q Z w_DE k_DE w_CA a b kb y0 y1 y2 q0 q1 h0 n0 _ T18.heap _
    exact ⟨b1, rfl, N18, kp23, q19, q20, q21⟩
theorem own_law_ef (m : MethodId) (q0 : Int64) (q1 : Int64) (q2 : Int64) (p3 : Int32) : entryFrame m #[(.long q0), (.long q1), (.long q2), (.int p3)] maxLocals = mkF m 0 #[.val (.long q0), .second, .val (.long q1), .second, .val (.long q2), .second, iv p3, .unset, .unset] [] := by first | (simp [entryFrame, mkF, argsToLocals, Value.category, maxLocals]; done) | rfl
def own_law_Q (Z : State) (w_DE : Addr) (k_DE : ClassId) (w_CA : Addr) (q0 : Int64) (q1 : Int64) (q2 : Int64) (p3 : Int32) (h0 : Heap) (n0 : Nat) (v : Option Value) (h : Heap) (L : List Loc) : Prop := v = some (.int 1) ∧ Fr n0 L
set_option maxRecDepth 65536 in
set_option maxHeartbeats 40000000 in
theorem own_law (l : Launch) (Z : State) (a0 : Array Value) (hw : ∀ d ∈ tables_1, d.before a0 Z = true) (ws : List Jvm.Cond) (w_DE : Addr) (k_DE : ClassId) (w_CA : Addr) (q0 : Int64) (q1 : Int64) (q2 : Int64) (p3 : Int32) (h0 : Heap) (n0 : Nat) (O0 : Old Z n0 h0) (S_DE : Sta Z Z.heap "java/util/ArrayList" "DEFAULTCAPACITY_EMPTY_ELEMENTDATA" "[Ljava/lang/Object;" (.ref w_DE)) (V_DE : Arv Z Z.heap w_DE k_DE (.object "java/lang/Object") (0 : Int32) [] .null) (S_CA : Sta Z Z.heap "java/lang/Long$LongCache" "cache" "[Ljava/lang/Long;" (.ref w_CA)) (H_CA : own_Cache Z w_CA) :
    MetFree l x (head1 (Jvm.Cond.code x code maxLocals ret :: ws) room_1) (fun ar U => ar = #[(.long q0), (.long q1), (.long q2), (.int p3)] ∧ Z.Warmed39 U.vm ∧ U.heap = h0) (fun _ _ _ _ _ => True) (fun _ U oc U' => ∃ v L, oc = .returned v ∧ own_law_Q Z w_DE k_DE w_CA q0 q1 q2 p3 h0 n0 v U'.heap L ∧ FrameEnd U oc U' L 24 128) := by
  refine MetFree.of_bodySF (plainFor_of_name own_pn9) hisR ?_
  intro p e s m args below meth c s₁ Bd hml0 hP hK
  obtain ⟨rfl, hZ, hh⟩ := hP
  have hx := Bd.exec
  have hby := Bd.bytes
  have hml : c.maxLocals = 9 := hml0
  have hown : s.vm.findClass "com/example/horkos/horkos/internal/AcquireReplyOfPinLaw" = some m.cls := findClass_of_methodNamed Bd.named
  have hnm := (name_of_methodNamed Bd.named Bd.method).1
  have X0 : Stand p l e room_1 s m #[(.long q0), (.long q1), (.long q2), (.int p3)] below meth c s₁ [] 0 0 := Stand.of_body Bd
  have e0 : s₁.heap = h0 := by rw [← hh, Bd.state]; rfl
  have N0 := Fr.nil n0
  have pre0 : ∀ t, Steps p.tables e below (s₁.setTop (mkF m 0 #[.val (.long q0), .second, .val (.long q1), .second, .val (.long q2), .second, iv p3, .unset, .unset] [])) t → Steps p.tables e below (s₁.setTop (entryFrame m #[(.long q0), (.long q1), (.long q2), (.int p3)] maxLocals)) t := fun t k => castTop (own_law_ef m q0 q1 q2 p3) k
  obtain ⟨T1, h1, X1, e1, E1, A1, D1, -, st1⟩ := newO X0 hx hZ hown (hw _ (own_m 0 rfl)) (hw _ (own_m 1 rfl)) (hw _ (own_m 2 rfl)) e0 (g := (mkF m 0 #[.val (.long q0), .second, .val (.long q1), .second, .val (.long q2), .second, iv p3, .unset, .unset] [])) rfl (hb hby at_0) (by decide) (by decide)
  obtain ⟨b1, g1⟩ : ∃ z, z = h0.size := ⟨_, rfl⟩
  rw [← g1] at A1 D1 st1
  have gg_b1 : n0 ≤ b1 := g1 ▸ own_le O0
  have O2 := O0.ext E1
  have F_modCount_b1 : Fld Z h1 b1 "java/util/AbstractList" "modCount" "I" (.int 0) := D1 (Or.inl (hw _ (own_m 22 rfl))) (ty := .int) (by decide)
  have F_elementData_b1 : Fld Z h1 b1 "java/util/ArrayList" "elementData" "[Ljava/lang/Object;" .null := D1 (Or.inl (hw _ (own_m 25 rfl))) (ty := (.array (.object "java/lang/Object"))) (by decide)
  have F_size_b1 : Fld Z h1 b1 "java/util/ArrayList" "size" "I" (.int 0) := D1 (Or.inl (hw _ (own_m 42 rfl))) (ty := .int) (by decide)
  obtain ⟨_, _, ⟨T3, L3, k3, n3⟩, -, X3, ⟨Lc3, hQ3, l3, y3, z3⟩, st3⟩ := X1.specialBack hx (y := (⟨"java/util/ArrayList", "<init>", "()V"⟩ : MethodName)) rfl hown (mvT hZ (hw _ (own_m 3 rfl))) (mvT hZ (hw _ (own_m 4 rfl))) (mvT hZ (hw _ (own_m 5 rfl))) (by decide) (backOf (W := 1) (own_li l Z a0 hw [] w_DE k_DE w_CA b1 h1 n0 O2 S_DE V_DE S_CA H_CA gg_b1 A1 F_elementData_b1 F_size_b1 F_modCount_b1) hZ (hw _ (own_m 5 rfl)) (hw _ (own_m 2 rfl)) (by decide) (by decide)) (g := (mkF m 4 #[.val (.long q0), .second, .val (.long q1), .second, .val (.long q2), .second, iv p3, .unset, .unset] [(.ref b1), (.ref b1)])) rfl (by rw [hml]; rfl) (Steps.refl _) (a := b1) (argsL := []) (rest := [(.ref b1)]) (lenOf own_pd0 rfl) rfl (by show 2 * 0 + _ ≤ _; exact Nat.le_of_eq rfl) (hb hby at_4) (fun _ _ => ⟨rfl, e1, (by decide : 1 + 0 ≤ _), (by decide : 3 + 0 ≤ _)⟩)
  dsimp only [Pt.U, Pt.locs, Pt.cells, Pt.slots] at X3 l3 y3 z3 st3 hQ3
  subst l3 y3 z3
  obtain ⟨rfl, N3q, K3, q4, q5, q6, q7⟩ := hQ3
  have N3 := Fr.app N0 N3q
  have O8 := O2.keep K3 (allS gg_b1 all0)
  obtain ⟨_, _, ⟨T9, L9, k9, n9⟩, -, X9, ⟨Lc9, hQ9, l9, y9, z9⟩, st9⟩ := Jvm.LawKit.callS X3 hx (y := (⟨"java/lang/Long", "valueOf", "(J)Ljava/lang/Long;"⟩ : MethodName)) hown (mvT hZ (hw _ (own_m 26 rfl))) (mvT hZ (hw _ (own_m 27 rfl))) (mvT hZ (hw _ (own_m 28 rfl))) (mvT hZ (hw _ (own_m 29 rfl))) (by decide) (backOf (W := 1) (own_vo l Z a0 hw [] w_DE k_DE w_CA q0 T3.heap n0 O8 S_DE V_DE S_CA H_CA ) hZ (hw _ (own_m 29 rfl)) (hw _ (own_m 28 rfl)) (by decide) (by decide)) (g := (mkF m 12 #[.val (.long q0), .second, .val (.long q1), .second, .val (.long q2), .second, iv p3, rv b1, .unset] [(.long q0), (.ref b1)])) rfl (by rw [hml]; rfl) (argsL := [(.long q0)]) (rest := [(.ref b1)]) (lenOf own_pd10 rfl) rfl (by show 2 * 0 + _ ≤ _; exact Nat.le_of_eq rfl) (hb hby at_12) (fun _ _ => ⟨rfl, rfl, (by decide : 1 + 1 ≤ _), (by decide : 3 + 1 ≤ _)⟩)
  dsimp only [Pt.U, Pt.locs, Pt.cells, Pt.slots] at X9 l9 y9 z9 st9 hQ9
  subst l9 y9 z9
  obtain ⟨y0, rfl, N9q, K9, Ey0, Fy0⟩ := hQ9
  have N9 := Fr.app N3 N9q
  have O10 := O8.keep K9 all0
  have f11 := (q4.keep K9)
  have ne_y0_a : y0 ≠ b1 := ne_exa Ey0 f11 (by decide)
  have f12 := (q5.keep K9 nin0)
  have f13 := (q6.keep K9 nin0)
  have f14 := (q7.keep K9 nin0)
  obtain ⟨cq15, kq15, q15a, q15b, q15c⟩ := isOf hZ rfl f11
  obtain ⟨_, _, ⟨T15, L15, k15, n15⟩, -, X15, ⟨Lc15, hQ15, l15, y15, z15⟩, st15⟩ := X9.virtualBack hx (y := (⟨"java/util/ArrayList", "add", "(Ljava/lang/Object;)Z"⟩ : MethodName)) (z := (⟨"java/util/ArrayList", "add", "(Ljava/lang/Object;)Z"⟩ : MethodName)) hown (mvT hZ (hw _ (own_m 34 rfl))) (mvT hZ (hw _ (own_m 35 rfl))) (notFace_of_selects (args := #[]) (mvT hZ (hw _ (own_m 37 rfl)))) (mvT hZ (hw _ (own_m 37 rfl))) (mvT hZ (hw _ (own_m 36 rfl))) (by decide) (backOf (W := 0) (own_af l Z a0 hw [] w_DE k_DE w_CA b1 y0 (0 : Int32) T9.heap n0 O10 S_DE V_DE S_CA H_CA gg_b1 f11 f12 f13 f14 Ey0) hZ (hw _ (own_m 38 rfl)) (hw _ (own_m 2 rfl)) (by decide) (by decide)) q15a q15c (g := (mkF m 15 #[.val (.long q0), .second, .val (.long q1), .second, .val (.long q2), .second, iv p3, rv b1, .unset] [(.ref y0), (.ref b1)])) rfl (by rw [hml]; rfl) (Steps.refl _) (argsL := [(.ref y0)]) (rest := []) (lenOf own_pd11 rfl) rfl (by show 2 * 0 + _ ≤ _; exact Nat.le_of_eq rfl) (hb hby at_15) (fun _ _ => ⟨rfl, rfl, (by decide : 2 + 1 ≤ _), (by decide : 4 + 10 ≤ _)⟩)
  dsimp only [Pt.U, Pt.locs, Pt.cells, Pt.slots] at X15 l15 y15 z15 st15 hQ15
  subst l15 y15 z15
  obtain ⟨rfl, N15q, K15, bb, kb, szr, nba, O_bb, V_bb, q16, q17, q18, q19⟩ := hQ15
  have N15 := Fr.app N9 N15q
  have g_bb : n0 ≤ bb := Nat.le_trans (own_le O10) szr
  have O20 := O10.keep K15 (allS gg_b1 all0)
  obtain ⟨c21, c21A, c21q, c21S, c21N, c21H, c21G⟩ := id V_bb
  have f22 := (Ey0.keep K15)
  have ne_y0_b : y0 ≠ bb := ne_arr f22 (hw _ (own_m 126 rfl)) c21A
  obtain ⟨_, _, ⟨T23, L23, k23, n23⟩, -, X23, ⟨Lc23, hQ23, l23, y23, z23⟩, st23⟩ := Jvm.LawKit.callS X15 hx (y := (⟨"java/lang/Long", "valueOf", "(J)Ljava/lang/Long;"⟩ : MethodName)) hown (mvT hZ (hw _ (own_m 26 rfl))) (mvT hZ (hw _ (own_m 27 rfl))) (mvT hZ (hw _ (own_m 28 rfl))) (mvT hZ (hw _ (own_m 29 rfl))) (by decide) (backOf (W := 1) (own_vo l Z a0 hw [] w_DE k_DE w_CA q1 T15.heap n0 O20 S_DE V_DE S_CA H_CA ) hZ (hw _ (own_m 29 rfl)) (hw _ (own_m 28 rfl)) (by decide) (by decide)) (g := (mkF m 22 #[.val (.long q0), .second, .val (.long q1), .second, .val (.long q2), .second, iv p3, rv b1, .unset] [(.long q1), (.ref b1)])) rfl (by rw [hml]; rfl) (argsL := [(.long q1)]) (rest := [(.ref b1)]) (lenOf own_pd10 rfl) rfl (by show 2 * 0 + _ ≤ _; exact Nat.le_of_eq rfl) (hb hby at_22) (fun _ _ => ⟨rfl, rfl, (by decide : 3 + 1 ≤ _), (by decide : 14 + 1 ≤ _)⟩)
  dsimp only [Pt.U, Pt.locs, Pt.cells, Pt.slots] at X23 l23 y23 z23 st23 hQ23
  subst l23 y23 z23
  obtain ⟨y1, rfl, N23q, K23, Ey1, Fy1⟩ := hQ23
  have N23 := Fr.app N15 N23q
  have O24 := O20.keep K23 all0
  have f25 := (q16.keep K23)
  have ne_y1_a : y1 ≠ b1 := ne_exa Ey1 f25 (by decide)
  have f26 := (V_bb.keep K23 nin0)
  obtain ⟨c27, c27A, c27q, c27S, c27N, c27H, c27G⟩ := id f26
  have ne_y1_b : y1 ≠ bb := ne_arr Ey1 (hw _ (own_m 126 rfl)) c27A
  have f28 := (q17.keep K23 nin0)
  have f29 := (q18.keep K23 nin0)
  have f30 := (q19.keep K23 nin0)
  obtain ⟨cq31, kq31, q31a, q31b, q31c⟩ := isOf hZ rfl f25
  obtain ⟨_, _, ⟨T31, L31, k31, n31⟩, -, X31, ⟨Lc31, hQ31, l31, y31, z31⟩, st31⟩ := X23.virtualBack hx (y := (⟨"java/util/ArrayList", "add", "(Ljava/lang/Object;)Z"⟩ : MethodName)) (z := (⟨"java/util/ArrayList", "add", "(Ljava/lang/Object;)Z"⟩ : MethodName)) hown (mvT hZ (hw _ (own_m 34 rfl))) (mvT hZ (hw _ (own_m 35 rfl))) (notFace_of_selects (args := #[]) (mvT hZ (hw _ (own_m 37 rfl)))) (mvT hZ (hw _ (own_m 37 rfl))) (mvT hZ (hw _ (own_m 36 rfl))) (by decide) (backOf (W := 0) (own_an1 l Z a0 hw [] w_DE k_DE w_CA b1 bb kb y0 y1 ((0 : Int32) + (1 : Int32)) T23.heap n0 O24 S_DE V_DE S_CA H_CA gg_b1 f25 f28 f29 f30 Ey1 g_bb nba O_bb f26) hZ (hw _ (own_m 38 rfl)) (hw _ (own_m 2 rfl)) (by decide) (by decide)) q31a q31c (g := (mkF m 25 #[.val (.long q0), .second, .val (.long q1), .second, .val (.long q2), .second, iv p3, rv b1, .unset] [(.ref y1), (.ref b1)])) rfl (by rw [hml]; rfl) (Steps.refl _) (argsL := [(.ref y1)]) (rest := []) (lenOf own_pd11 rfl) rfl (by show 2 * 0 + _ ≤ _; exact Nat.le_of_eq rfl) (hb hby at_25) (fun _ _ => ⟨rfl, rfl, (by decide : 4 + 0 ≤ _), (by decide : 15 + 0 ≤ _)⟩)
  dsimp only [Pt.U, Pt.locs, Pt.cells, Pt.slots] at X31 l31 y31 z31 st31 hQ31
  subst l31 y31 z31
  obtain ⟨rfl, N31q, K31, q32, q33, q34, q35, q36⟩ := hQ31
  have N31 := Fr.app N23 N31q
  have O37 := O24.keep K31 (allS gg_b1 (allS g_bb all0))
  have pre39 : ∀ t, Steps p.tables e below (T31.setTop (mkF m 32 #[.val (.long q0), .second, .val (.long q1), .second, .val (.long q2), .second, iv p3, rv b1, .unset] [(.int 1), (.int p3)])) t → Steps p.tables e below (s₁.setTop (entryFrame m #[(.long q0), (.long q1), (.long q2), (.int p3)] maxLocals)) t := fun t kt => by
    refine pre0 _ ?_
    show Steps p.tables e below (s₁.setTop (mkF m 0 #[.val (.long q0), .second, .val (.long q1), .second, .val (.long q2), .second, iv p3, .unset, .unset] [])) _
    refine st1 _ ?_
    show Steps p.tables e below (T1.setTop (mkF m 3 #[.val (.long q0), .second, .val (.long q1), .second, .val (.long q2), .second, iv p3, .unset, .unset] [(.ref b1)])) _
    refine XS.dup X1.here hx rfl (hb hby at_3) rfl rfl ?_
    show Steps p.tables e below (T1.setTop (mkF m 4 #[.val (.long q0), .second, .val (.long q1), .second, .val (.long q2), .second, iv p3, .unset, .unset] [(.ref b1), (.ref b1)])) _
    refine st3.trans ?_
    show Steps p.tables e below (T3.setTop (mkF m 7 #[.val (.long q0), .second, .val (.long q1), .second, .val (.long q2), .second, iv p3, .unset, .unset] [(.ref b1)])) _
    refine XS.astore X3.here hx rfl (hb hby at_7) rfl rfl (l' := #[.val (.long q0), .second, .val (.long q1), .second, .val (.long q2), .second, iv p3, rv b1, .unset]) rfl ?_
    show Steps p.tables e below (T3.setTop (mkF m 9 #[.val (.long q0), .second, .val (.long q1), .second, .val (.long q2), .second, iv p3, rv b1, .unset] [])) _
    refine XS.aload X3.here hx rfl (hb hby at_9) rfl rfl ?_
    show Steps p.tables e below (T3.setTop (mkF m 11 #[.val (.long q0), .second, .val (.long q1), .second, .val (.long q2), .second, iv p3, rv b1, .unset] [(.ref b1)])) _
    refine XS.lloadN X3.here hx rfl (hb hby at_11) rfl ?_
    show Steps p.tables e below (T3.setTop (mkF m 12 #[.val (.long q0), .second, .val (.long q1), .second, .val (.long q2), .second, iv p3, rv b1, .unset] [(.long q0), (.ref b1)])) _
    refine st9 _ ?_
    show Steps p.tables e below (T9.setTop (mkF m 15 #[.val (.long q0), .second, .val (.long q1), .second, .val (.long q2), .second, iv p3, rv b1, .unset] [(.ref y0), (.ref b1)])) _
    refine st15.trans ?_
    show Steps p.tables e below (T15.setTop (mkF m 18 #[.val (.long q0), .second, .val (.long q1), .second, .val (.long q2), .second, iv p3, rv b1, .unset] [(.int 1)])) _
    refine XS.pop X15.here hx rfl (hb hby at_18) rfl rfl ?_
    show Steps p.tables e below (T15.setTop (mkF m 19 #[.val (.long q0), .second, .val (.long q1), .second, .val (.long q2), .second, iv p3, rv b1, .unset] [])) _
    refine XS.aload X15.here hx rfl (hb hby at_19) rfl rfl ?_
    show Steps p.tables e below (T15.setTop (mkF m 21 #[.val (.long q0), .second, .val (.long q1), .second, .val (.long q2), .second, iv p3, rv b1, .unset] [(.ref b1)])) _
    refine XS.lloadN X15.here hx rfl (hb hby at_21) rfl ?_
    show Steps p.tables e below (T15.setTop (mkF m 22 #[.val (.long q0), .second, .val (.long q1), .second, .val (.long q2), .second, iv p3, rv b1, .unset] [(.long q1), (.ref b1)])) _
    refine st23 _ ?_
    show Steps p.tables e below (T23.setTop (mkF m 25 #[.val (.long q0), .second, .val (.long q1), .second, .val (.long q2), .second, iv p3, rv b1, .unset] [(.ref y1), (.ref b1)])) _
    refine st31.trans ?_
    show Steps p.tables e below (T31.setTop (mkF m 28 #[.val (.long q0), .second, .val (.long q1), .second, .val (.long q2), .second, iv p3, rv b1, .unset] [(.int 1)])) _
    refine XS.pop X31.here hx rfl (hb hby at_28) rfl rfl ?_
    show Steps p.tables e below (T31.setTop (mkF m 29 #[.val (.long q0), .second, .val (.long q1), .second, .val (.long q2), .second, iv p3, rv b1, .unset] [])) _
    refine XS.iload X31.here hx rfl (hb hby at_29) rfl ?_
    show Steps p.tables e below (T31.setTop (mkF m 31 #[.val (.long q0), .second, .val (.long q1), .second, .val (.long q2), .second, iv p3, rv b1, .unset] [(.int p3)])) _
    refine XS.iconst X31.here hx rfl (hb hby at_31) ?_
    show Steps p.tables e below (T31.setTop (mkF m 32 #[.val (.long q0), .second, .val (.long q1), .second, .val (.long q2), .second, iv p3, rv b1, .unset] [(.int 1), (.int p3)])) _
    exact kt
  by_cases hc38 : (p3 &&& (1 : Int32)) = (0 : Int32)
  · have f40 := ((f22.keep K23).keep K31)
    have f41 := (Ey1.keep K31)
    have f42 := (((Fy0.keep K15 (ninS ne_y0_a nin0)).keep K23 nin0).keep K31 (ninS ne_y0_a (ninS ne_y0_b nin0)))
    have f43 := (Fy1.keep K31 (ninS ne_y1_a (ninS ne_y1_b nin0)))
    obtain ⟨_, _, ⟨T44, L44, k44, n44⟩, -, X44, ⟨Lc44, hQ44, l44, y44, z44⟩, st44⟩ := Jvm.LawKit.callS X31 hx (y := (⟨"com/example/horkos/horkos/internal/AcquireReply", "of", "(Ljava/util/List;)Lcom/example/horkos/horkos/internal/AcquireReply;"⟩ : MethodName)) hown (mvT hZ (hw _ (own_m 65 rfl))) (mvT hZ (hw _ (own_m 66 rfl))) (mvT hZ (hw _ (own_m 67 rfl))) (mvT hZ (hw _ (own_m 68 rfl))) (by decide) (backOf (W := 0) (own_of2 l Z a0 hw [] w_DE k_DE w_CA b1 bb kb y0 y1 q0 q1 T31.heap n0 O37 S_DE V_DE S_CA H_CA q34 q35 q33 q32 f40 f41 f42 f43) hZ (hw _ (own_m 68 rfl)) (hw _ (own_m 67 rfl)) (by decide) (by decide)) (g := (mkF m 49 #[.val (.long q0), .second, .val (.long q1), .second, .val (.long q2), .second, iv p3, rv b1, .unset] [(.ref b1)])) rfl (by rw [hml]; rfl) (argsL := [(.ref b1)]) (rest := []) (lenOf own_pd12 rfl) rfl (by show 2 * 0 + _ ≤ _; exact Nat.le_of_eq rfl) (hb hby at_49) (fun _ _ => ⟨rfl, rfl, (by decide : 4 + 1 ≤ _), (by decide : 15 + 2 ≤ _)⟩)
    dsimp only [Pt.U, Pt.locs, Pt.cells, Pt.slots] at X44 l44 y44 z44 st44 hQ44
    subst l44 y44 z44
    obtain ⟨rr, rfl, N44q, K44, Er, Fh, Ft⟩ := hQ44
    have N44 := Fr.app N31 N44q
    have O45 := O37.keep K44 all0
    obtain ⟨cq46, kq46, q46a, q46b, q46c⟩ := isOf hZ rfl Er
    obtain ⟨_, _, ⟨T46, L46, k46, n46⟩, -, X46, ⟨Lc46, hQ46, l46, y46, z46⟩, st46⟩ := X44.virtualBack hx (y := (⟨"com/example/horkos/horkos/internal/AcquireReply", "holds", "()J"⟩ : MethodName)) (z := (⟨"com/example/horkos/horkos/internal/AcquireReply", "holds", "()J"⟩ : MethodName)) hown (mvT hZ (hw _ (own_m 115 rfl))) (mvT hZ (hw _ (own_m 116 rfl))) (notFace_of_selects (args := #[]) (mvT hZ (hw _ (own_m 118 rfl)))) (mvT hZ (hw _ (own_m 118 rfl))) (mvT hZ (hw _ (own_m 117 rfl))) (by decide) (backOf (W := 0) (own_holds l Z a0 hw [] w_DE k_DE w_CA rr q0 T44.heap n0 O45 S_DE V_DE S_CA H_CA Fh) hZ (hw _ (own_m 119 rfl)) (hw _ (own_m 67 rfl)) (by decide) (by decide)) q46a q46c (g := (mkF m 56 #[.val (.long q0), .second, .val (.long q1), .second, .val (.long q2), .second, iv p3, rv b1, rv rr] [(.ref rr)])) rfl (by rw [hml]; rfl) (Steps.refl _) (argsL := []) (rest := []) (lenOf own_pd8 rfl) rfl (by show 2 * 0 + _ ≤ _; exact Nat.le_of_eq rfl) (hb hby at_56) (fun _ _ => ⟨rfl, rfl, (by decide : 5 + 0 ≤ _), (by decide : 17 + 0 ≤ _)⟩)
    dsimp only [Pt.U, Pt.locs, Pt.cells, Pt.slots] at X46 l46 y46 z46 st46 hQ46
    subst l46 y46 z46
    obtain ⟨rfl, N46q, e46⟩ := hQ46
    have N46 := Fr.app N44 N46q
    obtain ⟨cq47, kq47, q47a, q47b, q47c⟩ := isOf hZ e46 Er
    obtain ⟨_, _, ⟨T47, L47, k47, n47⟩, -, X47, ⟨Lc47, hQ47, l47, y47, z47⟩, st47⟩ := X46.virtualBack hx (y := (⟨"com/example/horkos/horkos/internal/AcquireReply", "token", "()J"⟩ : MethodName)) (z := (⟨"com/example/horkos/horkos/internal/AcquireReply", "token", "()J"⟩ : MethodName)) hown (mvT hZ (hw _ (own_m 120 rfl))) (mvT hZ (hw _ (own_m 121 rfl))) (notFace_of_selects (args := #[]) (mvT hZ (hw _ (own_m 123 rfl)))) (mvT hZ (hw _ (own_m 123 rfl))) (mvT hZ (hw _ (own_m 122 rfl))) (by decide) (backOf (W := 0) (own_token l Z a0 hw [] w_DE k_DE w_CA rr q1 T44.heap n0 O45 S_DE V_DE S_CA H_CA Ft) hZ (hw _ (own_m 124 rfl)) (hw _ (own_m 67 rfl)) (by decide) (by decide)) q47a q47c (g := (mkF m 66 #[.val (.long q0), .second, .val (.long q1), .second, .val (.long q2), .second, iv p3, rv b1, rv rr] [(.ref rr)])) rfl (by rw [hml]; rfl) (Steps.refl _) (argsL := []) (rest := []) (lenOf own_pd8 rfl) rfl (by show 2 * 0 + _ ≤ _; exact Nat.le_of_eq rfl) (hb hby at_66) (fun _ _ => ⟨rfl, e46, (by decide : 5 + 0 ≤ _), (by decide : 17 + 0 ≤ _)⟩)
    dsimp only [Pt.U, Pt.locs, Pt.cells, Pt.slots] at X47 l47 y47 z47 st47 hQ47
    subst l47 y47 z47
    obtain ⟨rfl, N47q, e47⟩ := hQ47
    have N47 := Fr.app N46 N47q
    obtain ⟨fs, hr, hrun, hended, hW, hsame⟩ := X47.leave (v := some (.int 1)) (fun h => by rw [Bd.returns] at h; cases h)
    refine ⟨_, _, pre39 _ ?_, hrun, hended, _, _, rfl, ?_, ⟨_, rfl⟩, hW, hsame.mono (by decide) (by decide)⟩
    · show Steps p.tables e below (T31.setTop (mkF m 32 #[.val (.long q0), .second, .val (.long q1), .second, .val (.long q2), .second, iv p3, rv b1, .unset] [(.int 1), (.int p3)])) _
      refine XS.iand X31.here hx rfl (hb hby at_32) rfl ?_
      show Steps p.tables e below (T31.setTop (mkF m 33 #[.val (.long q0), .second, .val (.long q1), .second, .val (.long q2), .second, iv p3, rv b1, .unset] [(.int (p3 &&& (1 : Int32)))])) _
      refine XS.ifYes X31.here hx rfl (pc0 := 33) (pc' := 47) rfl (hb hby at_33) rfl ((if0 _ _).trans (teq hc38).1) (by decide) (by decide) ?_
      show Steps p.tables e below (T31.setTop (mkF m 47 #[.val (.long q0), .second, .val (.long q1), .second, .val (.long q2), .second, iv p3, rv b1, .unset] [])) _
      refine XS.aload X31.here hx rfl (hb hby at_47) rfl rfl ?_
      show Steps p.tables e below (T31.setTop (mkF m 49 #[.val (.long q0), .second, .val (.long q1), .second, .val (.long q2), .second, iv p3, rv b1, .unset] [(.ref b1)])) _
      refine st44 _ ?_
      show Steps p.tables e below (T44.setTop (mkF m 52 #[.val (.long q0), .second, .val (.long q1), .second, .val (.long q2), .second, iv p3, rv b1, .unset] [(.ref rr)])) _
      refine XS.astore X44.here hx rfl (hb hby at_52) rfl rfl (l' := #[.val (.long q0), .second, .val (.long q1), .second, .val (.long q2), .second, iv p3, rv b1, rv rr]) rfl ?_
      show Steps p.tables e below (T44.setTop (mkF m 54 #[.val (.long q0), .second, .val (.long q1), .second, .val (.long q2), .second, iv p3, rv b1, rv rr] [])) _
      refine XS.aload X44.here hx rfl (hb hby at_54) rfl rfl ?_
      show Steps p.tables e below (T44.setTop (mkF m 56 #[.val (.long q0), .second, .val (.long q1), .second, .val (.long q2), .second, iv p3, rv b1, rv rr] [(.ref rr)])) _
      refine st46.trans ?_
      show Steps p.tables e below (T46.setTop (mkF m 59 #[.val (.long q0), .second, .val (.long q1), .second, .val (.long q2), .second, iv p3, rv b1, rv rr] [(.long q0)])) _
      refine XS.lloadN X46.here hx rfl (hb hby at_59) rfl ?_
      show Steps p.tables e below (T46.setTop (mkF m 60 #[.val (.long q0), .second, .val (.long q1), .second, .val (.long q2), .second, iv p3, rv b1, rv rr] [(.long q0), (.long q0)])) _
      refine XS.lcmp X46.here hx rfl (hb hby at_60) rfl ?_
      show Steps p.tables e below (T46.setTop (mkF m 61 #[.val (.long q0), .second, .val (.long q1), .second, .val (.long q2), .second, iv p3, rv b1, rv rr] [(.int (lcmpW q0 q0))])) _
      refine XS.ifNo X46.here hx rfl (hb hby at_61) rfl ((if0 _ _).trans (teq ((lw_eq _ _).mpr rfl)).2) ?_
      show Steps p.tables e below (T46.setTop (mkF m 64 #[.val (.long q0), .second, .val (.long q1), .second, .val (.long q2), .second, iv p3, rv b1, rv rr] [])) _
      refine XS.aload X46.here hx rfl (hb hby at_64) rfl rfl ?_
      show Steps p.tables e below (T46.setTop (mkF m 66 #[.val (.long q0), .second, .val (.long q1), .second, .val (.long q2), .second, iv p3, rv b1, rv rr] [(.ref rr)])) _
      refine st47.trans ?_
      show Steps p.tables e below (T47.setTop (mkF m 69 #[.val (.long q0), .second, .val (.long q1), .second, .val (.long q2), .second, iv p3, rv b1, rv rr] [(.long q1)])) _
      refine XS.lloadN X47.here hx rfl (hb hby at_69) rfl ?_
      show Steps p.tables e below (T47.setTop (mkF m 70 #[.val (.long q0), .second, .val (.long q1), .second, .val (.long q2), .second, iv p3, rv b1, rv rr] [(.long q1), (.long q1)])) _
      refine XS.lcmp X47.here hx rfl (hb hby at_70) rfl ?_
      show Steps p.tables e below (T47.setTop (mkF m 71 #[.val (.long q0), .second, .val (.long q1), .second, .val (.long q2), .second, iv p3, rv b1, rv rr] [(.int (lcmpW q1 q1))])) _
      refine XS.ifNo X47.here hx rfl (hb hby at_71) rfl ((if0 _ _).trans (teq ((lw_eq _ _).mpr rfl)).2) ?_
      show Steps p.tables e below (T47.setTop (mkF m 74 #[.val (.long q0), .second, .val (.long q1), .second, .val (.long q2), .second, iv p3, rv b1, rv rr] [])) _
      refine XS.iconst X47.here hx rfl (hb hby at_74) ?_
      show Steps p.tables e below (T47.setTop (mkF m 75 #[.val (.long q0), .second, .val (.long q1), .second, .val (.long q2), .second, iv p3, rv b1, rv rr] [(.int 1)])) _
      refine XS.goto X47.here hx rfl (pc0 := 75) (pc' := 79) rfl (hb hby at_75) (by decide) (by decide) ?_
      show Steps p.tables e below (T47.setTop (mkF m 79 #[.val (.long q0), .second, .val (.long q1), .second, .val (.long q2), .second, iv p3, rv b1, rv rr] [(.int 1)])) _
      exact retN X47 hx (t := .boolean) Bd.returns (by simp) (hb hby at_79) hr
    · show own_law_Q Z w_DE k_DE w_CA q0 q1 q2 p3 h0 n0 _ T47.heap _
      rw [e47]
      exact ⟨rfl, N47⟩
  · obtain ⟨_, _, ⟨T48, L48, k48, n48⟩, -, X48, ⟨Lc48, hQ48, l48, y48, z48⟩, st48⟩ := Jvm.LawKit.callS X31 hx (y := (⟨"java/lang/Long", "valueOf", "(J)Ljava/lang/Long;"⟩ : MethodName)) hown (mvT hZ (hw _ (own_m 26 rfl))) (mvT hZ (hw _ (own_m 27 rfl))) (mvT hZ (hw _ (own_m 28 rfl))) (mvT hZ (hw _ (own_m 29 rfl))) (by decide) (backOf (W := 1) (own_vo l Z a0 hw [] w_DE k_DE w_CA q2 T31.heap n0 O37 S_DE V_DE S_CA H_CA ) hZ (hw _ (own_m 29 rfl)) (hw _ (own_m 28 rfl)) (by decide) (by decide)) (g := (mkF m 40 #[.val (.long q0), .second, .val (.long q1), .second, .val (.long q2), .second, iv p3, rv b1, .unset] [(.long q2), (.ref b1)])) rfl (by rw [hml]; rfl) (argsL := [(.long q2)]) (rest := [(.ref b1)]) (lenOf own_pd10 rfl) rfl (by show 2 * 0 + _ ≤ _; exact Nat.le_of_eq rfl) (hb hby at_40) (fun _ _ => ⟨rfl, rfl, (by decide : 4 + 1 ≤ _), (by decide : 15 + 1 ≤ _)⟩)
    dsimp only [Pt.U, Pt.locs, Pt.cells, Pt.slots] at X48 l48 y48 z48 st48 hQ48
    subst l48 y48 z48
    obtain ⟨y2, rfl, N48q, K48, Ey2, Fy2⟩ := hQ48
    have N48 := Fr.app N31 N48q
    have O49 := O37.keep K48 all0
    have f50 := (q33.keep K48)
    have ne_y2_a : y2 ≠ b1 := ne_exa Ey2 f50 (by decide)
    have f51 := (q32.keep K48 nin0)
    obtain ⟨c52, c52A, c52q, c52S, c52N, c52H, c52G⟩ := id f51
    have ne_y2_b : y2 ≠ bb := ne_arr Ey2 (hw _ (own_m 126 rfl)) c52A
    have f53 := (q34.keep K48 nin0)
    have f54 := (q35.keep K48 nin0)
    have f55 := (q36.keep K48 nin0)
    obtain ⟨cq56, kq56, q56a, q56b, q56c⟩ := isOf hZ rfl f50
    obtain ⟨_, _, ⟨T56, L56, k56, n56⟩, -, X56, ⟨Lc56, hQ56, l56, y56, z56⟩, st56⟩ := X48.virtualBack hx (y := (⟨"java/util/ArrayList", "add", "(Ljava/lang/Object;)Z"⟩ : MethodName)) (z := (⟨"java/util/ArrayList", "add", "(Ljava/lang/Object;)Z"⟩ : MethodName)) hown (mvT hZ (hw _ (own_m 34 rfl))) (mvT hZ (hw _ (own_m 35 rfl))) (notFace_of_selects (args := #[]) (mvT hZ (hw _ (own_m 37 rfl)))) (mvT hZ (hw _ (own_m 37 rfl))) (mvT hZ (hw _ (own_m 36 rfl))) (by decide) (backOf (W := 0) (own_an2 l Z a0 hw [] w_DE k_DE w_CA b1 bb kb y0 y1 y2 (((0 : Int32) + (1 : Int32)) + (1 : Int32)) T48.heap n0 O49 S_DE V_DE S_CA H_CA gg_b1 f50 f53 f54 f55 Ey2 g_bb nba O_bb f51) hZ (hw _ (own_m 38 rfl)) (hw _ (own_m 2 rfl)) (by decide) (by decide)) q56a q56c (g := (mkF m 43 #[.val (.long q0), .second, .val (.long q1), .second, .val (.long q2), .second, iv p3, rv b1, .unset] [(.ref y2), (.ref b1)])) rfl (by rw [hml]; rfl) (Steps.refl _) (argsL := [(.ref y2)]) (rest := []) (lenOf own_pd11 rfl) rfl (by show 2 * 0 + _ ≤ _; exact Nat.le_of_eq rfl) (hb hby at_43) (fun _ _ => ⟨rfl, rfl, (by decide : 5 + 0 ≤ _), (by decide : 16 + 0 ≤ _)⟩)
    dsimp only [Pt.U, Pt.locs, Pt.cells, Pt.slots] at X56 l56 y56 z56 st56 hQ56
    subst l56 y56 z56
    obtain ⟨rfl, N56q, K56, q57, q58, q59, q60, q61⟩ := hQ56
    have N56 := Fr.app N48 N56q
    have O62 := O49.keep K56 (allS gg_b1 (allS g_bb all0))
    have f63 := ((((f22.keep K23).keep K31).keep K48).keep K56)
    have f64 := (((Ey1.keep K31).keep K48).keep K56)
    have f65 := (((((Fy0.keep K15 (ninS ne_y0_a nin0)).keep K23 nin0).keep K31 (ninS ne_y0_a (ninS ne_y0_b nin0))).keep K48 nin0).keep K56 (ninS ne_y0_a (ninS ne_y0_b nin0)))
    have f66 := (((Fy1.keep K31 (ninS ne_y1_a (ninS ne_y1_b nin0))).keep K48 nin0).keep K56 (ninS ne_y1_a (ninS ne_y1_b nin0)))
    obtain ⟨_, _, ⟨T67, L67, k67, n67⟩, -, X67, ⟨Lc67, hQ67, l67, y67, z67⟩, st67⟩ := Jvm.LawKit.callS X56 hx (y := (⟨"com/example/horkos/horkos/internal/AcquireReply", "of", "(Ljava/util/List;)Lcom/example/horkos/horkos/internal/AcquireReply;"⟩ : MethodName)) hown (mvT hZ (hw _ (own_m 65 rfl))) (mvT hZ (hw _ (own_m 66 rfl))) (mvT hZ (hw _ (own_m 67 rfl))) (mvT hZ (hw _ (own_m 68 rfl))) (by decide) (backOf (W := 0) (own_of3 l Z a0 hw [] w_DE k_DE w_CA b1 bb kb y0 y1 y2 q0 q1 T56.heap n0 O62 S_DE V_DE S_CA H_CA q59 q60 q58 q57 f63 f64 f65 f66) hZ (hw _ (own_m 68 rfl)) (hw _ (own_m 67 rfl)) (by decide) (by decide)) (g := (mkF m 49 #[.val (.long q0), .second, .val (.long q1), .second, .val (.long q2), .second, iv p3, rv b1, .unset] [(.ref b1)])) rfl (by rw [hml]; rfl) (argsL := [(.ref b1)]) (rest := []) (lenOf own_pd12 rfl) rfl (by show 2 * 0 + _ ≤ _; exact Nat.le_of_eq rfl) (hb hby at_49) (fun _ _ => ⟨rfl, rfl, (by decide : 5 + 1 ≤ _), (by decide : 16 + 2 ≤ _)⟩)
    dsimp only [Pt.U, Pt.locs, Pt.cells, Pt.slots] at X67 l67 y67 z67 st67 hQ67
    subst l67 y67 z67
    obtain ⟨rr, rfl, N67q, K67, Er, Fh, Ft⟩ := hQ67
    have N67 := Fr.app N56 N67q
    have O68 := O62.keep K67 all0
    obtain ⟨cq69, kq69, q69a, q69b, q69c⟩ := isOf hZ rfl Er
    obtain ⟨_, _, ⟨T69, L69, k69, n69⟩, -, X69, ⟨Lc69, hQ69, l69, y69, z69⟩, st69⟩ := X67.virtualBack hx (y := (⟨"com/example/horkos/horkos/internal/AcquireReply", "holds", "()J"⟩ : MethodName)) (z := (⟨"com/example/horkos/horkos/internal/AcquireReply", "holds", "()J"⟩ : MethodName)) hown (mvT hZ (hw _ (own_m 115 rfl))) (mvT hZ (hw _ (own_m 116 rfl))) (notFace_of_selects (args := #[]) (mvT hZ (hw _ (own_m 118 rfl)))) (mvT hZ (hw _ (own_m 118 rfl))) (mvT hZ (hw _ (own_m 117 rfl))) (by decide) (backOf (W := 0) (own_holds l Z a0 hw [] w_DE k_DE w_CA rr q0 T67.heap n0 O68 S_DE V_DE S_CA H_CA Fh) hZ (hw _ (own_m 119 rfl)) (hw _ (own_m 67 rfl)) (by decide) (by decide)) q69a q69c (g := (mkF m 56 #[.val (.long q0), .second, .val (.long q1), .second, .val (.long q2), .second, iv p3, rv b1, rv rr] [(.ref rr)])) rfl (by rw [hml]; rfl) (Steps.refl _) (argsL := []) (rest := []) (lenOf own_pd8 rfl) rfl (by show 2 * 0 + _ ≤ _; exact Nat.le_of_eq rfl) (hb hby at_56) (fun _ _ => ⟨rfl, rfl, (by decide : 6 + 0 ≤ _), (by decide : 18 + 0 ≤ _)⟩)
    dsimp only [Pt.U, Pt.locs, Pt.cells, Pt.slots] at X69 l69 y69 z69 st69 hQ69
    subst l69 y69 z69
    obtain ⟨rfl, N69q, e69⟩ := hQ69
    have N69 := Fr.app N67 N69q
    obtain ⟨cq70, kq70, q70a, q70b, q70c⟩ := isOf hZ e69 Er
    obtain ⟨_, _, ⟨T70, L70, k70, n70⟩, -, X70, ⟨Lc70, hQ70, l70, y70, z70⟩, st70⟩ := X69.virtualBack hx (y := (⟨"com/example/horkos/horkos/internal/AcquireReply", "token", "()J"⟩ : MethodName)) (z := (⟨"com/example/horkos/horkos/internal/AcquireReply", "token", "()J"⟩ : MethodName)) hown (mvT hZ (hw _ (own_m 120 rfl))) (mvT hZ (hw _ (own_m 121 rfl))) (notFace_of_selects (args := #[]) (mvT hZ (hw _ (own_m 123 rfl)))) (mvT hZ (hw _ (own_m 123 rfl))) (mvT hZ (hw _ (own_m 122 rfl))) (by decide) (backOf (W := 0) (own_token l Z a0 hw [] w_DE k_DE w_CA rr q1 T67.heap n0 O68 S_DE V_DE S_CA H_CA Ft) hZ (hw _ (own_m 124 rfl)) (hw _ (own_m 67 rfl)) (by decide) (by decide)) q70a q70c (g := (mkF m 66 #[.val (.long q0), .second, .val (.long q1), .second, .val (.long q2), .second, iv p3, rv b1, rv rr] [(.ref rr)])) rfl (by rw [hml]; rfl) (Steps.refl _) (argsL := []) (rest := []) (lenOf own_pd8 rfl) rfl (by show 2 * 0 + _ ≤ _; exact Nat.le_of_eq rfl) (hb hby at_66) (fun _ _ => ⟨rfl, e69, (by decide : 6 + 0 ≤ _), (by decide : 18 + 0 ≤ _)⟩)
    dsimp only [Pt.U, Pt.locs, Pt.cells, Pt.slots] at X70 l70 y70 z70 st70 hQ70
    subst l70 y70 z70
    obtain ⟨rfl, N70q, e70⟩ := hQ70
    have N70 := Fr.app N69 N70q
    obtain ⟨fs, hr, hrun, hended, hW, hsame⟩ := X70.leave (v := some (.int 1)) (fun h => by rw [Bd.returns] at h; cases h)
    refine ⟨_, _, pre39 _ ?_, hrun, hended, _, _, rfl, ?_, ⟨_, rfl⟩, hW, hsame.mono (by decide) (by decide)⟩
    · show Steps p.tables e below (T31.setTop (mkF m 32 #[.val (.long q0), .second, .val (.long q1), .second, .val (.long q2), .second, iv p3, rv b1, .unset] [(.int 1), (.int p3)])) _
      refine XS.iand X31.here hx rfl (hb hby at_32) rfl ?_
      show Steps p.tables e below (T31.setTop (mkF m 33 #[.val (.long q0), .second, .val (.long q1), .second, .val (.long q2), .second, iv p3, rv b1, .unset] [(.int (p3 &&& (1 : Int32)))])) _
      refine XS.ifNo X31.here hx rfl (hb hby at_33) rfl ((if0 _ _).trans (feq hc38).1) ?_
      show Steps p.tables e below (T31.setTop (mkF m 36 #[.val (.long q0), .second, .val (.long q1), .second, .val (.long q2), .second, iv p3, rv b1, .unset] [])) _
      refine XS.aload X31.here hx rfl (hb hby at_36) rfl rfl ?_
      show Steps p.tables e below (T31.setTop (mkF m 38 #[.val (.long q0), .second, .val (.long q1), .second, .val (.long q2), .second, iv p3, rv b1, .unset] [(.ref b1)])) _
      refine XS.lload X31.here hx rfl (hb hby at_38) rfl ?_
      show Steps p.tables e below (T31.setTop (mkF m 40 #[.val (.long q0), .second, .val (.long q1), .second, .val (.long q2), .second, iv p3, rv b1, .unset] [(.long q2), (.ref b1)])) _
      refine st48 _ ?_
      show Steps p.tables e below (T48.setTop (mkF m 43 #[.val (.long q0), .second, .val (.long q1), .second, .val (.long q2), .second, iv p3, rv b1, .unset] [(.ref y2), (.ref b1)])) _
      refine st56.trans ?_
      show Steps p.tables e below (T56.setTop (mkF m 46 #[.val (.long q0), .second, .val (.long q1), .second, .val (.long q2), .second, iv p3, rv b1, .unset] [(.int 1)])) _
      refine XS.pop X56.here hx rfl (hb hby at_46) rfl rfl ?_
      show Steps p.tables e below (T56.setTop (mkF m 47 #[.val (.long q0), .second, .val (.long q1), .second, .val (.long q2), .second, iv p3, rv b1, .unset] [])) _
      refine XS.aload X56.here hx rfl (hb hby at_47) rfl rfl ?_
      show Steps p.tables e below (T56.setTop (mkF m 49 #[.val (.long q0), .second, .val (.long q1), .second, .val (.long q2), .second, iv p3, rv b1, .unset] [(.ref b1)])) _
      refine st67 _ ?_
      show Steps p.tables e below (T67.setTop (mkF m 52 #[.val (.long q0), .second, .val (.long q1), .second, .val (.long q2), .second, iv p3, rv b1, .unset] [(.ref rr)])) _
      refine XS.astore X67.here hx rfl (hb hby at_52) rfl rfl (l' := #[.val (.long q0), .second, .val (.long q1), .second, .val (.long q2), .second, iv p3, rv b1, rv rr]) rfl ?_
      show Steps p.tables e below (T67.setTop (mkF m 54 #[.val (.long q0), .second, .val (.long q1), .second, .val (.long q2), .second, iv p3, rv b1, rv rr] [])) _
      refine XS.aload X67.here hx rfl (hb hby at_54) rfl rfl ?_
      show Steps p.tables e below (T67.setTop (mkF m 56 #[.val (.long q0), .second, .val (.long q1), .second, .val (.long q2), .second, iv p3, rv b1, rv rr] [(.ref rr)])) _
      refine st69.trans ?_
      show Steps p.tables e below (T69.setTop (mkF m 59 #[.val (.long q0), .second, .val (.long q1), .second, .val (.long q2), .second, iv p3, rv b1, rv rr] [(.long q0)])) _
      refine XS.lloadN X69.here hx rfl (hb hby at_59) rfl ?_
      show Steps p.tables e below (T69.setTop (mkF m 60 #[.val (.long q0), .second, .val (.long q1), .second, .val (.long q2), .second, iv p3, rv b1, rv rr] [(.long q0), (.long q0)])) _
      refine XS.lcmp X69.here hx rfl (hb hby at_60) rfl ?_
      show Steps p.tables e below (T69.setTop (mkF m 61 #[.val (.long q0), .second, .val (.long q1), .second, .val (.long q2), .second, iv p3, rv b1, rv rr] [(.int (lcmpW q0 q0))])) _
      refine XS.ifNo X69.here hx rfl (hb hby at_61) rfl ((if0 _ _).trans (teq ((lw_eq _ _).mpr rfl)).2) ?_
      show Steps p.tables e below (T69.setTop (mkF m 64 #[.val (.long q0), .second, .val (.long q1), .second, .val (.long q2), .second, iv p3, rv b1, rv rr] [])) _
      refine XS.aload X69.here hx rfl (hb hby at_64) rfl rfl ?_
      show Steps p.tables e below (T69.setTop (mkF m 66 #[.val (.long q0), .second, .val (.long q1), .second, .val (.long q2), .second, iv p3, rv b1, rv rr] [(.ref rr)])) _
      refine st70.trans ?_
      show Steps p.tables e below (T70.setTop (mkF m 69 #[.val (.long q0), .second, .val (.long q1), .second, .val (.long q2), .second, iv p3, rv b1, rv rr] [(.long q1)])) _
      refine XS.lloadN X70.here hx rfl (hb hby at_69) rfl ?_
      show Steps p.tables e below (T70.setTop (mkF m 70 #[.val (.long q0), .second, .val (.long q1), .second, .val (.long q2), .second, iv p3, rv b1, rv rr] [(.long q1), (.long q1)])) _
      refine XS.lcmp X70.here hx rfl (hb hby at_70) rfl ?_
      show Steps p.tables e below (T70.setTop (mkF m 71 #[.val (.long q0), .second, .val (.long q1), .second, .val (.long q2), .second, iv p3, rv b1, rv rr] [(.int (lcmpW q1 q1))])) _
      refine XS.ifNo X70.here hx rfl (hb hby at_71) rfl ((if0 _ _).trans (teq ((lw_eq _ _).mpr rfl)).2) ?_
      show Steps p.tables e below (T70.setTop (mkF m 74 #[.val (.long q0), .second, .val (.long q1), .second, .val (.long q2), .second, iv p3, rv b1, rv rr] [])) _
      refine XS.iconst X70.here hx rfl (hb hby at_74) ?_
      show Steps p.tables e below (T70.setTop (mkF m 75 #[.val (.long q0), .second, .val (.long q1), .second, .val (.long q2), .second, iv p3, rv b1, rv rr] [(.int 1)])) _
      refine XS.goto X70.here hx rfl (pc0 := 75) (pc' := 79) rfl (hb hby at_75) (by decide) (by decide) ?_
      show Steps p.tables e below (T70.setTop (mkF m 79 #[.val (.long q0), .second, .val (.long q1), .second, .val (.long q2), .second, iv p3, rv b1, rv rr] [(.int 1)])) _
      exact retN X70 hx (t := .boolean) Bd.returns (by simp) (hb hby at_79) hr
    · show own_law_Q Z w_DE k_DE w_CA q0 q1 q2 p3 h0 n0 _ T70.heap _
      rw [e70]
      exact ⟨rfl, N70⟩
set_option maxRecDepth 65536 in
set_option maxHeartbeats 40000000 in
theorem comes_1 {Post : Tables → Env → Array Value → State → Outcome → State → Prop} (hpost : ∀ tb e args s v u, (limb_1_1.after args s (.returned v) u = true ∧ limb_1_2.after args s (.returned v) u = true ∧ True) → FrameEnd s (.returned v) u (Jvm.fieldLocs frame_1_writes args s ++ Jvm.arrayLocs frame_1_arrays args s ++ Jvm.staticLocs frame_1_statics s) 24 128 → Post tb e args s (.returned v) u) :
    ArmFor flags0 classFile x code maxLocals ret World_1 tables_1 room_1 Calls_1 rest_1 Pre_1 Post := by
  intro l hfl _ _ p e ha hc hk s m args below hf hA hF happ hP
  obtain ⟨hcalls, hrest, hpre⟩ := hP
  obtain ⟨-, -, -, hnamed, -, -, -, hat⟩ := (Spec.applies_iff hf).mp happ
  obtain ⟨hg, hn⟩ := and_e (Cond.before_iff.mp (show (Jvm.Cond.and given_1 narrow_1).before args s = true from hpre))
  obtain ⟨hq1, hq2⟩ := and_e hg
  obtain ⟨hq3, hq4⟩ := and_e hq2
  obtain ⟨hq5, hq6⟩ := and_e hq4
  obtain ⟨hq7, hq8⟩ := and_e hq6
  obtain ⟨w0, w1, w2, w3, rfl⟩ : ∃ w0 w1 w2 w3 : Value, args = #[w0, w1, w2, w3] := by
    have hs : args.size = 4 := by simpa [Cond.value, given_1] using hq1
    obtain ⟨L⟩ := args
    match L, hs with
    | [w0, w1, w2, w3], _ => exact ⟨w0, w1, w2, w3, rfl⟩
  have hw := fun d (hd : d ∈ tables_1) => atoms_spec (ws := Jvm.Cond.code x code maxLocals ret :: tables_1) hat d (List.mem_cons_of_mem _ hd)
  have hfit : Fit s := fun {y c} hc i hi => by
    obtain ⟨ha, rfl⟩ := Array.getElem?_eq_some_iff.mp hc
    have q := List.all_eq_true.mp ((Array.all_eq_true_iff_forall_mem.mp hF) _ (Array.getElem_mem ha)) i (List.mem_range.mpr hi)
    simpa [Array.getElem?_eq_getElem hi] using q
  obtain ⟨hsets, hown0⟩ := atoms_of _ (rest_1_c_eq ▸ (show rest_1_c.before _ s = true from hrest))
  obtain ⟨i0, ei0⟩ := isL_v hq3
  obtain rfl : w0 = (.long i0) := Option.some.inj ei0
  obtain ⟨i1, ei1⟩ := isL_v hq5
  obtain rfl : w1 = (.long i1) := Option.some.inj ei1
  obtain ⟨i2, ei2⟩ := isL_v hq7
  obtain rfl : w2 = (.long i2) := Option.some.inj ei2
  obtain ⟨i3, ei3⟩ := is_v hq8
  obtain rfl : w3 = (.int i3) := Option.some.inj ei3
  obtain ⟨w_DE, ev_DE⟩ := arr_v (Cond.before_iff.mp (hsets _ (own_m 6 rfl)))
  have S_DE : Sta s s.heap "java/util/ArrayList" "DEFAULTCAPACITY_EMPTY_ELEMENTDATA" "[Ljava/lang/Object;" (.ref w_DE) := Sta.start ev_DE (Or.inr ⟨(hw _ (own_m 2 rfl)), (hsets _ (own_m 2 rfl))⟩)
  obtain ⟨c_DE, A_DE⟩ := Arr.start ev_DE (Cond.before_iff.mp (hsets _ (own_m 6 rfl)))
  have V_DE : Arv s s.heap w_DE c_DE.cls (.object "java/lang/Object") (0 : Int32) [] .null := own_empty ev_DE A_DE (Cond.before_iff.mp (hsets _ (own_m 8 rfl)))
  obtain ⟨w_CA, ev_CA⟩ := arr_v (Cond.before_iff.mp (hsets _ (own_m 11 rfl)))
  have S_CA : Sta s s.heap "java/lang/Long$LongCache" "cache" "[Ljava/lang/Long;" (.ref w_CA) := Sta.start ev_CA (Or.inl (hsets _ (own_m 10 rfl)))
  have H_CA : own_Cache s w_CA := own_cache ev_CA (Cond.before_iff.mp (hsets _ (own_m 11 rfl))) (Cond.before_iff.mp (hsets _ (own_m 13 rfl))) (Cond.before_iff.mp (hsets _ (own_m 14 rfl)))
  obtain ⟨n, o, h1, h2, h3, _, L, rfl, ⟨rfl, N⟩, hq⟩ := own_law l s _ hw tables_1 w_DE c_DE.cls w_CA i0 i1 i2 i3 s.heap s.heap.size (Old.start s) S_DE V_DE S_CA H_CA p e ha hc hk s m _ below hf ((Spec.applies_iff_loose hf).mp happ).1 ⟨rfl, State.Warmed39.refl s, rfl⟩ trivial
  refine ⟨n, _, h1, h2, h3, hpost _ _ _ _ _ _ ⟨Cond.after_iff.mpr rfl, Cond.after_iff.mpr (eq_i res_at (Term.int_eval (1)) rfl), trivial⟩ ⟨hq.1, hq.2.1, (hq.2.2.sift fun y hy => Or.inr (N y hy)).mono (by decide) (by decide)⟩⟩
theorem main_1_1 : Claimed_1_1 := comes_1 fun _ _ _ _ _ _ h hF => ⟨h.1, hF⟩
theorem main_1_2 : Claimed_1_2 := comes_1 fun _ _ _ _ _ _ h hF => ⟨h.2.1, hF⟩
end Jvm.Pilot.@@N@@
namespace Jvm.Pilot.@@N@@
open Jvm Jvm.ClassFile Sem Op Lib Jvm.Free Jvm.Stand Jvm.Pilot.@@N@@.Jvm.D
/-! MADE BY PROGRAM (witnessworld.py) out of the Statement's table words and the real class files: 29 classes; the members and pool entries that the words name. The judged class is class 1, her method 1. -/
namespace start1
open Jvm.ClassFile
def u (s : String) : CpInfo := .utf8 (stringToUtf16 s)
/-- a pool by its gaps: so many unusable entries, then the entry; so many at the end -/
def gap : Nat → List CpInfo → List CpInfo
  | 0, r => r
  | n + 1, r => .unusable :: gap n r
def poolList (es : List (Nat × CpInfo)) (last : Nat) : List CpInfo := es.foldr (fun e r => gap e.1 (e.2 :: r)) (gap last [])
def pool (es : List (Nat × CpInfo)) (last : Nat) : Array CpInfo := ⟨poolList es last⟩
def fileOf (pool : Array CpInfo) (this : Nat) (attrs : Array Attribute := #[]) (ms : Array MethodInfo := #[]) (fl : Nat := 33) (sup : Nat := 0) (ifs : Array Nat := #[]) (fds : Array FieldInfo := #[]) : ClassFile where
  minorVersion := 0
  majorVersion := 65
  constantPool := pool
  accessFlags := fl
  thisClass := this
  superClass := sup
  interfaces := ifs
  fields := fds
  methods := ms
  attributes := attrs
def plain (name : String) (sup : Option ClassId) : Class where
  name := name
  kind := .ordinary
  loader := none
  accessFlags := 33
  super := sup
  interfaces := #[]
  cf := none
  fields := #[]
  methods := #[]
  instanceTypes := #[]
  staticTypes := #[]
  resolved := #[]
  callSites := []
  init := .initialized
  statics := none
  mirror := none

def pool0 : Array CpInfo := pool [(5, u "<init>"), (0, u "()V"), (1, .class_ 10), (1, u "java/lang/Object")] 113

def k0c0 : Code := { maxStack := 0, maxLocals := 1, code := object_method_1_code, exceptionTable := #[], attributes := #[] }
def k0m0 : Method := { name := "<init>", desc := "()V", sig := { parameters := [], returnType := none }, accessFlags := 1, code := some k0c0 }
/-- java/lang/Object -/
def k0 : Class := { plain "java/lang/Object" none with
  accessFlags := 33
  interfaces := #[]
  cf := some (fileOf pool0 8 #[] #[{ accessFlags := 1, nameIndex := 5, descriptorIndex := 6, attributes := #[] }] 33 0 #[] #[])
  fields := #[]
  methods := #[k0m0]
  instanceTypes := #[]
  staticTypes := #[]
  resolved := Array.replicate 124 none
  statics := none }

def pool1 : Array CpInfo := pool [(2, .class_ 4), (0, .nameAndType 5 6), (0, u "java/lang/Object"), (0, u "<init>"), (0, u "()V"), (0, .class_ 8), (0, u "java/util/ArrayList"), (0, .methodref 7 3), (0, .methodref 11 12), (0, .class_ 13), (0, .nameAndType 14 15), (0, u "java/lang/Long"), (0, u "valueOf"), (0, u "(J)Ljava/lang/Long;"), (0, .methodref 7 17), (0, .nameAndType 18 19), (0, u "add"), (0, u "(Ljava/lang/Object;)Z"), (0, .methodref 21 22), (0, .class_ 23), (0, .nameAndType 24 25), (0, u "com/example/horkos/horkos/internal/AcquireReply"), (0, u "of"), (0, u "(Ljava/util/List;)Lcom/example/horkos/horkos/internal/AcquireReply;"), (0, .methodref 21 27), (0, .nameAndType 28 29), (0, u "holds"), (0, u "()J"), (0, .methodref 21 31), (0, .nameAndType 32 29), (0, u "token"), (0, .class_ 34), (0, u "com/example/horkos/horkos/internal/AcquireReplyOfPinLaw"), (2, u "law"), (0, u "(JJJI)Z")] 3

def k1m0 : Method := { name := "<init>", desc := "()V", sig := { parameters := [], returnType := none }, accessFlags := 1, code := none }
def k1c1 : Code := { maxStack := 4, maxLocals := 9, code := code, exceptionTable := #[], attributes := #[] }
def k1m1 : Method := { name := "law", desc := "(JJJI)Z", sig := { parameters := [.long, .long, .long, .int], returnType := some .boolean }, accessFlags := 9, code := some k1c1 }
/-- com/example/horkos/horkos/internal/AcquireReplyOfPinLaw -/
def k1 : Class := { plain "com/example/horkos/horkos/internal/AcquireReplyOfPinLaw" (some 0) with
  accessFlags := 49
  interfaces := #[]
  cf := some (fileOf pool1 33 #[] #[{ accessFlags := 1, nameIndex := 5, descriptorIndex := 6, attributes := #[] }, { accessFlags := 9, nameIndex := 37, descriptorIndex := 38, attributes := #[] }] 49 2 #[] #[])
  fields := #[]
  methods := #[k1m0, k1m1]
  instanceTypes := #[]
  staticTypes := #[]
  resolved := Array.replicate 42 none
  statics := none }

def pool2 : Array CpInfo := pool [(8, .class_ 10), (1, u "java/lang/Iterable"), (24, .class_ 36), (0, u "java/lang/Object")] 25

/-- java/lang/Iterable -/
def k2 : Class := { plain "java/lang/Iterable" (some 0) with
  accessFlags := 1537
  interfaces := #[]
  cf := some (fileOf pool2 8 #[] #[] 1537 35 #[] #[])
  fields := #[]
  methods := #[]
  instanceTypes := #[]
  staticTypes := #[]
  resolved := Array.replicate 62 none
  statics := none }

def pool3 : Array CpInfo := pool [(10, .class_ 12), (1, u "java/util/Collection"), (47, .class_ 61), (0, u "java/lang/Object"), (0, .class_ 63), (0, u "java/lang/Iterable")] 51

/-- java/util/Collection -/
def k3 : Class := { plain "java/util/Collection" (some 0) with
  accessFlags := 1537
  interfaces := #[2]
  cf := some (fileOf pool3 10 #[] #[] 1537 60 #[62] #[])
  fields := #[]
  methods := #[]
  instanceTypes := #[]
  staticTypes := #[]
  resolved := Array.replicate 115 none
  statics := none }

def pool4 : Array CpInfo := pool [(1, .methodref 2 3), (0, .class_ 4), (0, .nameAndType 5 6), (0, u "java/lang/Object"), (0, u "<init>"), (0, u "()V"), (1, .class_ 10), (1, u "java/util/AbstractCollection"), (66, .class_ 78), (0, u "java/util/Collection")] 81

def k4c0 : Code := { maxStack := 1, maxLocals := 1, code := jdk_22_method_1_code, exceptionTable := #[], attributes := #[] }
def k4m0 : Method := { name := "<init>", desc := "()V", sig := { parameters := [], returnType := none }, accessFlags := 4, code := some k4c0 }
/-- java/util/AbstractCollection -/
def k4 : Class := { plain "java/util/AbstractCollection" (some 0) with
  accessFlags := 1057
  interfaces := #[3]
  cf := some (fileOf pool4 8 #[] #[{ accessFlags := 4, nameIndex := 5, descriptorIndex := 6, attributes := #[] }] 1057 2 #[77] #[])
  fields := #[]
  methods := #[k4m0]
  instanceTypes := #[]
  staticTypes := #[]
  resolved := Array.replicate 160 none
  statics := none }

def pool5 : Array CpInfo := pool [(8, .class_ 10), (1, u "java/util/SequencedCollection"), (15, .class_ 27), (0, u "java/lang/Object"), (0, .class_ 29), (0, u "java/util/Collection")] 27

/-- java/util/SequencedCollection -/
def k5 : Class := { plain "java/util/SequencedCollection" (some 0) with
  accessFlags := 1537
  interfaces := #[3]
  cf := some (fileOf pool5 8 #[] #[] 1537 26 #[28] #[])
  fields := #[]
  methods := #[]
  instanceTypes := #[]
  staticTypes := #[]
  resolved := Array.replicate 57 none
  statics := none }

def pool6 : Array CpInfo := pool [(8, .class_ 10), (1, u "java/util/List"), (64, u "get"), (0, u "(I)Ljava/lang/Object;"), (26, .class_ 104), (0, u "java/lang/Object"), (15, .class_ 121), (0, u "java/util/SequencedCollection")] 129

def k6m0 : Method := { name := "get", desc := "(I)Ljava/lang/Object;", sig := { parameters := [.int], returnType := some (.object "java/lang/Object") }, accessFlags := 1025, code := none }
/-- java/util/List -/
def k6 : Class := { plain "java/util/List" (some 0) with
  accessFlags := 1537
  interfaces := #[5]
  cf := some (fileOf pool6 8 #[] #[{ accessFlags := 1025, nameIndex := 75, descriptorIndex := 76, attributes := #[] }] 1537 103 #[120] #[])
  fields := #[]
  methods := #[k6m0]
  instanceTypes := #[]
  staticTypes := #[]
  resolved := Array.replicate 251 none
  statics := none }

def pool7 : Array CpInfo := pool [(1, .methodref 2 3), (0, .class_ 4), (0, .nameAndType 5 6), (0, u "java/util/AbstractCollection"), (0, u "<init>"), (0, u "()V"), (0, .fieldref 8 9), (0, .class_ 10), (0, .nameAndType 11 12), (0, u "java/util/AbstractList"), (0, u "modCount"), (0, u "I"), (64, .class_ 78), (0, u "java/util/AbstractList$Itr"), (3, .class_ 83), (0, u "java/util/AbstractList$ListItr"), (9, .class_ 94), (0, u "java/util/AbstractList$RandomAccessSubList"), (3, .class_ 99), (0, u "java/util/AbstractList$SubList"), (33, .class_ 134), (0, u "java/util/List"), (73, .class_ 209), (0, u "java/util/AbstractList$SubList$1"), (0, .class_ 211), (0, u "java/util/AbstractList$RandomAccessSpliterator")] 6

def k7c0 : Code := { maxStack := 2, maxLocals := 1, code := jdk_39_method_1_code, exceptionTable := #[], attributes := #[] }
def k7m0 : Method := { name := "<init>", desc := "()V", sig := { parameters := [], returnType := none }, accessFlags := 4, code := some k7c0 }
/-- java/util/AbstractList -/
def k7 : Class := { plain "java/util/AbstractList" (some 4) with
  accessFlags := 1057
  interfaces := #[6]
  cf := some (fileOf pool7 8 #[.nestMembers #[93, 98, 208, 210, 82, 77]] #[{ accessFlags := 4, nameIndex := 5, descriptorIndex := 6, attributes := #[] }] 1057 2 #[133] #[{ accessFlags := 132, nameIndex := 11, descriptorIndex := 12, attributes := #[] }])
  fields := #[{ name := "modCount", type := .int, accessFlags := 132, slot := 0, constantValue := 0 }]
  methods := #[k7m0]
  instanceTypes := #[.int]
  staticTypes := #[]
  resolved := Array.replicate 218 none
  statics := none }

def pool8 : Array CpInfo := pool [(1, .class_ 2), (0, u "java/util/RandomAccess"), (0, .class_ 4), (0, u "java/lang/Object")] 2

/-- java/util/RandomAccess -/
def k8 : Class := { plain "java/util/RandomAccess" (some 0) with
  accessFlags := 1537
  interfaces := #[]
  cf := some (fileOf pool8 1 #[] #[] 1537 3 #[] #[])
  fields := #[]
  methods := #[]
  instanceTypes := #[]
  staticTypes := #[]
  resolved := Array.replicate 7 none
  statics := none }

def pool9 : Array CpInfo := pool [(1, .class_ 2), (0, u "java/lang/Cloneable"), (0, .class_ 4), (0, u "java/lang/Object")] 2

/-- java/lang/Cloneable -/
def k9 : Class := { plain "java/lang/Cloneable" (some 0) with
  accessFlags := 1537
  interfaces := #[]
  cf := some (fileOf pool9 1 #[] #[] 1537 3 #[] #[])
  fields := #[]
  methods := #[]
  instanceTypes := #[]
  staticTypes := #[]
  resolved := Array.replicate 7 none
  statics := none }

def pool10 : Array CpInfo := pool [(1, .class_ 2), (0, u "java/io/Serializable"), (0, .class_ 4), (0, u "java/lang/Object")] 2

/-- java/io/Serializable -/
def k10 : Class := { plain "java/io/Serializable" (some 0) with
  accessFlags := 1537
  interfaces := #[]
  cf := some (fileOf pool10 1 #[] #[] 1537 3 #[] #[])
  fields := #[]
  methods := #[]
  instanceTypes := #[]
  staticTypes := #[]
  resolved := Array.replicate 7 none
  statics := none }

def pool11 : Array CpInfo := pool [(1, .methodref 2 3), (0, .class_ 4), (0, .nameAndType 5 6), (0, u "java/util/AbstractList"), (0, u "<init>"), (0, u "()V"), (0, .class_ 8), (0, u "java/lang/Object"), (0, .fieldref 10 11), (0, .class_ 12), (0, .nameAndType 13 14), (0, u "java/util/ArrayList"), (0, u "elementData"), (0, u "[Ljava/lang/Object;"), (2, u "EMPTY_ELEMENTDATA"), (21, .fieldref 10 40), (0, .nameAndType 41 14), (0, u "DEFAULTCAPACITY_EMPTY_ELEMENTDATA"), (5, u "()[Ljava/lang/Object;"), (0, .fieldref 10 49), (0, .nameAndType 50 51), (0, u "size"), (0, u "I"), (11, .fieldref 10 64), (0, .nameAndType 65 51), (0, u "modCount"), (3, .methodref 10 70), (0, .nameAndType 71 72), (0, u "grow"), (0, u "(I)[Ljava/lang/Object;"), (6, .methodref 80 81), (0, .class_ 82), (0, .nameAndType 83 84), (0, u "java/lang/Math"), (0, u "max"), (0, u "(II)I"), (11, u "(Ljava/lang/Object;)Z"), (21, .methodref 119 120), (0, .class_ 121), (0, .nameAndType 122 84), (0, u "java/util/Objects"), (0, u "checkIndex"), (0, .methodref 10 124), (0, .nameAndType 13 125), (0, u "(I)Ljava/lang/Object;"), (3, .methodref 10 130), (0, .nameAndType 71 47), (0, .methodref 10 132), (0, .nameAndType 133 134), (0, u "add"), (0, u "(Ljava/lang/Object;[Ljava/lang/Object;I)V"), (13, .class_ 149), (0, u "java/util/List"), (112, .class_ 263), (0, u "java/util/ArrayList$ListItr"), (3, .class_ 268), (0, u "java/util/ArrayList$Itr"), (7, .class_ 277), (0, u "java/util/ArrayList$SubList"), (12, .class_ 291), (0, u "java/util/ArrayList$ArrayListSpliterator"), (37, .class_ 330), (0, u "java/util/RandomAccess"), (0, .class_ 332), (0, u "java/lang/Cloneable"), (0, .class_ 334), (0, u "java/io/Serializable"), (0, u "serialVersionUID"), (0, u "J"), (3, u "DEFAULT_CAPACITY"), (40, u "get"), (118, .class_ 501), (0, u "java/util/ArrayList$SubList$2"), (0, .class_ 503), (0, u "java/util/ArrayList$SubList$1")] 5

def k11c0 : Code := { maxStack := 2, maxLocals := 1, code := jdk_38_method_2_code, exceptionTable := #[], attributes := #[] }
def k11m0 : Method := { name := "<init>", desc := "()V", sig := { parameters := [], returnType := none }, accessFlags := 1, code := some k11c0 }
def k11c1 : Code := { maxStack := 4, maxLocals := 4, code := jdk_38_method_6_code, exceptionTable := #[], attributes := #[] }
def k11m1 : Method := { name := "grow", desc := "(I)[Ljava/lang/Object;", sig := { parameters := [.int], returnType := some (.array (.object "java/lang/Object")) }, accessFlags := 2, code := some k11c1 }
def k11c2 : Code := { maxStack := 3, maxLocals := 1, code := jdk_38_method_7_code, exceptionTable := #[], attributes := #[] }
def k11m2 : Method := { name := "grow", desc := "()[Ljava/lang/Object;", sig := { parameters := [], returnType := some (.array (.object "java/lang/Object")) }, accessFlags := 2, code := some k11c2 }
def k11c3 : Code := { maxStack := 2, maxLocals := 2, code := jdk_38_method_18_code, exceptionTable := #[], attributes := #[] }
def k11m3 : Method := { name := "elementData", desc := "(I)Ljava/lang/Object;", sig := { parameters := [.int], returnType := some (.object "java/lang/Object") }, accessFlags := 0, code := some k11c3 }
def k11c4 : Code := { maxStack := 2, maxLocals := 2, code := jdk_38_method_20_code, exceptionTable := #[], attributes := #[] }
def k11m4 : Method := { name := "get", desc := "(I)Ljava/lang/Object;", sig := { parameters := [.int], returnType := some (.object "java/lang/Object") }, accessFlags := 1, code := some k11c4 }
def k11c5 : Code := { maxStack := 3, maxLocals := 4, code := jdk_38_method_24_code, exceptionTable := #[], attributes := #[] }
def k11m5 : Method := { name := "add", desc := "(Ljava/lang/Object;[Ljava/lang/Object;I)V", sig := { parameters := [(.object "java/lang/Object"), (.array (.object "java/lang/Object")), .int], returnType := none }, accessFlags := 2, code := some k11c5 }
def k11c6 : Code := { maxStack := 4, maxLocals := 2, code := jdk_38_method_25_code, exceptionTable := #[], attributes := #[] }
def k11m6 : Method := { name := "add", desc := "(Ljava/lang/Object;)Z", sig := { parameters := [(.object "java/lang/Object")], returnType := some .boolean }, accessFlags := 1, code := some k11c6 }
/-- java/util/ArrayList -/
def k11 : Class := { plain "java/util/ArrayList" (some 7) with
  accessFlags := 33
  interfaces := #[6, 8, 9, 10]
  cf := some (fileOf pool11 10 #[.nestMembers #[290, 276, 500, 502, 262, 267]] #[{ accessFlags := 1, nameIndex := 5, descriptorIndex := 6, attributes := #[] }, { accessFlags := 2, nameIndex := 71, descriptorIndex := 72, attributes := #[] }, { accessFlags := 2, nameIndex := 71, descriptorIndex := 47, attributes := #[] }, { accessFlags := 0, nameIndex := 13, descriptorIndex := 125, attributes := #[] }, { accessFlags := 1, nameIndex := 381, descriptorIndex := 125, attributes := #[] }, { accessFlags := 2, nameIndex := 133, descriptorIndex := 134, attributes := #[] }, { accessFlags := 1, nameIndex := 133, descriptorIndex := 96, attributes := #[] }] 33 2 #[148, 329, 331, 333] #[{ accessFlags := 26, nameIndex := 335, descriptorIndex := 336, attributes := #[] }, { accessFlags := 26, nameIndex := 340, descriptorIndex := 51, attributes := #[] }, { accessFlags := 26, nameIndex := 17, descriptorIndex := 14, attributes := #[] }, { accessFlags := 26, nameIndex := 41, descriptorIndex := 14, attributes := #[] }, { accessFlags := 128, nameIndex := 13, descriptorIndex := 14, attributes := #[] }, { accessFlags := 2, nameIndex := 50, descriptorIndex := 51, attributes := #[] }])
  fields := #[{ name := "serialVersionUID", type := .long, accessFlags := 26, slot := 0, constantValue := 0 }, { name := "DEFAULT_CAPACITY", type := .int, accessFlags := 26, slot := 1, constantValue := 0 }, { name := "EMPTY_ELEMENTDATA", type := (.array (.object "java/lang/Object")), accessFlags := 26, slot := 2, constantValue := 0 }, { name := "DEFAULTCAPACITY_EMPTY_ELEMENTDATA", type := (.array (.object "java/lang/Object")), accessFlags := 26, slot := 3, constantValue := 0 }, { name := "elementData", type := (.array (.object "java/lang/Object")), accessFlags := 128, slot := 1, constantValue := 0 }, { name := "size", type := .int, accessFlags := 2, slot := 2, constantValue := 0 }]
  methods := #[k11m0, k11m1, k11m2, k11m3, k11m4, k11m5, k11m6]
  instanceTypes := #[.int, (.array (.object "java/lang/Object")), .int]
  staticTypes := #[.long, .int, (.array (.object "java/lang/Object")), (.array (.object "java/lang/Object"))]
  resolved := Array.replicate 509 none
  statics := some 0 }

def pool12 : Array CpInfo := pool [(1, .methodref 2 3), (0, .class_ 4), (0, .nameAndType 5 6), (0, u "java/lang/Object"), (0, u "<init>"), (0, u "()V"), (1, .class_ 10), (1, u "java/lang/Number"), (2, .class_ 14), (0, u "java/io/Serializable"), (0, u "serialVersionUID"), (0, u "J")] 20

def k12c0 : Code := { maxStack := 1, maxLocals := 1, code := jdk_18_method_1_code, exceptionTable := #[], attributes := #[] }
def k12m0 : Method := { name := "<init>", desc := "()V", sig := { parameters := [], returnType := none }, accessFlags := 1, code := some k12c0 }
/-- java/lang/Number -/
def k12 : Class := { plain "java/lang/Number" (some 0) with
  accessFlags := 1057
  interfaces := #[10]
  cf := some (fileOf pool12 8 #[] #[{ accessFlags := 1, nameIndex := 5, descriptorIndex := 6, attributes := #[] }] 1057 2 #[13] #[{ accessFlags := 26, nameIndex := 15, descriptorIndex := 16, attributes := #[] }])
  fields := #[{ name := "serialVersionUID", type := .long, accessFlags := 26, slot := 0, constantValue := 0 }]
  methods := #[k12m0]
  instanceTypes := #[]
  staticTypes := #[.long]
  resolved := Array.replicate 37 none
  statics := none }

def pool13 : Array CpInfo := pool [(1, .class_ 2), (0, u "java/lang/Comparable"), (0, .class_ 4), (0, u "java/lang/Object")] 7

/-- java/lang/Comparable -/
def k13 : Class := { plain "java/lang/Comparable" (some 0) with
  accessFlags := 1537
  interfaces := #[]
  cf := some (fileOf pool13 1 #[] #[] 1537 3 #[] #[])
  fields := #[]
  methods := #[]
  instanceTypes := #[]
  staticTypes := #[]
  resolved := Array.replicate 12 none
  statics := none }

def pool14 : Array CpInfo := pool [(1, .class_ 2), (0, u "java/lang/constant/Constable"), (0, .class_ 4), (0, u "java/lang/Object")] 6

/-- java/lang/constant/Constable -/
def k14 : Class := { plain "java/lang/constant/Constable" (some 0) with
  accessFlags := 1537
  interfaces := #[]
  cf := some (fileOf pool14 1 #[] #[] 1537 3 #[] #[])
  fields := #[]
  methods := #[]
  instanceTypes := #[]
  staticTypes := #[]
  resolved := Array.replicate 11 none
  statics := none }

def pool15 : Array CpInfo := pool [(1, .class_ 2), (0, u "java/lang/constant/ConstantDesc"), (0, .class_ 4), (0, u "java/lang/Object")] 32

/-- java/lang/constant/ConstantDesc -/
def k15 : Class := { plain "java/lang/constant/ConstantDesc" (some 0) with
  accessFlags := 1537
  interfaces := #[]
  cf := some (fileOf pool15 1 #[] #[] 1537 3 #[] #[])
  fields := #[]
  methods := #[]
  instanceTypes := #[]
  staticTypes := #[]
  resolved := Array.replicate 37 none
  statics := none }

def pool16 : Array CpInfo := pool [(1, .class_ 2), (0, u "java/lang/Long"), (55, .nameAndType 59 60), (0, u "<init>"), (0, u "()V"), (24, u "valueOf"), (143, u "(J)Ljava/lang/Long;"), (0, .long 18446744073709551488), (1, .long 127), (1, .fieldref 235 236), (0, .class_ 237), (0, .nameAndType 238 239), (0, u "java/lang/Long$LongCache"), (0, u "cache"), (0, u "[Ljava/lang/Long;"), (0, .methodref 1 241), (0, .nameAndType 59 242), (0, u "(J)V"), (27, .methodref 271 58), (0, .class_ 272), (0, u "java/lang/Number"), (0, .fieldref 1 274), (0, .nameAndType 275 276), (0, u "value"), (0, u "J"), (5, u "longValue"), (0, u "()J"), (77, u "TYPE"), (0, u "Ljava/lang/Class;"), (0, .class_ 364), (0, u "java/lang/Comparable"), (0, .class_ 366), (0, u "java/lang/constant/Constable"), (0, .class_ 368), (0, u "java/lang/constant/ConstantDesc"), (0, u "MIN_VALUE"), (1, u "MAX_VALUE"), (4, u "SIZE"), (0, u "I"), (1, u "BYTES"), (1, u "serialVersionUID")] 142

def k16c0 : Code := { maxStack := 4, maxLocals := 3, code := jdk_35_method_24_code, exceptionTable := #[], attributes := #[] }
def k16m0 : Method := { name := "valueOf", desc := "(J)Ljava/lang/Long;", sig := { parameters := [.long], returnType := some (.object "java/lang/Long") }, accessFlags := 9, code := some k16c0 }
def k16c1 : Code := { maxStack := 3, maxLocals := 3, code := jdk_35_method_26_code, exceptionTable := #[], attributes := #[] }
def k16m1 : Method := { name := "<init>", desc := "(J)V", sig := { parameters := [.long], returnType := none }, accessFlags := 1, code := some k16c1 }
def k16c2 : Code := { maxStack := 2, maxLocals := 1, code := jdk_35_method_31_code, exceptionTable := #[], attributes := #[] }
def k16m2 : Method := { name := "longValue", desc := "()J", sig := { parameters := [], returnType := some .long }, accessFlags := 1, code := some k16c2 }
/-- java/lang/Long -/
def k16 : Class := { plain "java/lang/Long" (some 12) with
  accessFlags := 49
  interfaces := #[13, 14, 15]
  cf := some (fileOf pool16 1 #[.nestMembers #[235]] #[{ accessFlags := 9, nameIndex := 85, descriptorIndex := 229, attributes := #[] }, { accessFlags := 1, nameIndex := 59, descriptorIndex := 242, attributes := #[] }, { accessFlags := 1, nameIndex := 282, descriptorIndex := 283, attributes := #[] }] 49 271 #[363, 365, 367] #[{ accessFlags := 25, nameIndex := 369, descriptorIndex := 276, attributes := #[] }, { accessFlags := 25, nameIndex := 371, descriptorIndex := 276, attributes := #[] }, { accessFlags := 25, nameIndex := 361, descriptorIndex := 362, attributes := #[] }, { accessFlags := 18, nameIndex := 275, descriptorIndex := 276, attributes := #[] }, { accessFlags := 25, nameIndex := 376, descriptorIndex := 377, attributes := #[] }, { accessFlags := 25, nameIndex := 379, descriptorIndex := 377, attributes := #[] }, { accessFlags := 26, nameIndex := 381, descriptorIndex := 276, attributes := #[] }])
  fields := #[{ name := "MIN_VALUE", type := .long, accessFlags := 25, slot := 0, constantValue := 0 }, { name := "MAX_VALUE", type := .long, accessFlags := 25, slot := 1, constantValue := 0 }, { name := "TYPE", type := (.object "java/lang/Class"), accessFlags := 25, slot := 2, constantValue := 0 }, { name := "value", type := .long, accessFlags := 18, slot := 0, constantValue := 0 }, { name := "SIZE", type := .int, accessFlags := 25, slot := 3, constantValue := 0 }, { name := "BYTES", type := .int, accessFlags := 25, slot := 4, constantValue := 0 }, { name := "serialVersionUID", type := .long, accessFlags := 26, slot := 5, constantValue := 0 }]
  methods := #[k16m0, k16m1, k16m2]
  instanceTypes := #[.long]
  staticTypes := #[.long, .long, (.object "java/lang/Class"), .int, .int, .long]
  resolved := Array.replicate 524 none
  statics := none }

def pool17 : Array CpInfo := pool [(2, .class_ 4), (1, u "java/lang/Object"), (0, u "<init>"), (0, u "()V"), (0, .class_ 8), (0, u "java/lang/Long"), (7, .class_ 18), (1, u "java/lang/Long$LongCache"), (0, u "$assertionsDisabled"), (0, u "Z"), (8, u "archivedCache"), (0, u "[Ljava/lang/Long;"), (7, u "cache")] 24

def k17m0 : Method := { name := "<init>", desc := "()V", sig := { parameters := [], returnType := none }, accessFlags := 2, code := none }
/-- java/lang/Long$LongCache -/
def k17 : Class := { plain "java/lang/Long$LongCache" (some 0) with
  accessFlags := 48
  interfaces := #[]
  cf := some (fileOf pool17 16 #[.nestHost 7] #[{ accessFlags := 2, nameIndex := 5, descriptorIndex := 6, attributes := #[] }] 48 2 #[] #[{ accessFlags := 24, nameIndex := 38, descriptorIndex := 30, attributes := #[] }, { accessFlags := 8, nameIndex := 29, descriptorIndex := 30, attributes := #[] }, { accessFlags := 4120, nameIndex := 19, descriptorIndex := 20, attributes := #[] }])
  fields := #[{ name := "cache", type := (.array (.object "java/lang/Long")), accessFlags := 24, slot := 0, constantValue := 0 }, { name := "archivedCache", type := (.array (.object "java/lang/Long")), accessFlags := 8, slot := 1, constantValue := 0 }, { name := "$assertionsDisabled", type := .boolean, accessFlags := 4120, slot := 2, constantValue := 0 }]
  methods := #[k17m0]
  instanceTypes := #[]
  staticTypes := #[(.array (.object "java/lang/Long")), (.array (.object "java/lang/Long")), .boolean]
  resolved := Array.replicate 63 none
  statics := some 1 }

def pool18 : Array CpInfo := pool [(1, .class_ 2), (0, u "java/lang/Math"), (1, .class_ 6), (1, u "java/lang/Object"), (0, u "<init>"), (0, u "()V"), (89, .class_ 100), (1, u "java/lang/Math$RandomNumberGeneratorHolder"), (71, u "negativeZeroFloatBits"), (0, u "J"), (2, u "negativeZeroDoubleBits"), (21, u "max"), (46, u "$assertionsDisabled"), (0, u "Z"), (88, u "(II)I"), (2, u "twoToTheDoubleScaleDown"), (0, u "D"), (4, u "twoToTheDoubleScaleUp"), (9, u "E"), (3, u "PI"), (2, u "TAU"), (2, u "DEGREES_TO_RADIANS"), (0, u "RADIANS_TO_DEGREES")] 94

def k18m0 : Method := { name := "<init>", desc := "()V", sig := { parameters := [], returnType := none }, accessFlags := 2, code := none }
def k18c1 : Code := { maxStack := 2, maxLocals := 2, code := jdk_29_method_65_code, exceptionTable := #[], attributes := #[] }
def k18m1 : Method := { name := "max", desc := "(II)I", sig := { parameters := [.int, .int], returnType := some .int }, accessFlags := 9, code := some k18c1 }
/-- java/lang/Math -/
def k18 : Class := { plain "java/lang/Math" (some 0) with
  accessFlags := 49
  interfaces := #[]
  cf := some (fileOf pool18 1 #[.nestMembers #[98]] #[{ accessFlags := 2, nameIndex := 7, descriptorIndex := 8, attributes := #[] }, { accessFlags := 9, nameIndex := 198, descriptorIndex := 335, attributes := #[] }] 49 4 #[] #[{ accessFlags := 25, nameIndex := 354, descriptorIndex := 339, attributes := #[] }, { accessFlags := 25, nameIndex := 358, descriptorIndex := 339, attributes := #[] }, { accessFlags := 25, nameIndex := 361, descriptorIndex := 339, attributes := #[] }, { accessFlags := 26, nameIndex := 364, descriptorIndex := 339, attributes := #[] }, { accessFlags := 26, nameIndex := 365, descriptorIndex := 339, attributes := #[] }, { accessFlags := 26, nameIndex := 172, descriptorIndex := 173, attributes := #[] }, { accessFlags := 26, nameIndex := 176, descriptorIndex := 173, attributes := #[] }, { accessFlags := 8, nameIndex := 344, descriptorIndex := 339, attributes := #[] }, { accessFlags := 8, nameIndex := 338, descriptorIndex := 339, attributes := #[] }, { accessFlags := 4120, nameIndex := 245, descriptorIndex := 246, attributes := #[] }])
  fields := #[{ name := "E", type := .double, accessFlags := 25, slot := 0, constantValue := 0 }, { name := "PI", type := .double, accessFlags := 25, slot := 1, constantValue := 0 }, { name := "TAU", type := .double, accessFlags := 25, slot := 2, constantValue := 0 }, { name := "DEGREES_TO_RADIANS", type := .double, accessFlags := 26, slot := 3, constantValue := 0 }, { name := "RADIANS_TO_DEGREES", type := .double, accessFlags := 26, slot := 4, constantValue := 0 }, { name := "negativeZeroFloatBits", type := .long, accessFlags := 26, slot := 5, constantValue := 0 }, { name := "negativeZeroDoubleBits", type := .long, accessFlags := 26, slot := 6, constantValue := 0 }, { name := "twoToTheDoubleScaleUp", type := .double, accessFlags := 8, slot := 7, constantValue := 0 }, { name := "twoToTheDoubleScaleDown", type := .double, accessFlags := 8, slot := 8, constantValue := 0 }, { name := "$assertionsDisabled", type := .boolean, accessFlags := 4120, slot := 9, constantValue := 0 }]
  methods := #[k18m0, k18m1]
  instanceTypes := #[]
  staticTypes := #[.double, .double, .double, .double, .double, .long, .long, .double, .double, .boolean]
  resolved := Array.replicate 460 none
  statics := none }

def pool19 : Array CpInfo := pool [(1, .methodref 2 3), (0, .class_ 4), (0, .nameAndType 5 6), (0, u "java/lang/Object"), (0, u "<init>"), (0, u "()V"), (0, .class_ 8), (0, u "java/lang/Record")] 13

def k19c0 : Code := { maxStack := 1, maxLocals := 1, code := jdk_30_method_1_code, exceptionTable := #[], attributes := #[] }
def k19m0 : Method := { name := "<init>", desc := "()V", sig := { parameters := [], returnType := none }, accessFlags := 4, code := some k19c0 }
/-- java/lang/Record -/
def k19 : Class := { plain "java/lang/Record" (some 0) with
  accessFlags := 1057
  interfaces := #[]
  cf := some (fileOf pool19 7 #[] #[{ accessFlags := 4, nameIndex := 5, descriptorIndex := 6, attributes := #[] }] 1057 2 #[] #[])
  fields := #[]
  methods := #[k19m0]
  instanceTypes := #[]
  staticTypes := #[]
  resolved := Array.replicate 22 none
  statics := none }

def pool20 : Array CpInfo := pool [(1, .methodref 2 3), (0, .class_ 4), (0, .nameAndType 5 6), (0, u "java/lang/Record"), (0, u "<init>"), (0, u "()V"), (0, .fieldref 8 9), (0, .class_ 10), (0, .nameAndType 11 12), (0, u "com/example/horkos/horkos/internal/AcquireReply"), (0, u "holds"), (0, u "J"), (0, .fieldref 8 14), (0, .nameAndType 15 12), (0, u "token"), (0, .interfaceMethodref 17 18), (0, .class_ 19), (0, .nameAndType 20 21), (0, u "java/util/List"), (0, u "get"), (0, u "(I)Ljava/lang/Object;"), (0, .class_ 23), (0, u "java/lang/Long"), (0, .methodref 22 25), (0, .nameAndType 26 27), (0, u "longValue"), (0, u "()J"), (0, .methodref 8 29), (0, .nameAndType 5 30), (0, u "(JJ)V"), (15, u "of"), (0, u "(Ljava/util/List;)Lcom/example/horkos/horkos/internal/AcquireReply;")] 26

def k20c0 : Code := { maxStack := 3, maxLocals := 5, code := prog_4_method_1_code, exceptionTable := #[], attributes := #[] }
def k20m0 : Method := { name := "<init>", desc := "(JJ)V", sig := { parameters := [.long, .long], returnType := none }, accessFlags := 0, code := some k20c0 }
def k20c1 : Code := { maxStack := 6, maxLocals := 1, code := prog_4_method_2_code, exceptionTable := #[], attributes := #[] }
def k20m1 : Method := { name := "of", desc := "(Ljava/util/List;)Lcom/example/horkos/horkos/internal/AcquireReply;", sig := { parameters := [(.object "java/util/List")], returnType := some (.object "com/example/horkos/horkos/internal/AcquireReply") }, accessFlags := 8, code := some k20c1 }
def k20c2 : Code := { maxStack := 2, maxLocals := 1, code := prog_4_method_6_code, exceptionTable := #[], attributes := #[] }
def k20m2 : Method := { name := "holds", desc := "()J", sig := { parameters := [], returnType := some .long }, accessFlags := 1, code := some k20c2 }
def k20c3 : Code := { maxStack := 2, maxLocals := 1, code := prog_4_method_7_code, exceptionTable := #[], attributes := #[] }
def k20m3 : Method := { name := "token", desc := "()J", sig := { parameters := [], returnType := some .long }, accessFlags := 1, code := some k20c3 }
/-- com/example/horkos/horkos/internal/AcquireReply -/
def k20 : Class := { plain "com/example/horkos/horkos/internal/AcquireReply" (some 19) with
  accessFlags := 48
  interfaces := #[]
  cf := some (fileOf pool20 8 #[] #[{ accessFlags := 0, nameIndex := 5, descriptorIndex := 30, attributes := #[] }, { accessFlags := 8, nameIndex := 46, descriptorIndex := 47, attributes := #[] }, { accessFlags := 1, nameIndex := 11, descriptorIndex := 27, attributes := #[] }, { accessFlags := 1, nameIndex := 15, descriptorIndex := 27, attributes := #[] }] 48 2 #[] #[{ accessFlags := 18, nameIndex := 11, descriptorIndex := 12, attributes := #[] }, { accessFlags := 18, nameIndex := 15, descriptorIndex := 12, attributes := #[] }])
  fields := #[{ name := "holds", type := .long, accessFlags := 18, slot := 0, constantValue := 0 }, { name := "token", type := .long, accessFlags := 18, slot := 1, constantValue := 0 }]
  methods := #[k20m0, k20m1, k20m2, k20m3]
  instanceTypes := #[.long, .long]
  staticTypes := #[]
  resolved := Array.replicate 74 none
  statics := none }

def pool21 : Array CpInfo := pool [(2, .class_ 4), (1, u "java/lang/Object"), (0, u "<init>"), (0, u "()V"), (35, .class_ 44), (1, u "java/util/Objects"), (60, .methodref 106 107), (0, .class_ 108), (0, .nameAndType 109 110), (0, u "jdk/internal/util/Preconditions"), (0, u "checkIndex"), (0, u "(IILjava/util/function/BiFunction;)I"), (60, u "(II)I")] 12

def k21m0 : Method := { name := "<init>", desc := "()V", sig := { parameters := [], returnType := none }, accessFlags := 2, code := none }
def k21c1 : Code := { maxStack := 3, maxLocals := 2, code := jdk_31_method_17_code, exceptionTable := #[], attributes := #[] }
def k21m1 : Method := { name := "checkIndex", desc := "(II)I", sig := { parameters := [.int, .int], returnType := some .int }, accessFlags := 9, code := some k21c1 }
/-- java/util/Objects -/
def k21 : Class := { plain "java/util/Objects" (some 0) with
  accessFlags := 49
  interfaces := #[]
  cf := some (fileOf pool21 42 #[] #[{ accessFlags := 2, nameIndex := 5, descriptorIndex := 6, attributes := #[] }, { accessFlags := 9, nameIndex := 109, descriptorIndex := 171, attributes := #[] }] 49 2 #[] #[])
  fields := #[]
  methods := #[k21m0, k21m1]
  instanceTypes := #[]
  staticTypes := #[]
  resolved := Array.replicate 184 none
  statics := none }

def pool22 : Array CpInfo := pool [(2, .class_ 4), (1, u "java/lang/Object"), (0, u "<init>"), (0, u "()V"), (17, .class_ 26), (1, u "jdk/internal/util/Preconditions"), (6, u "checkIndex"), (21, .class_ 56), (0, u "jdk/internal/util/Preconditions$4"), (57, .class_ 115), (0, u "jdk/internal/util/Preconditions$1"), (7, u "SIOOBE_FORMATTER"), (0, u "Ljava/util/function/BiFunction;"), (0, .class_ 126), (0, u "jdk/internal/util/Preconditions$2"), (3, u "AIOOBE_FORMATTER"), (0, .class_ 132), (0, u "jdk/internal/util/Preconditions$3"), (3, u "IOOBE_FORMATTER"), (41, u "(IILjava/util/function/BiFunction;)I")] 15

def k22m0 : Method := { name := "<init>", desc := "()V", sig := { parameters := [], returnType := none }, accessFlags := 1, code := none }
def k22c1 : Code := { maxStack := 3, maxLocals := 3, code := jdk_41_method_11_code, exceptionTable := #[], attributes := #[] }
def k22m1 : Method := { name := "checkIndex", desc := "(IILjava/util/function/BiFunction;)I", sig := { parameters := [.int, .int, (.object "java/util/function/BiFunction")], returnType := some .int }, accessFlags := 9, code := some k22c1 }
/-- jdk/internal/util/Preconditions -/
def k22 : Class := { plain "jdk/internal/util/Preconditions" (some 0) with
  accessFlags := 33
  interfaces := #[]
  cf := some (fileOf pool22 24 #[.nestMembers #[55, 131, 125, 114]] #[{ accessFlags := 1, nameIndex := 5, descriptorIndex := 6, attributes := #[] }, { accessFlags := 9, nameIndex := 33, descriptorIndex := 178, attributes := #[] }] 33 2 #[] #[{ accessFlags := 25, nameIndex := 123, descriptorIndex := 124, attributes := #[] }, { accessFlags := 25, nameIndex := 130, descriptorIndex := 124, attributes := #[] }, { accessFlags := 25, nameIndex := 136, descriptorIndex := 124, attributes := #[] }])
  fields := #[{ name := "SIOOBE_FORMATTER", type := (.object "java/util/function/BiFunction"), accessFlags := 25, slot := 0, constantValue := 0 }, { name := "AIOOBE_FORMATTER", type := (.object "java/util/function/BiFunction"), accessFlags := 25, slot := 1, constantValue := 0 }, { name := "IOOBE_FORMATTER", type := (.object "java/util/function/BiFunction"), accessFlags := 25, slot := 2, constantValue := 0 }]
  methods := #[k22m0, k22m1]
  instanceTypes := #[]
  staticTypes := #[(.object "java/util/function/BiFunction"), (.object "java/util/function/BiFunction"), (.object "java/util/function/BiFunction")]
  resolved := Array.replicate 194 none
  statics := none }

/-- the primitive byte -/
def k23 : Class := { plain "byte" none with kind := .primitive 'B', accessFlags := 0x411 }
/-- [B -/
def k24 : Class := { plain "[B" (some 0) with kind := .array 23 .byte, interfaces := #[9, 10], accessFlags := 1041 }

/-- the primitive int -/
def k25 : Class := { plain "int" none with kind := .primitive 'I', accessFlags := 0x411 }
/-- [I -/
def k26 : Class := { plain "[I" (some 0) with kind := .array 25 .int, interfaces := #[9, 10], accessFlags := 1041 }

/-- [Ljava/lang/Long; -/
def k27 : Class := { plain "[Ljava/lang/Long;" (some 0) with kind := .array 16 (.object "java/lang/Long"), interfaces := #[9, 10], accessFlags := 1041 }

/-- [Ljava/lang/Object; -/
def k28 : Class := { plain "[Ljava/lang/Object;" (some 0) with kind := .array 0 (.object "java/lang/Object"), interfaces := #[9, 10], accessFlags := 1041 }

def heap : Heap := #[{ cls := 11, slots := #[.long 0, .int 0, .ref 259, .ref 260], vm := .statics 11 },
  { cls := 17, slots := #[.ref 2, .null, .int 0], vm := .statics 17 },
  { cls := 27, slots := #[.ref 3, .ref 4, .ref 5, .ref 6, .ref 7, .ref 8, .ref 9, .ref 10, .ref 11, .ref 12, .ref 13, .ref 14, .ref 15, .ref 16, .ref 17, .ref 18, .ref 19, .ref 20, .ref 21, .ref 22, .ref 23, .ref 24, .ref 25, .ref 26, .ref 27, .ref 28, .ref 29, .ref 30, .ref 31, .ref 32, .ref 33, .ref 34, .ref 35, .ref 36, .ref 37, .ref 38, .ref 39, .ref 40, .ref 41, .ref 42, .ref 43, .ref 44, .ref 45, .ref 46, .ref 47, .ref 48, .ref 49, .ref 50, .ref 51, .ref 52, .ref 53, .ref 54, .ref 55, .ref 56, .ref 57, .ref 58, .ref 59, .ref 60, .ref 61, .ref 62, .ref 63, .ref 64, .ref 65, .ref 66, .ref 67, .ref 68, .ref 69, .ref 70, .ref 71, .ref 72, .ref 73, .ref 74, .ref 75, .ref 76, .ref 77, .ref 78, .ref 79, .ref 80, .ref 81, .ref 82, .ref 83, .ref 84, .ref 85, .ref 86, .ref 87, .ref 88, .ref 89, .ref 90, .ref 91, .ref 92, .ref 93, .ref 94, .ref 95, .ref 96, .ref 97, .ref 98, .ref 99, .ref 100, .ref 101, .ref 102, .ref 103, .ref 104, .ref 105, .ref 106, .ref 107, .ref 108, .ref 109, .ref 110, .ref 111, .ref 112, .ref 113, .ref 114, .ref 115, .ref 116, .ref 117, .ref 118, .ref 119, .ref 120, .ref 121, .ref 122, .ref 123, .ref 124, .ref 125, .ref 126, .ref 127, .ref 128, .ref 129, .ref 130, .ref 131, .ref 132, .ref 133, .ref 134, .ref 135, .ref 136, .ref 137, .ref 138, .ref 139, .ref 140, .ref 141, .ref 142, .ref 143, .ref 144, .ref 145, .ref 146, .ref 147, .ref 148, .ref 149, .ref 150, .ref 151, .ref 152, .ref 153, .ref 154, .ref 155, .ref 156, .ref 157, .ref 158, .ref 159, .ref 160, .ref 161, .ref 162, .ref 163, .ref 164, .ref 165, .ref 166, .ref 167, .ref 168, .ref 169, .ref 170, .ref 171, .ref 172, .ref 173, .ref 174, .ref 175, .ref 176, .ref 177, .ref 178, .ref 179, .ref 180, .ref 181, .ref 182, .ref 183, .ref 184, .ref 185, .ref 186, .ref 187, .ref 188, .ref 189, .ref 190, .ref 191, .ref 192, .ref 193, .ref 194, .ref 195, .ref 196, .ref 197, .ref 198, .ref 199, .ref 200, .ref 201, .ref 202, .ref 203, .ref 204, .ref 205, .ref 206, .ref 207, .ref 208, .ref 209, .ref 210, .ref 211, .ref 212, .ref 213, .ref 214, .ref 215, .ref 216, .ref 217, .ref 218, .ref 219, .ref 220, .ref 221, .ref 222, .ref 223, .ref 224, .ref 225, .ref 226, .ref 227, .ref 228, .ref 229, .ref 230, .ref 231, .ref 232, .ref 233, .ref 234, .ref 235, .ref 236, .ref 237, .ref 238, .ref 239, .ref 240, .ref 241, .ref 242, .ref 243, .ref 244, .ref 245, .ref 246, .ref 247, .ref 248, .ref 249, .ref 250, .ref 251, .ref 252, .ref 253, .ref 254, .ref 255, .ref 256, .ref 257, .ref 258], vm := .none },
  { cls := 16, slots := #[.long (-128)], vm := .none },
  { cls := 16, slots := #[.long (-127)], vm := .none },
  { cls := 16, slots := #[.long (-126)], vm := .none },
  { cls := 16, slots := #[.long (-125)], vm := .none },
  { cls := 16, slots := #[.long (-124)], vm := .none },
  { cls := 16, slots := #[.long (-123)], vm := .none },
  { cls := 16, slots := #[.long (-122)], vm := .none },
  { cls := 16, slots := #[.long (-121)], vm := .none },
  { cls := 16, slots := #[.long (-120)], vm := .none },
  { cls := 16, slots := #[.long (-119)], vm := .none },
  { cls := 16, slots := #[.long (-118)], vm := .none },
  { cls := 16, slots := #[.long (-117)], vm := .none },
  { cls := 16, slots := #[.long (-116)], vm := .none },
  { cls := 16, slots := #[.long (-115)], vm := .none },
  { cls := 16, slots := #[.long (-114)], vm := .none },
  { cls := 16, slots := #[.long (-113)], vm := .none },
  { cls := 16, slots := #[.long (-112)], vm := .none },
  { cls := 16, slots := #[.long (-111)], vm := .none },
  { cls := 16, slots := #[.long (-110)], vm := .none },
  { cls := 16, slots := #[.long (-109)], vm := .none },
  { cls := 16, slots := #[.long (-108)], vm := .none },
  { cls := 16, slots := #[.long (-107)], vm := .none },
  { cls := 16, slots := #[.long (-106)], vm := .none },
  { cls := 16, slots := #[.long (-105)], vm := .none },
  { cls := 16, slots := #[.long (-104)], vm := .none },
  { cls := 16, slots := #[.long (-103)], vm := .none },
  { cls := 16, slots := #[.long (-102)], vm := .none },
  { cls := 16, slots := #[.long (-101)], vm := .none },
  { cls := 16, slots := #[.long (-100)], vm := .none },
  { cls := 16, slots := #[.long (-99)], vm := .none },
  { cls := 16, slots := #[.long (-98)], vm := .none },
  { cls := 16, slots := #[.long (-97)], vm := .none },
  { cls := 16, slots := #[.long (-96)], vm := .none },
  { cls := 16, slots := #[.long (-95)], vm := .none },
  { cls := 16, slots := #[.long (-94)], vm := .none },
  { cls := 16, slots := #[.long (-93)], vm := .none },
  { cls := 16, slots := #[.long (-92)], vm := .none },
  { cls := 16, slots := #[.long (-91)], vm := .none },
  { cls := 16, slots := #[.long (-90)], vm := .none },
  { cls := 16, slots := #[.long (-89)], vm := .none },
  { cls := 16, slots := #[.long (-88)], vm := .none },
  { cls := 16, slots := #[.long (-87)], vm := .none },
  { cls := 16, slots := #[.long (-86)], vm := .none },
  { cls := 16, slots := #[.long (-85)], vm := .none },
  { cls := 16, slots := #[.long (-84)], vm := .none },
  { cls := 16, slots := #[.long (-83)], vm := .none },
  { cls := 16, slots := #[.long (-82)], vm := .none },
  { cls := 16, slots := #[.long (-81)], vm := .none },
  { cls := 16, slots := #[.long (-80)], vm := .none },
  { cls := 16, slots := #[.long (-79)], vm := .none },
  { cls := 16, slots := #[.long (-78)], vm := .none },
  { cls := 16, slots := #[.long (-77)], vm := .none },
  { cls := 16, slots := #[.long (-76)], vm := .none },
  { cls := 16, slots := #[.long (-75)], vm := .none },
  { cls := 16, slots := #[.long (-74)], vm := .none },
  { cls := 16, slots := #[.long (-73)], vm := .none },
  { cls := 16, slots := #[.long (-72)], vm := .none },
  { cls := 16, slots := #[.long (-71)], vm := .none },
  { cls := 16, slots := #[.long (-70)], vm := .none },
  { cls := 16, slots := #[.long (-69)], vm := .none },
  { cls := 16, slots := #[.long (-68)], vm := .none },
  { cls := 16, slots := #[.long (-67)], vm := .none },
  { cls := 16, slots := #[.long (-66)], vm := .none },
  { cls := 16, slots := #[.long (-65)], vm := .none },
  { cls := 16, slots := #[.long (-64)], vm := .none },
  { cls := 16, slots := #[.long (-63)], vm := .none },
  { cls := 16, slots := #[.long (-62)], vm := .none },
  { cls := 16, slots := #[.long (-61)], vm := .none },
  { cls := 16, slots := #[.long (-60)], vm := .none },
  { cls := 16, slots := #[.long (-59)], vm := .none },
  { cls := 16, slots := #[.long (-58)], vm := .none },
  { cls := 16, slots := #[.long (-57)], vm := .none },
  { cls := 16, slots := #[.long (-56)], vm := .none },
  { cls := 16, slots := #[.long (-55)], vm := .none },
  { cls := 16, slots := #[.long (-54)], vm := .none },
  { cls := 16, slots := #[.long (-53)], vm := .none },
  { cls := 16, slots := #[.long (-52)], vm := .none },
  { cls := 16, slots := #[.long (-51)], vm := .none },
  { cls := 16, slots := #[.long (-50)], vm := .none },
  { cls := 16, slots := #[.long (-49)], vm := .none },
  { cls := 16, slots := #[.long (-48)], vm := .none },
  { cls := 16, slots := #[.long (-47)], vm := .none },
  { cls := 16, slots := #[.long (-46)], vm := .none },
  { cls := 16, slots := #[.long (-45)], vm := .none },
  { cls := 16, slots := #[.long (-44)], vm := .none },
  { cls := 16, slots := #[.long (-43)], vm := .none },
  { cls := 16, slots := #[.long (-42)], vm := .none },
  { cls := 16, slots := #[.long (-41)], vm := .none },
  { cls := 16, slots := #[.long (-40)], vm := .none },
  { cls := 16, slots := #[.long (-39)], vm := .none },
  { cls := 16, slots := #[.long (-38)], vm := .none },
  { cls := 16, slots := #[.long (-37)], vm := .none },
  { cls := 16, slots := #[.long (-36)], vm := .none },
  { cls := 16, slots := #[.long (-35)], vm := .none },
  { cls := 16, slots := #[.long (-34)], vm := .none },
  { cls := 16, slots := #[.long (-33)], vm := .none },
  { cls := 16, slots := #[.long (-32)], vm := .none },
  { cls := 16, slots := #[.long (-31)], vm := .none },
  { cls := 16, slots := #[.long (-30)], vm := .none },
  { cls := 16, slots := #[.long (-29)], vm := .none },
  { cls := 16, slots := #[.long (-28)], vm := .none },
  { cls := 16, slots := #[.long (-27)], vm := .none },
  { cls := 16, slots := #[.long (-26)], vm := .none },
  { cls := 16, slots := #[.long (-25)], vm := .none },
  { cls := 16, slots := #[.long (-24)], vm := .none },
  { cls := 16, slots := #[.long (-23)], vm := .none },
  { cls := 16, slots := #[.long (-22)], vm := .none },
  { cls := 16, slots := #[.long (-21)], vm := .none },
  { cls := 16, slots := #[.long (-20)], vm := .none },
  { cls := 16, slots := #[.long (-19)], vm := .none },
  { cls := 16, slots := #[.long (-18)], vm := .none },
  { cls := 16, slots := #[.long (-17)], vm := .none },
  { cls := 16, slots := #[.long (-16)], vm := .none },
  { cls := 16, slots := #[.long (-15)], vm := .none },
  { cls := 16, slots := #[.long (-14)], vm := .none },
  { cls := 16, slots := #[.long (-13)], vm := .none },
  { cls := 16, slots := #[.long (-12)], vm := .none },
  { cls := 16, slots := #[.long (-11)], vm := .none },
  { cls := 16, slots := #[.long (-10)], vm := .none },
  { cls := 16, slots := #[.long (-9)], vm := .none },
  { cls := 16, slots := #[.long (-8)], vm := .none },
  { cls := 16, slots := #[.long (-7)], vm := .none },
  { cls := 16, slots := #[.long (-6)], vm := .none },
  { cls := 16, slots := #[.long (-5)], vm := .none },
  { cls := 16, slots := #[.long (-4)], vm := .none },
  { cls := 16, slots := #[.long (-3)], vm := .none },
  { cls := 16, slots := #[.long (-2)], vm := .none },
  { cls := 16, slots := #[.long (-1)], vm := .none },
  { cls := 16, slots := #[.long 0], vm := .none },
  { cls := 16, slots := #[.long 1], vm := .none },
  { cls := 16, slots := #[.long 2], vm := .none },
  { cls := 16, slots := #[.long 3], vm := .none },
  { cls := 16, slots := #[.long 4], vm := .none },
  { cls := 16, slots := #[.long 5], vm := .none },
  { cls := 16, slots := #[.long 6], vm := .none },
  { cls := 16, slots := #[.long 7], vm := .none },
  { cls := 16, slots := #[.long 8], vm := .none },
  { cls := 16, slots := #[.long 9], vm := .none },
  { cls := 16, slots := #[.long 10], vm := .none },
  { cls := 16, slots := #[.long 11], vm := .none },
  { cls := 16, slots := #[.long 12], vm := .none },
  { cls := 16, slots := #[.long 13], vm := .none },
  { cls := 16, slots := #[.long 14], vm := .none },
  { cls := 16, slots := #[.long 15], vm := .none },
  { cls := 16, slots := #[.long 16], vm := .none },
  { cls := 16, slots := #[.long 17], vm := .none },
  { cls := 16, slots := #[.long 18], vm := .none },
  { cls := 16, slots := #[.long 19], vm := .none },
  { cls := 16, slots := #[.long 20], vm := .none },
  { cls := 16, slots := #[.long 21], vm := .none },
  { cls := 16, slots := #[.long 22], vm := .none },
  { cls := 16, slots := #[.long 23], vm := .none },
  { cls := 16, slots := #[.long 24], vm := .none },
  { cls := 16, slots := #[.long 25], vm := .none },
  { cls := 16, slots := #[.long 26], vm := .none },
  { cls := 16, slots := #[.long 27], vm := .none },
  { cls := 16, slots := #[.long 28], vm := .none },
  { cls := 16, slots := #[.long 29], vm := .none },
  { cls := 16, slots := #[.long 30], vm := .none },
  { cls := 16, slots := #[.long 31], vm := .none },
  { cls := 16, slots := #[.long 32], vm := .none },
  { cls := 16, slots := #[.long 33], vm := .none },
  { cls := 16, slots := #[.long 34], vm := .none },
  { cls := 16, slots := #[.long 35], vm := .none },
  { cls := 16, slots := #[.long 36], vm := .none },
  { cls := 16, slots := #[.long 37], vm := .none },
  { cls := 16, slots := #[.long 38], vm := .none },
  { cls := 16, slots := #[.long 39], vm := .none },
  { cls := 16, slots := #[.long 40], vm := .none },
  { cls := 16, slots := #[.long 41], vm := .none },
  { cls := 16, slots := #[.long 42], vm := .none },
  { cls := 16, slots := #[.long 43], vm := .none },
  { cls := 16, slots := #[.long 44], vm := .none },
  { cls := 16, slots := #[.long 45], vm := .none },
  { cls := 16, slots := #[.long 46], vm := .none },
  { cls := 16, slots := #[.long 47], vm := .none },
  { cls := 16, slots := #[.long 48], vm := .none },
  { cls := 16, slots := #[.long 49], vm := .none },
  { cls := 16, slots := #[.long 50], vm := .none },
  { cls := 16, slots := #[.long 51], vm := .none },
  { cls := 16, slots := #[.long 52], vm := .none },
  { cls := 16, slots := #[.long 53], vm := .none },
  { cls := 16, slots := #[.long 54], vm := .none },
  { cls := 16, slots := #[.long 55], vm := .none },
  { cls := 16, slots := #[.long 56], vm := .none },
  { cls := 16, slots := #[.long 57], vm := .none },
  { cls := 16, slots := #[.long 58], vm := .none },
  { cls := 16, slots := #[.long 59], vm := .none },
  { cls := 16, slots := #[.long 60], vm := .none },
  { cls := 16, slots := #[.long 61], vm := .none },
  { cls := 16, slots := #[.long 62], vm := .none },
  { cls := 16, slots := #[.long 63], vm := .none },
  { cls := 16, slots := #[.long 64], vm := .none },
  { cls := 16, slots := #[.long 65], vm := .none },
  { cls := 16, slots := #[.long 66], vm := .none },
  { cls := 16, slots := #[.long 67], vm := .none },
  { cls := 16, slots := #[.long 68], vm := .none },
  { cls := 16, slots := #[.long 69], vm := .none },
  { cls := 16, slots := #[.long 70], vm := .none },
  { cls := 16, slots := #[.long 71], vm := .none },
  { cls := 16, slots := #[.long 72], vm := .none },
  { cls := 16, slots := #[.long 73], vm := .none },
  { cls := 16, slots := #[.long 74], vm := .none },
  { cls := 16, slots := #[.long 75], vm := .none },
  { cls := 16, slots := #[.long 76], vm := .none },
  { cls := 16, slots := #[.long 77], vm := .none },
  { cls := 16, slots := #[.long 78], vm := .none },
  { cls := 16, slots := #[.long 79], vm := .none },
  { cls := 16, slots := #[.long 80], vm := .none },
  { cls := 16, slots := #[.long 81], vm := .none },
  { cls := 16, slots := #[.long 82], vm := .none },
  { cls := 16, slots := #[.long 83], vm := .none },
  { cls := 16, slots := #[.long 84], vm := .none },
  { cls := 16, slots := #[.long 85], vm := .none },
  { cls := 16, slots := #[.long 86], vm := .none },
  { cls := 16, slots := #[.long 87], vm := .none },
  { cls := 16, slots := #[.long 88], vm := .none },
  { cls := 16, slots := #[.long 89], vm := .none },
  { cls := 16, slots := #[.long 90], vm := .none },
  { cls := 16, slots := #[.long 91], vm := .none },
  { cls := 16, slots := #[.long 92], vm := .none },
  { cls := 16, slots := #[.long 93], vm := .none },
  { cls := 16, slots := #[.long 94], vm := .none },
  { cls := 16, slots := #[.long 95], vm := .none },
  { cls := 16, slots := #[.long 96], vm := .none },
  { cls := 16, slots := #[.long 97], vm := .none },
  { cls := 16, slots := #[.long 98], vm := .none },
  { cls := 16, slots := #[.long 99], vm := .none },
  { cls := 16, slots := #[.long 100], vm := .none },
  { cls := 16, slots := #[.long 101], vm := .none },
  { cls := 16, slots := #[.long 102], vm := .none },
  { cls := 16, slots := #[.long 103], vm := .none },
  { cls := 16, slots := #[.long 104], vm := .none },
  { cls := 16, slots := #[.long 105], vm := .none },
  { cls := 16, slots := #[.long 106], vm := .none },
  { cls := 16, slots := #[.long 107], vm := .none },
  { cls := 16, slots := #[.long 108], vm := .none },
  { cls := 16, slots := #[.long 109], vm := .none },
  { cls := 16, slots := #[.long 110], vm := .none },
  { cls := 16, slots := #[.long 111], vm := .none },
  { cls := 16, slots := #[.long 112], vm := .none },
  { cls := 16, slots := #[.long 113], vm := .none },
  { cls := 16, slots := #[.long 114], vm := .none },
  { cls := 16, slots := #[.long 115], vm := .none },
  { cls := 16, slots := #[.long 116], vm := .none },
  { cls := 16, slots := #[.long 117], vm := .none },
  { cls := 16, slots := #[.long 118], vm := .none },
  { cls := 16, slots := #[.long 119], vm := .none },
  { cls := 16, slots := #[.long 120], vm := .none },
  { cls := 16, slots := #[.long 121], vm := .none },
  { cls := 16, slots := #[.long 122], vm := .none },
  { cls := 16, slots := #[.long 123], vm := .none },
  { cls := 16, slots := #[.long 124], vm := .none },
  { cls := 16, slots := #[.long 125], vm := .none },
  { cls := 16, slots := #[.long 126], vm := .none },
  { cls := 16, slots := #[.long 127], vm := .none },
  { cls := 28, slots := #[], vm := .none },
  { cls := 28, slots := #[], vm := .none }]
def classes : Array Class := #[k0, k1, k2, k3, k4, k5, k6, k7, k8, k9, k10, k11, k12, k13, k14, k15, k16, k17, k18, k19, k20, k21, k22, k23, k24, k25, k26, k27, k28]
def interned : List (Array UInt16 × Addr) := []
def slotsUsed : Nat := 519
def theMethod : MethodId := ⟨1, 1⟩
def args0 : Array Value := #[.long 5, .long 6, .long 7, .int 8]
def aboutOver (below : List Frame) : State where
  vm := { classes := classes, interned := interned.toArray }
  heap := heap
  slotsUsed := slotsUsed
  threads := #[{ frames := .invoking theMethod args0 :: below }]
def below0 : List Frame := [.native { method := ⟨0, 0⟩, args := #[] }]
def about1 : State := aboutOver below0
def p0 : Program := .bare "" "" ""
def e0 : Env := launch0.env 0 0 0
theorem w_frames : about1.frames = Frame.invoking theMethod args0 :: below0 := rfl
set_option maxRecDepth 65536 in
theorem w_args : argsFit about1.vm theMethod args0 = true := by decide +kernel
set_option maxRecDepth 65536 in
theorem w_heap : heapFits about1 = true := by decide +kernel
set_option maxRecDepth 65536 in
theorem w_runnable : about1.curStatus? = some .runnable := by decide +kernel
set_option maxRecDepth 65536 in
theorem w_alone : about1.alone = true := by decide +kernel
set_option maxRecDepth 65536 in
theorem w_named : about1.methodNamed? x = some theMethod := by decide +kernel
set_option maxRecDepth 65536 in
theorem w_hears : about1.hears theMethod below0 = true := by decide +kernel
set_option maxRecDepth 65536 in
theorem w_ripe : about1.ripe theMethod args0 below0 = true := by decide +kernel
theorem w_running : about1.status = .running := rfl
set_option maxRecDepth 65536 in
theorem w_room : about1.hasRoom e0.platform room_1 = true :=
  launch0.hasRoom_least _ room_1 (by decide +kernel) (by decide +kernel) (by decide +kernel) (by decide +kernel) (by decide +kernel) (by decide +kernel)
theorem allAtoms_all (ts : List Jvm.Cond) (a : Array Jvm.Value) (st : Jvm.State) : (allAtoms ts).before a st = ts.all (fun c => c.before a st) := by
  induction ts with
  | nil => rfl
  | cons c t ih =>
    show (Jvm.Cond.and c (allAtoms t)).before a st = _
    rw [Jvm.Cond.before_and, ih, List.all_cons]
def words1 : List Jvm.Cond := Jvm.Cond.code x code maxLocals ret :: tables_1
/-- a 'code' word, met by the world's own term for the bytes: nothing is compared byte by byte -/
theorem code_word {y : MethodName} {bytes : ByteArray} {mx : Nat} {rt : Option FieldType} {a : Array Value} {s : State} {m : MethodId} {meth : Method} {c : Code} (h1 : s.methodNamed? y = some m) (h2 : s.vm.method? m = some meth) (h3 : meth.code = some c) (h4 : c.code = bytes)
    (h5 : (c.maxLocals == mx && c.exceptionTable.isEmpty && decide (c.maxStack ≤ mostOperands) && decide (meth.sig.returnType = rt) && !meth.locks && decide (parseMethodDescriptor y.desc = some meth.sig)) = true) : (Jvm.Cond.code y bytes mx rt).before a s = true := by
  simp only [Bool.and_eq_true, beq_iff_eq, Bool.not_eq_true', decide_eq_true_eq] at h5
  obtain ⟨⟨⟨⟨⟨g1, g2⟩, g3⟩, g4⟩, g5⟩, g6⟩ := h5
  simp [Cond.before, Cond.holds, Cond.value, h1, h2, h3, h4, g1, g2, g3, g4, g5, g6]
def isCode : Jvm.Cond → Bool
  | .code _ _ _ _ => true
  | _ => false
theorem all_split {L : List Jvm.Cond} {P : Jvm.Cond → Bool} (h1 : L.all (fun c => isCode c || P c) = true) (h2 : ∀ c ∈ L.filter isCode, P c = true) : L.all P = true := by
  refine List.all_eq_true.mpr fun c hc => ?_
  have h := List.all_eq_true.mp h1 c hc
  rcases Bool.eq_false_or_eq_true (isCode c) with hi | hi
  · exact h2 c (List.mem_filter.mpr ⟨hc, hi⟩)
  · simpa [hi] using h
set_option maxRecDepth 65536 in
theorem w_c0 : (Jvm.Cond.code x code maxLocals ret).before args0 about1 = true := code_word (m := ⟨1, 1⟩) (meth := k1m1) (c := k1c1) (by decide +kernel) rfl rfl rfl (by decide +kernel)
set_option maxRecDepth 65536 in
theorem w_c1 : (Jvm.Cond.code ({ cls := "java/util/ArrayList", name := "<init>", desc := "()V" } : Jvm.MethodName) jdk_38_method_2_code (1 : Nat) (Option.none : Option Jvm.ClassFile.FieldType)).before args0 about1 = true := code_word (m := ⟨11, 0⟩) (meth := k11m0) (c := k11c0) (by decide +kernel) rfl rfl rfl (by decide +kernel)
set_option maxRecDepth 65536 in
theorem w_c2 : (Jvm.Cond.code ({ cls := "java/util/AbstractList", name := "<init>", desc := "()V" } : Jvm.MethodName) jdk_39_method_1_code (1 : Nat) (Option.none : Option Jvm.ClassFile.FieldType)).before args0 about1 = true := code_word (m := ⟨7, 0⟩) (meth := k7m0) (c := k7c0) (by decide +kernel) rfl rfl rfl (by decide +kernel)
set_option maxRecDepth 65536 in
theorem w_c3 : (Jvm.Cond.code ({ cls := "java/util/AbstractCollection", name := "<init>", desc := "()V" } : Jvm.MethodName) jdk_22_method_1_code (1 : Nat) (Option.none : Option Jvm.ClassFile.FieldType)).before args0 about1 = true := code_word (m := ⟨4, 0⟩) (meth := k4m0) (c := k4c0) (by decide +kernel) rfl rfl rfl (by decide +kernel)
set_option maxRecDepth 65536 in
theorem w_c4 : (Jvm.Cond.code ({ cls := "java/lang/Object", name := "<init>", desc := "()V" } : Jvm.MethodName) object_method_1_code (1 : Nat) (Option.none : Option Jvm.ClassFile.FieldType)).before args0 about1 = true := code_word (m := ⟨0, 0⟩) (meth := k0m0) (c := k0c0) (by decide +kernel) rfl rfl rfl (by decide +kernel)
set_option maxRecDepth 65536 in
theorem w_c5 : (Jvm.Cond.code ({ cls := "java/lang/Long", name := "valueOf", desc := "(J)Ljava/lang/Long;" } : Jvm.MethodName) jdk_35_method_24_code (3 : Nat) (Option.some (Jvm.ClassFile.FieldType.object "java/lang/Long"))).before args0 about1 = true := code_word (m := ⟨16, 0⟩) (meth := k16m0) (c := k16c0) (by decide +kernel) rfl rfl rfl (by decide +kernel)
set_option maxRecDepth 65536 in
theorem w_c6 : (Jvm.Cond.code ({ cls := "java/util/ArrayList", name := "add", desc := "(Ljava/lang/Object;)Z" } : Jvm.MethodName) jdk_38_method_25_code (2 : Nat) (Option.some Jvm.ClassFile.FieldType.boolean)).before args0 about1 = true := code_word (m := ⟨11, 6⟩) (meth := k11m6) (c := k11c6) (by decide +kernel) rfl rfl rfl (by decide +kernel)
set_option maxRecDepth 65536 in
theorem w_c7 : (Jvm.Cond.code ({ cls := "java/util/ArrayList", name := "add", desc := "(Ljava/lang/Object;[Ljava/lang/Object;I)V" } : Jvm.MethodName) jdk_38_method_24_code (4 : Nat) (Option.none : Option Jvm.ClassFile.FieldType)).before args0 about1 = true := code_word (m := ⟨11, 5⟩) (meth := k11m5) (c := k11c5) (by decide +kernel) rfl rfl rfl (by decide +kernel)
set_option maxRecDepth 65536 in
theorem w_c8 : (Jvm.Cond.code ({ cls := "java/util/ArrayList", name := "grow", desc := "()[Ljava/lang/Object;" } : Jvm.MethodName) jdk_38_method_7_code (1 : Nat) (Option.some (Jvm.ClassFile.FieldType.array (Jvm.ClassFile.FieldType.object "java/lang/Object")))).before args0 about1 = true := code_word (m := ⟨11, 2⟩) (meth := k11m2) (c := k11c2) (by decide +kernel) rfl rfl rfl (by decide +kernel)
set_option maxRecDepth 65536 in
theorem w_c9 : (Jvm.Cond.code ({ cls := "java/util/ArrayList", name := "grow", desc := "(I)[Ljava/lang/Object;" } : Jvm.MethodName) jdk_38_method_6_code (4 : Nat) (Option.some (Jvm.ClassFile.FieldType.array (Jvm.ClassFile.FieldType.object "java/lang/Object")))).before args0 about1 = true := code_word (m := ⟨11, 1⟩) (meth := k11m1) (c := k11c1) (by decide +kernel) rfl rfl rfl (by decide +kernel)
set_option maxRecDepth 65536 in
theorem w_c10 : (Jvm.Cond.code ({ cls := "java/lang/Math", name := "max", desc := "(II)I" } : Jvm.MethodName) jdk_29_method_65_code (2 : Nat) (Option.some Jvm.ClassFile.FieldType.int)).before args0 about1 = true := code_word (m := ⟨18, 1⟩) (meth := k18m1) (c := k18c1) (by decide +kernel) rfl rfl rfl (by decide +kernel)
set_option maxRecDepth 65536 in
theorem w_c11 : (Jvm.Cond.code ({ cls := "com/example/horkos/horkos/internal/AcquireReply", name := "of", desc := "(Ljava/util/List;)Lcom/example/horkos/horkos/internal/AcquireReply;" } : Jvm.MethodName) prog_4_method_2_code (1 : Nat) (Option.some (Jvm.ClassFile.FieldType.object "com/example/horkos/horkos/internal/AcquireReply"))).before args0 about1 = true := code_word (m := ⟨20, 1⟩) (meth := k20m1) (c := k20c1) (by decide +kernel) rfl rfl rfl (by decide +kernel)
set_option maxRecDepth 65536 in
theorem w_c12 : (Jvm.Cond.code ({ cls := "java/util/ArrayList", name := "get", desc := "(I)Ljava/lang/Object;" } : Jvm.MethodName) jdk_38_method_20_code (2 : Nat) (Option.some (Jvm.ClassFile.FieldType.object "java/lang/Object"))).before args0 about1 = true := code_word (m := ⟨11, 4⟩) (meth := k11m4) (c := k11c4) (by decide +kernel) rfl rfl rfl (by decide +kernel)
set_option maxRecDepth 65536 in
theorem w_c13 : (Jvm.Cond.code ({ cls := "java/util/Objects", name := "checkIndex", desc := "(II)I" } : Jvm.MethodName) jdk_31_method_17_code (2 : Nat) (Option.some Jvm.ClassFile.FieldType.int)).before args0 about1 = true := code_word (m := ⟨21, 1⟩) (meth := k21m1) (c := k21c1) (by decide +kernel) rfl rfl rfl (by decide +kernel)
set_option maxRecDepth 65536 in
theorem w_c14 : (Jvm.Cond.code ({ cls := "jdk/internal/util/Preconditions", name := "checkIndex", desc := "(IILjava/util/function/BiFunction;)I" } : Jvm.MethodName) jdk_41_method_11_code (3 : Nat) (Option.some Jvm.ClassFile.FieldType.int)).before args0 about1 = true := code_word (m := ⟨22, 1⟩) (meth := k22m1) (c := k22c1) (by decide +kernel) rfl rfl rfl (by decide +kernel)
set_option maxRecDepth 65536 in
theorem w_c15 : (Jvm.Cond.code ({ cls := "java/util/ArrayList", name := "elementData", desc := "(I)Ljava/lang/Object;" } : Jvm.MethodName) jdk_38_method_18_code (2 : Nat) (Option.some (Jvm.ClassFile.FieldType.object "java/lang/Object"))).before args0 about1 = true := code_word (m := ⟨11, 3⟩) (meth := k11m3) (c := k11c3) (by decide +kernel) rfl rfl rfl (by decide +kernel)
set_option maxRecDepth 65536 in
theorem w_c16 : (Jvm.Cond.code ({ cls := "java/lang/Long", name := "longValue", desc := "()J" } : Jvm.MethodName) jdk_35_method_31_code (1 : Nat) (Option.some Jvm.ClassFile.FieldType.long)).before args0 about1 = true := code_word (m := ⟨16, 2⟩) (meth := k16m2) (c := k16c2) (by decide +kernel) rfl rfl rfl (by decide +kernel)
set_option maxRecDepth 65536 in
theorem w_c17 : (Jvm.Cond.code ({ cls := "com/example/horkos/horkos/internal/AcquireReply", name := "<init>", desc := "(JJ)V" } : Jvm.MethodName) prog_4_method_1_code (5 : Nat) (Option.none : Option Jvm.ClassFile.FieldType)).before args0 about1 = true := code_word (m := ⟨20, 0⟩) (meth := k20m0) (c := k20c0) (by decide +kernel) rfl rfl rfl (by decide +kernel)
set_option maxRecDepth 65536 in
theorem w_c18 : (Jvm.Cond.code ({ cls := "java/lang/Record", name := "<init>", desc := "()V" } : Jvm.MethodName) jdk_30_method_1_code (1 : Nat) (Option.none : Option Jvm.ClassFile.FieldType)).before args0 about1 = true := code_word (m := ⟨19, 0⟩) (meth := k19m0) (c := k19c0) (by decide +kernel) rfl rfl rfl (by decide +kernel)
set_option maxRecDepth 65536 in
theorem w_c19 : (Jvm.Cond.code ({ cls := "com/example/horkos/horkos/internal/AcquireReply", name := "holds", desc := "()J" } : Jvm.MethodName) prog_4_method_6_code (1 : Nat) (Option.some Jvm.ClassFile.FieldType.long)).before args0 about1 = true := code_word (m := ⟨20, 2⟩) (meth := k20m2) (c := k20c2) (by decide +kernel) rfl rfl rfl (by decide +kernel)
set_option maxRecDepth 65536 in
theorem w_c20 : (Jvm.Cond.code ({ cls := "com/example/horkos/horkos/internal/AcquireReply", name := "token", desc := "()J" } : Jvm.MethodName) prog_4_method_7_code (1 : Nat) (Option.some Jvm.ClassFile.FieldType.long)).before args0 about1 = true := code_word (m := ⟨20, 3⟩) (meth := k20m3) (c := k20c3) (by decide +kernel) rfl rfl rfl (by decide +kernel)
set_option maxRecDepth 65536 in
theorem w_c21 : (Jvm.Cond.code ({ cls := "java/lang/Long", name := "<init>", desc := "(J)V" } : Jvm.MethodName) jdk_35_method_26_code (3 : Nat) (Option.none : Option Jvm.ClassFile.FieldType)).before args0 about1 = true := code_word (m := ⟨16, 1⟩) (meth := k16m1) (c := k16c1) (by decide +kernel) rfl rfl rfl (by decide +kernel)
set_option maxRecDepth 65536 in
theorem w_c22 : (Jvm.Cond.code ({ cls := "java/lang/Number", name := "<init>", desc := "()V" } : Jvm.MethodName) jdk_18_method_1_code (1 : Nat) (Option.none : Option Jvm.ClassFile.FieldType)).before args0 about1 = true := code_word (m := ⟨12, 0⟩) (meth := k12m0) (c := k12c0) (by decide +kernel) rfl rfl rfl (by decide +kernel)
def codes1 : List Jvm.Cond := [Jvm.Cond.code x code maxLocals ret, Jvm.Cond.code ({ cls := "java/util/ArrayList", name := "<init>", desc := "()V" } : Jvm.MethodName) jdk_38_method_2_code (1 : Nat) (Option.none : Option Jvm.ClassFile.FieldType), Jvm.Cond.code ({ cls := "java/util/AbstractList", name := "<init>", desc := "()V" } : Jvm.MethodName) jdk_39_method_1_code (1 : Nat) (Option.none : Option Jvm.ClassFile.FieldType), Jvm.Cond.code ({ cls := "java/util/AbstractCollection", name := "<init>", desc := "()V" } : Jvm.MethodName) jdk_22_method_1_code (1 : Nat) (Option.none : Option Jvm.ClassFile.FieldType), Jvm.Cond.code ({ cls := "java/lang/Object", name := "<init>", desc := "()V" } : Jvm.MethodName) object_method_1_code (1 : Nat) (Option.none : Option Jvm.ClassFile.FieldType), Jvm.Cond.code ({ cls := "java/lang/Long", name := "valueOf", desc := "(J)Ljava/lang/Long;" } : Jvm.MethodName) jdk_35_method_24_code (3 : Nat) (Option.some (Jvm.ClassFile.FieldType.object "java/lang/Long")), Jvm.Cond.code ({ cls := "java/util/ArrayList", name := "add", desc := "(Ljava/lang/Object;)Z" } : Jvm.MethodName) jdk_38_method_25_code (2 : Nat) (Option.some Jvm.ClassFile.FieldType.boolean), Jvm.Cond.code ({ cls := "java/util/ArrayList", name := "add", desc := "(Ljava/lang/Object;[Ljava/lang/Object;I)V" } : Jvm.MethodName) jdk_38_method_24_code (4 : Nat) (Option.none : Option Jvm.ClassFile.FieldType), Jvm.Cond.code ({ cls := "java/util/ArrayList", name := "grow", desc := "()[Ljava/lang/Object;" } : Jvm.MethodName) jdk_38_method_7_code (1 : Nat) (Option.some (Jvm.ClassFile.FieldType.array (Jvm.ClassFile.FieldType.object "java/lang/Object"))), Jvm.Cond.code ({ cls := "java/util/ArrayList", name := "grow", desc := "(I)[Ljava/lang/Object;" } : Jvm.MethodName) jdk_38_method_6_code (4 : Nat) (Option.some (Jvm.ClassFile.FieldType.array (Jvm.ClassFile.FieldType.object "java/lang/Object"))), Jvm.Cond.code ({ cls := "java/lang/Math", name := "max", desc := "(II)I" } : Jvm.MethodName) jdk_29_method_65_code (2 : Nat) (Option.some Jvm.ClassFile.FieldType.int), Jvm.Cond.code ({ cls := "com/example/horkos/horkos/internal/AcquireReply", name := "of", desc := "(Ljava/util/List;)Lcom/example/horkos/horkos/internal/AcquireReply;" } : Jvm.MethodName) prog_4_method_2_code (1 : Nat) (Option.some (Jvm.ClassFile.FieldType.object "com/example/horkos/horkos/internal/AcquireReply")), Jvm.Cond.code ({ cls := "java/util/ArrayList", name := "get", desc := "(I)Ljava/lang/Object;" } : Jvm.MethodName) jdk_38_method_20_code (2 : Nat) (Option.some (Jvm.ClassFile.FieldType.object "java/lang/Object")), Jvm.Cond.code ({ cls := "java/util/Objects", name := "checkIndex", desc := "(II)I" } : Jvm.MethodName) jdk_31_method_17_code (2 : Nat) (Option.some Jvm.ClassFile.FieldType.int), Jvm.Cond.code ({ cls := "jdk/internal/util/Preconditions", name := "checkIndex", desc := "(IILjava/util/function/BiFunction;)I" } : Jvm.MethodName) jdk_41_method_11_code (3 : Nat) (Option.some Jvm.ClassFile.FieldType.int), Jvm.Cond.code ({ cls := "java/util/ArrayList", name := "elementData", desc := "(I)Ljava/lang/Object;" } : Jvm.MethodName) jdk_38_method_18_code (2 : Nat) (Option.some (Jvm.ClassFile.FieldType.object "java/lang/Object")), Jvm.Cond.code ({ cls := "java/lang/Long", name := "longValue", desc := "()J" } : Jvm.MethodName) jdk_35_method_31_code (1 : Nat) (Option.some Jvm.ClassFile.FieldType.long), Jvm.Cond.code ({ cls := "com/example/horkos/horkos/internal/AcquireReply", name := "<init>", desc := "(JJ)V" } : Jvm.MethodName) prog_4_method_1_code (5 : Nat) (Option.none : Option Jvm.ClassFile.FieldType), Jvm.Cond.code ({ cls := "java/lang/Record", name := "<init>", desc := "()V" } : Jvm.MethodName) jdk_30_method_1_code (1 : Nat) (Option.none : Option Jvm.ClassFile.FieldType), Jvm.Cond.code ({ cls := "com/example/horkos/horkos/internal/AcquireReply", name := "holds", desc := "()J" } : Jvm.MethodName) prog_4_method_6_code (1 : Nat) (Option.some Jvm.ClassFile.FieldType.long), Jvm.Cond.code ({ cls := "com/example/horkos/horkos/internal/AcquireReply", name := "token", desc := "()J" } : Jvm.MethodName) prog_4_method_7_code (1 : Nat) (Option.some Jvm.ClassFile.FieldType.long), Jvm.Cond.code ({ cls := "java/lang/Long", name := "<init>", desc := "(J)V" } : Jvm.MethodName) jdk_35_method_26_code (3 : Nat) (Option.none : Option Jvm.ClassFile.FieldType), Jvm.Cond.code ({ cls := "java/lang/Number", name := "<init>", desc := "()V" } : Jvm.MethodName) jdk_18_method_1_code (1 : Nat) (Option.none : Option Jvm.ClassFile.FieldType)]
set_option maxRecDepth 65536 in
theorem codes_eq : words1.filter isCode = codes1 := rfl
theorem w_codes : ∀ c ∈ words1.filter isCode, c.before args0 about1 = true := by
  rw [codes_eq]
  intro c hc
  simp only [codes1, List.mem_cons, List.not_mem_nil, or_false] at hc
  rcases hc with rfl | rfl | rfl | rfl | rfl | rfl | rfl | rfl | rfl | rfl | rfl | rfl | rfl | rfl | rfl | rfl | rfl | rfl | rfl | rfl | rfl | rfl | rfl
  · exact w_c0
  · exact w_c1
  · exact w_c2
  · exact w_c3
  · exact w_c4
  · exact w_c5
  · exact w_c6
  · exact w_c7
  · exact w_c8
  · exact w_c9
  · exact w_c10
  · exact w_c11
  · exact w_c12
  · exact w_c13
  · exact w_c14
  · exact w_c15
  · exact w_c16
  · exact w_c17
  · exact w_c18
  · exact w_c19
  · exact w_c20
  · exact w_c21
  · exact w_c22
set_option maxRecDepth 65536 in
theorem w_t1 : (words1.take 24).all (fun c => isCode c || c.before args0 about1) = true := by decide +kernel
set_option maxRecDepth 65536 in
theorem w_t2 : ((words1.drop 24).take 24).all (fun c => isCode c || c.before args0 about1) = true := by decide +kernel
set_option maxRecDepth 65536 in
theorem w_t3 : (((words1.drop 24).drop 24).take 24).all (fun c => isCode c || c.before args0 about1) = true := by decide +kernel
set_option maxRecDepth 65536 in
theorem w_t4 : ((((words1.drop 24).drop 24).drop 24).take 24).all (fun c => isCode c || c.before args0 about1) = true := by decide +kernel
set_option maxRecDepth 65536 in
theorem w_t5 : (((((words1.drop 24).drop 24).drop 24).drop 24).take 24).all (fun c => isCode c || c.before args0 about1) = true := by decide +kernel
set_option maxRecDepth 65536 in
theorem w_t6 : (((((words1.drop 24).drop 24).drop 24).drop 24).drop 24).all (fun c => isCode c || c.before args0 about1) = true := by decide +kernel
theorem w_tables : (allAtoms (Jvm.Cond.code x code maxLocals ret :: tables_1)).before args0 about1 = true := by
  rw [allAtoms_all]
  show words1.all (fun c => c.before args0 about1) = true
  refine all_split ?_ w_codes
  rw [← List.take_append_drop 24 words1, List.all_append, w_t1, ← List.take_append_drop 24 (words1.drop 24), List.all_append, w_t2, ← List.take_append_drop 24 ((words1.drop 24).drop 24), List.all_append, w_t3, ← List.take_append_drop 24 (((words1.drop 24).drop 24).drop 24), List.all_append, w_t4, ← List.take_append_drop 24 ((((words1.drop 24).drop 24).drop 24).drop 24), List.all_append, w_t5, w_t6]
  rfl
set_option maxRecDepth 65536 in
theorem w_rest : rest_1_c.before args0 about1 = true := by decide +kernel
set_option maxRecDepth 65536 in
theorem w_case : (Jvm.Cond.and given_1 narrow_1).before args0 about1 = true := by decide +kernel
theorem w_applies : (headSpec (Jvm.Cond.code x code maxLocals ret :: tables_1) room_1).applies x e0.platform about1 = true :=
  (Spec.applies_iff w_frames).mpr ⟨w_running, w_runnable, w_alone, w_named, w_hears, w_ripe, w_room, w_tables⟩
theorem atStart : AtStart classFile x code maxLocals ret World_1 tables_1 room_1 Calls_1 rest_1 Pre_1 launch0 p0 e0 about1 theMethod args0 below0 :=
  ⟨lists_1, trivial, launch0.admits_env _ _ _, launch0.least_env, fairChoices_fair.cas, fairChoices_fair.clock, w_frames, w_args, w_heap, w_applies, trivial, w_rest, w_case⟩
end start1
theorem witness_1 : WitnessClaimed_1 := ⟨start1.p0, start1.e0, start1.about1, start1.theMethod, start1.args0, start1.below0, start1.atStart⟩
end Jvm.Pilot.@@N@@
