import JvmDerived
import JvmDerived.Pilot.@@N@@Statement
import JvmDerived.Pilot.@@N@@Code
set_option linter.unusedVariables false
set_option linter.unusedSimpArgs false
namespace Jvm.RoadKit
open Sem ClassFile Op Lib Jvm.Stand Jvm.Free Jvm.LawKit
section New
variable {p : Program} {l : Launch} {e : Env} {R : Room} {s : State} {m : MethodId} {args : Array Value} {below : List Frame} {meth : Method} {c : Code} {T : State} {locs : List Loc} {cells slots : Nat}
theorem retI (X : Stand p l e R s m args below meth c T locs cells slots) (hx : p.tables.exec = Jvm.exec) {pc : Nat} {Ls : Array Slot} {z : Int32} {rest : List Value} (hret : meth.sig.returnType = some .int) (hd : decode c.code pc = .ok (.ireturn, 1)) {fs : List Frame}
    (hl : ∀ (f : JFrame) (acts : List Action), f.method = m → f.locked = none → f.entered = [] → (doReturn e (T.setTop f) acts (some (.int z))).1 = T.setFrames fs) : Steps p.tables e below (T.setTop (mkF m pc Ls (.int z :: rest))) (T.setFrames fs) := by
  have hm' : T.vm.method? m = some meth := X.method'
  have hn : narrow .int (.int z) = .int z := rfl
  show Steps p.tables e below (T.setTop { method := m, pc := pc, locals := Ls, stack := _ :: rest, locked := none }) _
  jvm_step X.here [X.here.top, hx, hd, hm', hret, hn]
  first | (intro acts; rw [hl _ acts rfl rfl rfl]) | rw [hl _ _ rfl rfl rfl]
  exact Steps.refl _
end New
end Jvm.RoadKit
namespace Jvm.Pilot.@@N@@
open Jvm Jvm.ClassFile Sem Op Lib Jvm.Free Jvm.Stand Jvm.LawKit Jvm.RoadKit Bundle Jvm.Pilot.@@N@@.Jvm.D
theorem own_m {α : Type} {L : List α} {x : α} (i : Nat) (h : L[i]? = some x) : x ∈ L := List.mem_of_getElem? h
theorem own_top {tb : Tables} {e : Env} {below : List Frame} {T t : State} {m : MethodId} {pc : Nat} {Ls : Array Slot} {v v' : Value} {rest : List Value} (q : v = v') (k : Steps tb e below (T.setTop (mkF m pc Ls (v' :: rest))) t) : Steps tb e below (T.setTop (mkF m pc Ls (v :: rest))) t := q ▸ k
theorem own_le {Z : State} {n0 : Nat} {h : Heap} (O : Old Z n0 h) : n0 ≤ h.size := O.1 ▸ O.2.1
theorem own_eqI {args : Array Value} {first s : State} {o : Option Outcome} {idx : List Nat} {t : Term} {k : Int32} (h : (Jvm.Cond.eq t (.int k)).value args first o s idx = some true) : t.eval args first o idx s = some (.int k) := by
  cases ht : t.eval args first o idx s with
  | none => simp [Cond.value, Term.eval, ht] at h
  | some x => cases x <;> simp [Cond.value, Term.eval, ht] at h ⊢; exact h
theorem own_eqJ {args : Array Value} {first s : State} {o : Option Outcome} {idx : List Nat} {t : Term} {k : Int64} (h : (Jvm.Cond.eq t (.long k)).value args first o s idx = some true) : t.eval args first o idx s = some (.long k) := by
  cases ht : t.eval args first o idx s with
  | none => simp [Cond.value, Term.eval, ht] at h
  | some x => cases x <;> simp [Cond.value, Term.eval, ht] at h ⊢; exact h
theorem own_eqR {args : Array Value} {first s : State} {o : Option Outcome} {idx : List Nat} {t u : Term} {b : Addr} (h : (Jvm.Cond.eq t u).value args first o s idx = some true) (hu : u.eval args first o idx s = some (.ref b)) : t.eval args first o idx s = some (.ref b) := by
  cases ht : t.eval args first o idx s with
  | none => simp [Cond.value, ht] at h
  | some x => cases x <;> simp [Cond.value, ht, hu] at h ⊢; exact h
def own_En (Z : State) (h : Heap) (C f d : String) (w : Addr) (k : Int32) : Prop := Sta Z h C f d (.ref w) ∧ Exa Z h w C ∧ Fld Z h w "java/lang/Enum" "ordinal" "I" (.int k)
theorem own_d1_0 : decode method_2_code 0 = .ok (.iload_n 0, 1) := by decide +kernel
theorem own_d1_1 : decode method_2_code 1 = .ok (.ifCond .ne 7, 3) := by decide +kernel
theorem own_d1_4 : decode method_2_code 4 = .ok (.getstatic 7, 3) := by decide +kernel
theorem own_d1_7 : decode method_2_code 7 = .ok (.areturn, 1) := by decide +kernel
theorem own_d1_8 : decode method_2_code 8 = .ok (.iload_n 0, 1) := by decide +kernel
theorem own_d1_9 : decode method_2_code 9 = .ok (.iconst 1, 1) := by decide +kernel
theorem own_d1_10 : decode method_2_code 10 = .ok (.if_icmp .ne 7, 3) := by decide +kernel
theorem own_d1_13 : decode method_2_code 13 = .ok (.getstatic 13, 3) := by decide +kernel
theorem own_d1_16 : decode method_2_code 16 = .ok (.areturn, 1) := by decide +kernel
theorem own_d1_17 : decode method_2_code 17 = .ok (.iload_n 0, 1) := by decide +kernel
theorem own_d1_18 : decode method_2_code 18 = .ok (.iconst 2, 1) := by decide +kernel
theorem own_d1_19 : decode method_2_code 19 = .ok (.if_icmp .ne 7, 3) := by decide +kernel
theorem own_d1_22 : decode method_2_code 22 = .ok (.getstatic 16, 3) := by decide +kernel
theorem own_d1_25 : decode method_2_code 25 = .ok (.areturn, 1) := by decide +kernel
theorem own_d1_26 : decode method_2_code 26 = .ok (.iload_n 0, 1) := by decide +kernel
theorem own_d1_27 : decode method_2_code 27 = .ok (.iconst 3, 1) := by decide +kernel
theorem own_d1_28 : decode method_2_code 28 = .ok (.if_icmp .ne 7, 3) := by decide +kernel
theorem own_d1_31 : decode method_2_code 31 = .ok (.getstatic 19, 3) := by decide +kernel
theorem own_d1_34 : decode method_2_code 34 = .ok (.areturn, 1) := by decide +kernel
theorem own_d1_35 : decode method_2_code 35 = .ok (.iload_n 0, 1) := by decide +kernel
theorem own_d1_36 : decode method_2_code 36 = .ok (.iconst 4, 1) := by decide +kernel
theorem own_d1_37 : decode method_2_code 37 = .ok (.if_icmp .ne 7, 3) := by decide +kernel
theorem own_d1_40 : decode method_2_code 40 = .ok (.getstatic 22, 3) := by decide +kernel
theorem own_d1_43 : decode method_2_code 43 = .ok (.areturn, 1) := by decide +kernel
theorem own_d1_44 : decode method_2_code 44 = .ok (.iload_n 0, 1) := by decide +kernel
theorem own_d1_45 : decode method_2_code 45 = .ok (.iconst 5, 1) := by decide +kernel
theorem own_d1_46 : decode method_2_code 46 = .ok (.if_icmp .ne 7, 3) := by decide +kernel
theorem own_d1_49 : decode method_2_code 49 = .ok (.getstatic 25, 3) := by decide +kernel
theorem own_d1_52 : decode method_2_code 52 = .ok (.areturn, 1) := by decide +kernel
theorem own_d1_53 : decode method_2_code 53 = .ok (.iload_n 0, 1) := by decide +kernel
theorem own_d1_54 : decode method_2_code 54 = .ok (.bipush 6, 2) := by decide +kernel
theorem own_d1_56 : decode method_2_code 56 = .ok (.if_icmp .ne 7, 3) := by decide +kernel
theorem own_d1_59 : decode method_2_code 59 = .ok (.getstatic 28, 3) := by decide +kernel
theorem own_d1_62 : decode method_2_code 62 = .ok (.areturn, 1) := by decide +kernel
theorem own_d1_63 : decode method_2_code 63 = .ok (.getstatic 31, 3) := by decide +kernel
theorem own_d1_66 : decode method_2_code 66 = .ok (.areturn, 1) := by decide +kernel
theorem own_d2_0 : decode prog_117_method_1_code 0 = .ok (.aload_n 0, 1) := by decide +kernel
theorem own_d2_1 : decode prog_117_method_1_code 1 = .ok (.invokespecial 1, 3) := by decide +kernel
theorem own_d2_4 : decode prog_117_method_1_code 4 = .ok (.aload_n 0, 1) := by decide +kernel
theorem own_d2_5 : decode prog_117_method_1_code 5 = .ok (.bipush 16, 2) := by decide +kernel
theorem own_d2_7 : decode prog_117_method_1_code 7 = .ok (.anewarray 7, 3) := by decide +kernel
theorem own_d2_10 : decode prog_117_method_1_code 10 = .ok (.putfield 9, 3) := by decide +kernel
theorem own_d2_13 : decode prog_117_method_1_code 13 = .ok (.aload_n 0, 1) := by decide +kernel
theorem own_d2_14 : decode prog_117_method_1_code 14 = .ok (.bipush 16, 2) := by decide +kernel
theorem own_d2_16 : decode prog_117_method_1_code 16 = .ok (.newarray .int, 2) := by decide +kernel
theorem own_d2_18 : decode prog_117_method_1_code 18 = .ok (.putfield 15, 3) := by decide +kernel
theorem own_d2_21 : decode prog_117_method_1_code 21 = .ok (.aload_n 0, 1) := by decide +kernel
theorem own_d2_22 : decode prog_117_method_1_code 22 = .ok (.bipush 16, 2) := by decide +kernel
theorem own_d2_24 : decode prog_117_method_1_code 24 = .ok (.newarray .int, 2) := by decide +kernel
theorem own_d2_26 : decode prog_117_method_1_code 26 = .ok (.putfield 19, 3) := by decide +kernel
theorem own_d2_29 : decode prog_117_method_1_code 29 = .ok (.aload_n 0, 1) := by decide +kernel
theorem own_d2_30 : decode prog_117_method_1_code 30 = .ok (.new 22, 3) := by decide +kernel
theorem own_d2_33 : decode prog_117_method_1_code 33 = .ok (.dup, 1) := by decide +kernel
theorem own_d2_34 : decode prog_117_method_1_code 34 = .ok (.invokespecial 24, 3) := by decide +kernel
theorem own_d2_37 : decode prog_117_method_1_code 37 = .ok (.putfield 25, 3) := by decide +kernel
theorem own_d2_40 : decode prog_117_method_1_code 40 = .ok (.aload_n 0, 1) := by decide +kernel
theorem own_d2_41 : decode prog_117_method_1_code 41 = .ok (.iload_n 1, 1) := by decide +kernel
theorem own_d2_42 : decode prog_117_method_1_code 42 = .ok (.putfield 29, 3) := by decide +kernel
theorem own_d2_45 : decode prog_117_method_1_code 45 = .ok (.return_, 1) := by decide +kernel
theorem own_d4_0 : decode jdk_38_method_2_code 0 = .ok (.aload_n 0, 1) := by decide +kernel
theorem own_d4_1 : decode jdk_38_method_2_code 1 = .ok (.invokespecial 1, 3) := by decide +kernel
theorem own_d4_4 : decode jdk_38_method_2_code 4 = .ok (.aload_n 0, 1) := by decide +kernel
theorem own_d4_5 : decode jdk_38_method_2_code 5 = .ok (.getstatic 39, 3) := by decide +kernel
theorem own_d4_8 : decode jdk_38_method_2_code 8 = .ok (.putfield 9, 3) := by decide +kernel
theorem own_d4_11 : decode jdk_38_method_2_code 11 = .ok (.return_, 1) := by decide +kernel
theorem own_d5_0 : decode jdk_39_method_1_code 0 = .ok (.aload_n 0, 1) := by decide +kernel
theorem own_d5_1 : decode jdk_39_method_1_code 1 = .ok (.invokespecial 1, 3) := by decide +kernel
theorem own_d5_4 : decode jdk_39_method_1_code 4 = .ok (.aload_n 0, 1) := by decide +kernel
theorem own_d5_5 : decode jdk_39_method_1_code 5 = .ok (.iconst 0, 1) := by decide +kernel
theorem own_d5_6 : decode jdk_39_method_1_code 6 = .ok (.putfield 7, 3) := by decide +kernel
theorem own_d5_9 : decode jdk_39_method_1_code 9 = .ok (.return_, 1) := by decide +kernel
theorem own_d6_0 : decode jdk_22_method_1_code 0 = .ok (.aload_n 0, 1) := by decide +kernel
theorem own_d6_1 : decode jdk_22_method_1_code 1 = .ok (.invokespecial 1, 3) := by decide +kernel
theorem own_d6_4 : decode jdk_22_method_1_code 4 = .ok (.return_, 1) := by decide +kernel
theorem own_d7_0 : decode prog_117_method_3_code 0 = .ok (.aload_n 0, 1) := by decide +kernel
theorem own_d7_1 : decode prog_117_method_3_code 1 = .ok (.lconst 1, 1) := by decide +kernel
theorem own_d7_2 : decode prog_117_method_3_code 2 = .ok (.invokevirtual 36, 3) := by decide +kernel
theorem own_d7_5 : decode prog_117_method_3_code 5 = .ok (.aload_n 0, 1) := by decide +kernel
theorem own_d7_6 : decode prog_117_method_3_code 6 = .ok (.getfield 9, 3) := by decide +kernel
theorem own_d7_9 : decode prog_117_method_3_code 9 = .ok (.aload_n 0, 1) := by decide +kernel
theorem own_d7_10 : decode prog_117_method_3_code 10 = .ok (.getfield 33, 3) := by decide +kernel
theorem own_d7_13 : decode prog_117_method_3_code 13 = .ok (.aload_n 1, 1) := by decide +kernel
theorem own_d7_14 : decode prog_117_method_3_code 14 = .ok (.aastore, 1) := by decide +kernel
theorem own_d7_15 : decode prog_117_method_3_code 15 = .ok (.aload_n 0, 1) := by decide +kernel
theorem own_d7_16 : decode prog_117_method_3_code 16 = .ok (.getfield 15, 3) := by decide +kernel
theorem own_d7_19 : decode prog_117_method_3_code 19 = .ok (.aload_n 0, 1) := by decide +kernel
theorem own_d7_20 : decode prog_117_method_3_code 20 = .ok (.getfield 33, 3) := by decide +kernel
theorem own_d7_23 : decode prog_117_method_3_code 23 = .ok (.iload_n 2, 1) := by decide +kernel
theorem own_d7_24 : decode prog_117_method_3_code 24 = .ok (.iastore, 1) := by decide +kernel
theorem own_d7_25 : decode prog_117_method_3_code 25 = .ok (.aload_n 0, 1) := by decide +kernel
theorem own_d7_26 : decode prog_117_method_3_code 26 = .ok (.getfield 19, 3) := by decide +kernel
theorem own_d7_29 : decode prog_117_method_3_code 29 = .ok (.aload_n 0, 1) := by decide +kernel
theorem own_d7_30 : decode prog_117_method_3_code 30 = .ok (.getfield 33, 3) := by decide +kernel
theorem own_d7_33 : decode prog_117_method_3_code 33 = .ok (.iload_n 3, 1) := by decide +kernel
theorem own_d7_34 : decode prog_117_method_3_code 34 = .ok (.iastore, 1) := by decide +kernel
theorem own_d7_35 : decode prog_117_method_3_code 35 = .ok (.aload_n 0, 1) := by decide +kernel
theorem own_d7_36 : decode prog_117_method_3_code 36 = .ok (.dup, 1) := by decide +kernel
theorem own_d7_37 : decode prog_117_method_3_code 37 = .ok (.getfield 33, 3) := by decide +kernel
theorem own_d7_40 : decode prog_117_method_3_code 40 = .ok (.dup_x1, 1) := by decide +kernel
theorem own_d7_41 : decode prog_117_method_3_code 41 = .ok (.iconst 1, 1) := by decide +kernel
theorem own_d7_42 : decode prog_117_method_3_code 42 = .ok (.iadd, 1) := by decide +kernel
theorem own_d7_43 : decode prog_117_method_3_code 43 = .ok (.putfield 33, 3) := by decide +kernel
theorem own_d7_46 : decode prog_117_method_3_code 46 = .ok (.ireturn, 1) := by decide +kernel
theorem own_d8_0 : decode prog_117_method_9_code 0 = .ok (.aload_n 0, 1) := by decide +kernel
theorem own_d8_1 : decode prog_117_method_9_code 1 = .ok (.getfield 33, 3) := by decide +kernel
theorem own_d8_4 : decode prog_117_method_9_code 4 = .ok (.i2l, 1) := by decide +kernel
theorem own_d8_5 : decode prog_117_method_9_code 5 = .ok (.lload_n 1, 1) := by decide +kernel
theorem own_d8_6 : decode prog_117_method_9_code 6 = .ok (.ladd, 1) := by decide +kernel
theorem own_d8_7 : decode prog_117_method_9_code 7 = .ok (.aload_n 0, 1) := by decide +kernel
theorem own_d8_8 : decode prog_117_method_9_code 8 = .ok (.getfield 29, 3) := by decide +kernel
theorem own_d8_11 : decode prog_117_method_9_code 11 = .ok (.i2l, 1) := by decide +kernel
theorem own_d8_12 : decode prog_117_method_9_code 12 = .ok (.lcmp, 1) := by decide +kernel
theorem own_d8_13 : decode prog_117_method_9_code 13 = .ok (.ifCond .le 20, 3) := by decide +kernel
theorem own_d8_33 : decode prog_117_method_9_code 33 = .ok (.aload_n 0, 1) := by decide +kernel
theorem own_d8_34 : decode prog_117_method_9_code 34 = .ok (.getfield 33, 3) := by decide +kernel
theorem own_d8_37 : decode prog_117_method_9_code 37 = .ok (.i2l, 1) := by decide +kernel
theorem own_d8_38 : decode prog_117_method_9_code 38 = .ok (.lload_n 1, 1) := by decide +kernel
theorem own_d8_39 : decode prog_117_method_9_code 39 = .ok (.ladd, 1) := by decide +kernel
theorem own_d8_40 : decode prog_117_method_9_code 40 = .ok (.aload_n 0, 1) := by decide +kernel
theorem own_d8_41 : decode prog_117_method_9_code 41 = .ok (.getfield 9, 3) := by decide +kernel
theorem own_d8_44 : decode prog_117_method_9_code 44 = .ok (.arraylength, 1) := by decide +kernel
theorem own_d8_45 : decode prog_117_method_9_code 45 = .ok (.i2l, 1) := by decide +kernel
theorem own_d8_46 : decode prog_117_method_9_code 46 = .ok (.lcmp, 1) := by decide +kernel
theorem own_d8_47 : decode prog_117_method_9_code 47 = .ok (.ifCond .le 72, 3) := by decide +kernel
theorem own_d8_119 : decode prog_117_method_9_code 119 = .ok (.return_, 1) := by decide +kernel
theorem own_d9_0 : decode prog_117_method_5_code 0 = .ok (.aload_n 0, 1) := by decide +kernel
theorem own_d9_1 : decode prog_117_method_5_code 1 = .ok (.getfield 9, 3) := by decide +kernel
theorem own_d9_4 : decode prog_117_method_5_code 4 = .ok (.iload_n 1, 1) := by decide +kernel
theorem own_d9_5 : decode prog_117_method_5_code 5 = .ok (.aload_n 2, 1) := by decide +kernel
theorem own_d9_6 : decode prog_117_method_5_code 6 = .ok (.aastore, 1) := by decide +kernel
theorem own_d9_7 : decode prog_117_method_5_code 7 = .ok (.aload_n 0, 1) := by decide +kernel
theorem own_d9_8 : decode prog_117_method_5_code 8 = .ok (.getfield 15, 3) := by decide +kernel
theorem own_d9_11 : decode prog_117_method_5_code 11 = .ok (.iload_n 1, 1) := by decide +kernel
theorem own_d9_12 : decode prog_117_method_5_code 12 = .ok (.iload_n 3, 1) := by decide +kernel
theorem own_d9_13 : decode prog_117_method_5_code 13 = .ok (.iastore, 1) := by decide +kernel
theorem own_d9_14 : decode prog_117_method_5_code 14 = .ok (.aload_n 0, 1) := by decide +kernel
theorem own_d9_15 : decode prog_117_method_5_code 15 = .ok (.getfield 19, 3) := by decide +kernel
theorem own_d9_18 : decode prog_117_method_5_code 18 = .ok (.iload_n 1, 1) := by decide +kernel
theorem own_d9_19 : decode prog_117_method_5_code 19 = .ok (.iload 4, 2) := by decide +kernel
theorem own_d9_21 : decode prog_117_method_5_code 21 = .ok (.iastore, 1) := by decide +kernel
theorem own_d9_22 : decode prog_117_method_5_code 22 = .ok (.return_, 1) := by decide +kernel
theorem own_d10_0 : decode prog_117_method_10_code 0 = .ok (.aload_n 0, 1) := by decide +kernel
theorem own_d10_1 : decode prog_117_method_10_code 1 = .ok (.getstatic 96, 3) := by decide +kernel
theorem own_d10_4 : decode prog_117_method_10_code 4 = .ok (.iconst 0, 1) := by decide +kernel
theorem own_d10_5 : decode prog_117_method_10_code 5 = .ok (.iconst 0, 1) := by decide +kernel
theorem own_d10_6 : decode prog_117_method_10_code 6 = .ok (.invokevirtual 53, 3) := by decide +kernel
theorem own_d10_9 : decode prog_117_method_10_code 9 = .ok (.pop, 1) := by decide +kernel
theorem own_d10_10 : decode prog_117_method_10_code 10 = .ok (.iconst 0, 1) := by decide +kernel
theorem own_d10_11 : decode prog_117_method_10_code 11 = .ok (.istore_n 1, 1) := by decide +kernel
theorem own_d10_12 : decode prog_117_method_10_code 12 = .ok (.iconst 0, 1) := by decide +kernel
theorem own_d10_13 : decode prog_117_method_10_code 13 = .ok (.istore_n 2, 1) := by decide +kernel
theorem own_d10_14 : decode prog_117_method_10_code 14 = .ok (.iload_n 2, 1) := by decide +kernel
theorem own_d10_15 : decode prog_117_method_10_code 15 = .ok (.aload_n 0, 1) := by decide +kernel
theorem own_d10_16 : decode prog_117_method_10_code 16 = .ok (.getfield 33, 3) := by decide +kernel
theorem own_d10_19 : decode prog_117_method_10_code 19 = .ok (.if_icmp .ge 29, 3) := by decide +kernel
theorem own_d10_22 : decode prog_117_method_10_code 22 = .ok (.iload_n 1, 1) := by decide +kernel
theorem own_d10_23 : decode prog_117_method_10_code 23 = .ok (.aload_n 0, 1) := by decide +kernel
theorem own_d10_24 : decode prog_117_method_10_code 24 = .ok (.getfield 9, 3) := by decide +kernel
theorem own_d10_27 : decode prog_117_method_10_code 27 = .ok (.iload_n 2, 1) := by decide +kernel
theorem own_d10_28 : decode prog_117_method_10_code 28 = .ok (.aaload, 1) := by decide +kernel
theorem own_d10_29 : decode prog_117_method_10_code 29 = .ok (.getstatic 99, 3) := by decide +kernel
theorem own_d10_32 : decode prog_117_method_10_code 32 = .ok (.if_acmp .ne 7, 3) := by decide +kernel
theorem own_d10_35 : decode prog_117_method_10_code 35 = .ok (.iconst 1, 1) := by decide +kernel
theorem own_d10_36 : decode prog_117_method_10_code 36 = .ok (.goto 4, 3) := by decide +kernel
theorem own_d10_39 : decode prog_117_method_10_code 39 = .ok (.iconst 0, 1) := by decide +kernel
theorem own_d10_40 : decode prog_117_method_10_code 40 = .ok (.ior, 1) := by decide +kernel
theorem own_d10_41 : decode prog_117_method_10_code 41 = .ok (.istore_n 1, 1) := by decide +kernel
theorem own_d10_42 : decode prog_117_method_10_code 42 = .ok (.iinc 2 1, 3) := by decide +kernel
theorem own_d10_45 : decode prog_117_method_10_code 45 = .ok (.goto (-31), 3) := by decide +kernel
theorem own_d10_48 : decode prog_117_method_10_code 48 = .ok (.aload_n 0, 1) := by decide +kernel
theorem own_d10_49 : decode prog_117_method_10_code 49 = .ok (.getfield 33, 3) := by decide +kernel
theorem own_d10_52 : decode prog_117_method_10_code 52 = .ok (.newarray .int, 2) := by decide +kernel
theorem own_d10_54 : decode prog_117_method_10_code 54 = .ok (.astore_n 2, 1) := by decide +kernel
theorem own_d10_55 : decode prog_117_method_10_code 55 = .ok (.iconst 0, 1) := by decide +kernel
theorem own_d10_56 : decode prog_117_method_10_code 56 = .ok (.istore_n 3, 1) := by decide +kernel
theorem own_d10_57 : decode prog_117_method_10_code 57 = .ok (.iconst 0, 1) := by decide +kernel
theorem own_d10_58 : decode prog_117_method_10_code 58 = .ok (.istore 4, 2) := by decide +kernel
theorem own_d10_60 : decode prog_117_method_10_code 60 = .ok (.iload 4, 2) := by decide +kernel
theorem own_d10_62 : decode prog_117_method_10_code 62 = .ok (.aload_n 0, 1) := by decide +kernel
theorem own_d10_63 : decode prog_117_method_10_code 63 = .ok (.getfield 33, 3) := by decide +kernel
theorem own_d10_66 : decode prog_117_method_10_code 66 = .ok (.if_icmp .ge 31, 3) := by decide +kernel
theorem own_d10_69 : decode prog_117_method_10_code 69 = .ok (.aload_n 2, 1) := by decide +kernel
theorem own_d10_70 : decode prog_117_method_10_code 70 = .ok (.iload 4, 2) := by decide +kernel
theorem own_d10_72 : decode prog_117_method_10_code 72 = .ok (.iload_n 3, 1) := by decide +kernel
theorem own_d10_73 : decode prog_117_method_10_code 73 = .ok (.iastore, 1) := by decide +kernel
theorem own_d10_74 : decode prog_117_method_10_code 74 = .ok (.aload_n 0, 1) := by decide +kernel
theorem own_d10_75 : decode prog_117_method_10_code 75 = .ok (.getfield 9, 3) := by decide +kernel
theorem own_d10_78 : decode prog_117_method_10_code 78 = .ok (.iload 4, 2) := by decide +kernel
theorem own_d10_80 : decode prog_117_method_10_code 80 = .ok (.aaload, 1) := by decide +kernel
theorem own_d10_81 : decode prog_117_method_10_code 81 = .ok (.iload_n 1, 1) := by decide +kernel
theorem own_d10_82 : decode prog_117_method_10_code 82 = .ok (.invokestatic 102, 3) := by decide +kernel
theorem own_d10_85 : decode prog_117_method_10_code 85 = .ok (.ifCond .ne 6, 3) := by decide +kernel
theorem own_d10_88 : decode prog_117_method_10_code 88 = .ok (.iinc 3 1, 3) := by decide +kernel
theorem own_d10_91 : decode prog_117_method_10_code 91 = .ok (.iinc 4 1, 3) := by decide +kernel
theorem own_d10_94 : decode prog_117_method_10_code 94 = .ok (.goto (-34), 3) := by decide +kernel
theorem own_d10_97 : decode prog_117_method_10_code 97 = .ok (.iload_n 3, 1) := by decide +kernel
theorem own_d10_98 : decode prog_117_method_10_code 98 = .ok (.anewarray 7, 3) := by decide +kernel
theorem own_d10_101 : decode prog_117_method_10_code 101 = .ok (.astore 4, 2) := by decide +kernel
theorem own_d10_103 : decode prog_117_method_10_code 103 = .ok (.iload_n 3, 1) := by decide +kernel
theorem own_d10_104 : decode prog_117_method_10_code 104 = .ok (.newarray .int, 2) := by decide +kernel
theorem own_d10_106 : decode prog_117_method_10_code 106 = .ok (.astore 5, 2) := by decide +kernel
theorem own_d10_108 : decode prog_117_method_10_code 108 = .ok (.iload_n 3, 1) := by decide +kernel
theorem own_d10_109 : decode prog_117_method_10_code 109 = .ok (.newarray .int, 2) := by decide +kernel
theorem own_d10_111 : decode prog_117_method_10_code 111 = .ok (.astore 6, 2) := by decide +kernel
theorem own_d10_113 : decode prog_117_method_10_code 113 = .ok (.iconst 0, 1) := by decide +kernel
theorem own_d10_114 : decode prog_117_method_10_code 114 = .ok (.istore 7, 2) := by decide +kernel
theorem own_d10_116 : decode prog_117_method_10_code 116 = .ok (.iload 7, 2) := by decide +kernel
theorem own_d10_118 : decode prog_117_method_10_code 118 = .ok (.aload_n 0, 1) := by decide +kernel
theorem own_d10_119 : decode prog_117_method_10_code 119 = .ok (.getfield 33, 3) := by decide +kernel
theorem own_d10_122 : decode prog_117_method_10_code 122 = .ok (.if_icmp .ge 115, 3) := by decide +kernel
theorem own_d10_125 : decode prog_117_method_10_code 125 = .ok (.aload_n 0, 1) := by decide +kernel
theorem own_d10_126 : decode prog_117_method_10_code 126 = .ok (.getfield 9, 3) := by decide +kernel
theorem own_d10_129 : decode prog_117_method_10_code 129 = .ok (.iload 7, 2) := by decide +kernel
theorem own_d10_131 : decode prog_117_method_10_code 131 = .ok (.aaload, 1) := by decide +kernel
theorem own_d10_132 : decode prog_117_method_10_code 132 = .ok (.iload_n 1, 1) := by decide +kernel
theorem own_d10_133 : decode prog_117_method_10_code 133 = .ok (.invokestatic 102, 3) := by decide +kernel
theorem own_d10_136 : decode prog_117_method_10_code 136 = .ok (.ifCond .ne 95, 3) := by decide +kernel
theorem own_d10_139 : decode prog_117_method_10_code 139 = .ok (.aload_n 2, 1) := by decide +kernel
theorem own_d10_140 : decode prog_117_method_10_code 140 = .ok (.iload 7, 2) := by decide +kernel
theorem own_d10_142 : decode prog_117_method_10_code 142 = .ok (.iaload, 1) := by decide +kernel
theorem own_d10_143 : decode prog_117_method_10_code 143 = .ok (.istore 8, 2) := by decide +kernel
theorem own_d10_145 : decode prog_117_method_10_code 145 = .ok (.aload 4, 2) := by decide +kernel
theorem own_d10_147 : decode prog_117_method_10_code 147 = .ok (.iload 8, 2) := by decide +kernel
theorem own_d10_149 : decode prog_117_method_10_code 149 = .ok (.aload_n 0, 1) := by decide +kernel
theorem own_d10_150 : decode prog_117_method_10_code 150 = .ok (.getfield 9, 3) := by decide +kernel
theorem own_d10_153 : decode prog_117_method_10_code 153 = .ok (.iload 7, 2) := by decide +kernel
theorem own_d10_155 : decode prog_117_method_10_code 155 = .ok (.aaload, 1) := by decide +kernel
theorem own_d10_156 : decode prog_117_method_10_code 156 = .ok (.aastore, 1) := by decide +kernel
theorem own_d10_157 : decode prog_117_method_10_code 157 = .ok (.aload 5, 2) := by decide +kernel
theorem own_d10_159 : decode prog_117_method_10_code 159 = .ok (.iload 8, 2) := by decide +kernel
theorem own_d10_161 : decode prog_117_method_10_code 161 = .ok (.aload_n 0, 1) := by decide +kernel
theorem own_d10_162 : decode prog_117_method_10_code 162 = .ok (.getfield 9, 3) := by decide +kernel
theorem own_d10_165 : decode prog_117_method_10_code 165 = .ok (.iload 7, 2) := by decide +kernel
theorem own_d10_167 : decode prog_117_method_10_code 167 = .ok (.aaload, 1) := by decide +kernel
theorem own_d10_168 : decode prog_117_method_10_code 168 = .ok (.invokestatic 59, 3) := by decide +kernel
theorem own_d10_171 : decode prog_117_method_10_code 171 = .ok (.ifCond .eq 15, 3) := by decide +kernel
theorem own_d10_174 : decode prog_117_method_10_code 174 = .ok (.aload_n 2, 1) := by decide +kernel
theorem own_d10_175 : decode prog_117_method_10_code 175 = .ok (.aload_n 0, 1) := by decide +kernel
theorem own_d10_176 : decode prog_117_method_10_code 176 = .ok (.getfield 15, 3) := by decide +kernel
theorem own_d10_179 : decode prog_117_method_10_code 179 = .ok (.iload 7, 2) := by decide +kernel
theorem own_d10_181 : decode prog_117_method_10_code 181 = .ok (.iaload, 1) := by decide +kernel
theorem own_d10_182 : decode prog_117_method_10_code 182 = .ok (.iaload, 1) := by decide +kernel
theorem own_d10_183 : decode prog_117_method_10_code 183 = .ok (.goto 10, 3) := by decide +kernel
theorem own_d10_186 : decode prog_117_method_10_code 186 = .ok (.aload_n 0, 1) := by decide +kernel
theorem own_d10_187 : decode prog_117_method_10_code 187 = .ok (.getfield 15, 3) := by decide +kernel
theorem own_d10_190 : decode prog_117_method_10_code 190 = .ok (.iload 7, 2) := by decide +kernel
theorem own_d10_192 : decode prog_117_method_10_code 192 = .ok (.iaload, 1) := by decide +kernel
theorem own_d10_193 : decode prog_117_method_10_code 193 = .ok (.iastore, 1) := by decide +kernel
theorem own_d10_194 : decode prog_117_method_10_code 194 = .ok (.aload 6, 2) := by decide +kernel
theorem own_d10_196 : decode prog_117_method_10_code 196 = .ok (.iload 8, 2) := by decide +kernel
theorem own_d10_198 : decode prog_117_method_10_code 198 = .ok (.aload_n 0, 1) := by decide +kernel
theorem own_d10_199 : decode prog_117_method_10_code 199 = .ok (.getfield 9, 3) := by decide +kernel
theorem own_d10_202 : decode prog_117_method_10_code 202 = .ok (.iload 7, 2) := by decide +kernel
theorem own_d10_204 : decode prog_117_method_10_code 204 = .ok (.aaload, 1) := by decide +kernel
theorem own_d10_205 : decode prog_117_method_10_code 205 = .ok (.getstatic 63, 3) := by decide +kernel
theorem own_d10_208 : decode prog_117_method_10_code 208 = .ok (.if_acmp .ne 15, 3) := by decide +kernel
theorem own_d10_211 : decode prog_117_method_10_code 211 = .ok (.aload_n 2, 1) := by decide +kernel
theorem own_d10_212 : decode prog_117_method_10_code 212 = .ok (.aload_n 0, 1) := by decide +kernel
theorem own_d10_213 : decode prog_117_method_10_code 213 = .ok (.getfield 19, 3) := by decide +kernel
theorem own_d10_216 : decode prog_117_method_10_code 216 = .ok (.iload 7, 2) := by decide +kernel
theorem own_d10_218 : decode prog_117_method_10_code 218 = .ok (.iaload, 1) := by decide +kernel
theorem own_d10_219 : decode prog_117_method_10_code 219 = .ok (.iaload, 1) := by decide +kernel
theorem own_d10_220 : decode prog_117_method_10_code 220 = .ok (.goto 10, 3) := by decide +kernel
theorem own_d10_223 : decode prog_117_method_10_code 223 = .ok (.aload_n 0, 1) := by decide +kernel
theorem own_d10_224 : decode prog_117_method_10_code 224 = .ok (.getfield 19, 3) := by decide +kernel
theorem own_d10_227 : decode prog_117_method_10_code 227 = .ok (.iload 7, 2) := by decide +kernel
theorem own_d10_229 : decode prog_117_method_10_code 229 = .ok (.iaload, 1) := by decide +kernel
theorem own_d10_230 : decode prog_117_method_10_code 230 = .ok (.iastore, 1) := by decide +kernel
theorem own_d10_231 : decode prog_117_method_10_code 231 = .ok (.iinc 7 1, 3) := by decide +kernel
theorem own_d10_234 : decode prog_117_method_10_code 234 = .ok (.goto (-118), 3) := by decide +kernel
theorem own_d10_237 : decode prog_117_method_10_code 237 = .ok (.new 106, 3) := by decide +kernel
theorem own_d10_240 : decode prog_117_method_10_code 240 = .ok (.dup, 1) := by decide +kernel
theorem own_d10_241 : decode prog_117_method_10_code 241 = .ok (.aload 4, 2) := by decide +kernel
theorem own_d10_243 : decode prog_117_method_10_code 243 = .ok (.aload 5, 2) := by decide +kernel
theorem own_d10_245 : decode prog_117_method_10_code 245 = .ok (.aload 6, 2) := by decide +kernel
theorem own_d10_247 : decode prog_117_method_10_code 247 = .ok (.aload_n 0, 1) := by decide +kernel
theorem own_d10_248 : decode prog_117_method_10_code 248 = .ok (.getfield 25, 3) := by decide +kernel
theorem own_d10_251 : decode prog_117_method_10_code 251 = .ok (.iconst 0, 1) := by decide +kernel
theorem own_d10_252 : decode prog_117_method_10_code 252 = .ok (.anewarray 108, 3) := by decide +kernel
theorem own_d10_255 : decode prog_117_method_10_code 255 = .ok (.invokeinterface 110 2, 5) := by decide +kernel
theorem own_d10_260 : decode prog_117_method_10_code 260 = .ok (.checkcast 114, 3) := by decide +kernel
theorem own_d10_263 : decode prog_117_method_10_code 263 = .ok (.aload_n 0, 1) := by decide +kernel
theorem own_d10_264 : decode prog_117_method_10_code 264 = .ok (.getfield 56, 3) := by decide +kernel
theorem own_d10_267 : decode prog_117_method_10_code 267 = .ok (.iload_n 1, 1) := by decide +kernel
theorem own_d10_268 : decode prog_117_method_10_code 268 = .ok (.invokespecial 116, 3) := by decide +kernel
theorem own_d10_271 : decode prog_117_method_10_code 271 = .ok (.areturn, 1) := by decide +kernel
theorem own_d11_0 : decode prog_117_method_12_code 0 = .ok (.aload_n 0, 1) := by decide +kernel
theorem own_d11_1 : decode prog_117_method_12_code 1 = .ok (.getstatic 122, 3) := by decide +kernel
theorem own_d11_4 : decode prog_117_method_12_code 4 = .ok (.if_acmp .eq 28, 3) := by decide +kernel
theorem own_d11_7 : decode prog_117_method_12_code 7 = .ok (.iload_n 1, 1) := by decide +kernel
theorem own_d11_8 : decode prog_117_method_12_code 8 = .ok (.ifCond .ne 28, 3) := by decide +kernel
theorem own_d11_11 : decode prog_117_method_12_code 11 = .ok (.aload_n 0, 1) := by decide +kernel
theorem own_d11_12 : decode prog_117_method_12_code 12 = .ok (.getstatic 125, 3) := by decide +kernel
theorem own_d11_15 : decode prog_117_method_12_code 15 = .ok (.if_acmp .eq 17, 3) := by decide +kernel
theorem own_d11_18 : decode prog_117_method_12_code 18 = .ok (.aload_n 0, 1) := by decide +kernel
theorem own_d11_19 : decode prog_117_method_12_code 19 = .ok (.getstatic 128, 3) := by decide +kernel
theorem own_d11_22 : decode prog_117_method_12_code 22 = .ok (.if_acmp .eq 10, 3) := by decide +kernel
theorem own_d11_25 : decode prog_117_method_12_code 25 = .ok (.aload_n 0, 1) := by decide +kernel
theorem own_d11_26 : decode prog_117_method_12_code 26 = .ok (.getstatic 131, 3) := by decide +kernel
theorem own_d11_29 : decode prog_117_method_12_code 29 = .ok (.if_acmp .ne 7, 3) := by decide +kernel
theorem own_d11_36 : decode prog_117_method_12_code 36 = .ok (.iconst 0, 1) := by decide +kernel
theorem own_d11_37 : decode prog_117_method_12_code 37 = .ok (.ireturn, 1) := by decide +kernel
theorem own_d12_0 : decode prog_117_method_11_code 0 = .ok (.aload_n 0, 1) := by decide +kernel
theorem own_d12_1 : decode prog_117_method_11_code 1 = .ok (.getstatic 63, 3) := by decide +kernel
theorem own_d12_4 : decode prog_117_method_11_code 4 = .ok (.if_acmp .eq 10, 3) := by decide +kernel
theorem own_d12_7 : decode prog_117_method_11_code 7 = .ok (.aload_n 0, 1) := by decide +kernel
theorem own_d12_8 : decode prog_117_method_11_code 8 = .ok (.getstatic 119, 3) := by decide +kernel
theorem own_d12_11 : decode prog_117_method_11_code 11 = .ok (.if_acmp .ne 7, 3) := by decide +kernel
theorem own_d12_14 : decode prog_117_method_11_code 14 = .ok (.iconst 1, 1) := by decide +kernel
theorem own_d12_15 : decode prog_117_method_11_code 15 = .ok (.goto 4, 3) := by decide +kernel
theorem own_d12_18 : decode prog_117_method_11_code 18 = .ok (.iconst 0, 1) := by decide +kernel
theorem own_d12_19 : decode prog_117_method_11_code 19 = .ok (.ireturn, 1) := by decide +kernel
theorem own_d13_0 : decode jdk_38_method_17_code 0 = .ok (.aload_n 1, 1) := by decide +kernel
theorem own_d13_1 : decode jdk_38_method_17_code 1 = .ok (.arraylength, 1) := by decide +kernel
theorem own_d13_2 : decode jdk_38_method_17_code 2 = .ok (.aload_n 0, 1) := by decide +kernel
theorem own_d13_3 : decode jdk_38_method_17_code 3 = .ok (.getfield 48, 3) := by decide +kernel
theorem own_d13_6 : decode jdk_38_method_17_code 6 = .ok (.if_icmp .ge 19, 3) := by decide +kernel
theorem own_d13_25 : decode jdk_38_method_17_code 25 = .ok (.aload_n 0, 1) := by decide +kernel
theorem own_d13_26 : decode jdk_38_method_17_code 26 = .ok (.getfield 9, 3) := by decide +kernel
theorem own_d13_29 : decode jdk_38_method_17_code 29 = .ok (.iconst 0, 1) := by decide +kernel
theorem own_d13_30 : decode jdk_38_method_17_code 30 = .ok (.aload_n 1, 1) := by decide +kernel
theorem own_d13_31 : decode jdk_38_method_17_code 31 = .ok (.iconst 0, 1) := by decide +kernel
theorem own_d13_32 : decode jdk_38_method_17_code 32 = .ok (.aload_n 0, 1) := by decide +kernel
theorem own_d13_33 : decode jdk_38_method_17_code 33 = .ok (.getfield 48, 3) := by decide +kernel
theorem own_d13_36 : decode jdk_38_method_17_code 36 = .ok (.invokestatic 112, 3) := by decide +kernel
theorem own_d13_39 : decode jdk_38_method_17_code 39 = .ok (.aload_n 1, 1) := by decide +kernel
theorem own_d13_40 : decode jdk_38_method_17_code 40 = .ok (.arraylength, 1) := by decide +kernel
theorem own_d13_41 : decode jdk_38_method_17_code 41 = .ok (.aload_n 0, 1) := by decide +kernel
theorem own_d13_42 : decode jdk_38_method_17_code 42 = .ok (.getfield 48, 3) := by decide +kernel
theorem own_d13_45 : decode jdk_38_method_17_code 45 = .ok (.if_icmp .le 10, 3) := by decide +kernel
theorem own_d13_55 : decode jdk_38_method_17_code 55 = .ok (.aload_n 1, 1) := by decide +kernel
theorem own_d13_56 : decode jdk_38_method_17_code 56 = .ok (.areturn, 1) := by decide +kernel
theorem own_d14_0 : decode prog_116_method_1_code 0 = .ok (.aload_n 0, 1) := by decide +kernel
theorem own_d14_1 : decode prog_116_method_1_code 1 = .ok (.invokespecial 1, 3) := by decide +kernel
theorem own_d14_4 : decode prog_116_method_1_code 4 = .ok (.aload_n 0, 1) := by decide +kernel
theorem own_d14_5 : decode prog_116_method_1_code 5 = .ok (.aload_n 1, 1) := by decide +kernel
theorem own_d14_6 : decode prog_116_method_1_code 6 = .ok (.putfield 7, 3) := by decide +kernel
theorem own_d14_9 : decode prog_116_method_1_code 9 = .ok (.aload_n 0, 1) := by decide +kernel
theorem own_d14_10 : decode prog_116_method_1_code 10 = .ok (.aload_n 2, 1) := by decide +kernel
theorem own_d14_11 : decode prog_116_method_1_code 11 = .ok (.putfield 13, 3) := by decide +kernel
theorem own_d14_14 : decode prog_116_method_1_code 14 = .ok (.aload_n 0, 1) := by decide +kernel
theorem own_d14_15 : decode prog_116_method_1_code 15 = .ok (.aload_n 3, 1) := by decide +kernel
theorem own_d14_16 : decode prog_116_method_1_code 16 = .ok (.putfield 17, 3) := by decide +kernel
theorem own_d14_19 : decode prog_116_method_1_code 19 = .ok (.aload_n 0, 1) := by decide +kernel
theorem own_d14_20 : decode prog_116_method_1_code 20 = .ok (.aload 4, 2) := by decide +kernel
theorem own_d14_22 : decode prog_116_method_1_code 22 = .ok (.putfield 20, 3) := by decide +kernel
theorem own_d14_25 : decode prog_116_method_1_code 25 = .ok (.aload_n 0, 1) := by decide +kernel
theorem own_d14_26 : decode prog_116_method_1_code 26 = .ok (.iload 5, 2) := by decide +kernel
theorem own_d14_28 : decode prog_116_method_1_code 28 = .ok (.putfield 24, 3) := by decide +kernel
theorem own_d14_31 : decode prog_116_method_1_code 31 = .ok (.aload_n 0, 1) := by decide +kernel
theorem own_d14_32 : decode prog_116_method_1_code 32 = .ok (.iload 6, 2) := by decide +kernel
theorem own_d14_34 : decode prog_116_method_1_code 34 = .ok (.putfield 28, 3) := by decide +kernel
theorem own_d14_37 : decode prog_116_method_1_code 37 = .ok (.return_, 1) := by decide +kernel
theorem own_d15_0 : decode prog_116_method_2_code 0 = .ok (.aload_n 0, 1) := by decide +kernel
theorem own_d15_1 : decode prog_116_method_2_code 1 = .ok (.getfield 7, 3) := by decide +kernel
theorem own_d15_4 : decode prog_116_method_2_code 4 = .ok (.arraylength, 1) := by decide +kernel
theorem own_d15_5 : decode prog_116_method_2_code 5 = .ok (.ireturn, 1) := by decide +kernel
theorem own_d16_0 : decode prog_116_method_3_code 0 = .ok (.aload_n 0, 1) := by decide +kernel
theorem own_d16_1 : decode prog_116_method_3_code 1 = .ok (.getfield 7, 3) := by decide +kernel
theorem own_d16_4 : decode prog_116_method_3_code 4 = .ok (.iload_n 1, 1) := by decide +kernel
theorem own_d16_5 : decode prog_116_method_3_code 5 = .ok (.aaload, 1) := by decide +kernel
theorem own_d16_6 : decode prog_116_method_3_code 6 = .ok (.areturn, 1) := by decide +kernel
theorem own_d17_0 : decode prog_116_method_4_code 0 = .ok (.aload_n 0, 1) := by decide +kernel
theorem own_d17_1 : decode prog_116_method_4_code 1 = .ok (.getfield 13, 3) := by decide +kernel
theorem own_d17_4 : decode prog_116_method_4_code 4 = .ok (.iload_n 1, 1) := by decide +kernel
theorem own_d17_5 : decode prog_116_method_4_code 5 = .ok (.iaload, 1) := by decide +kernel
theorem own_d17_6 : decode prog_116_method_4_code 6 = .ok (.ireturn, 1) := by decide +kernel
theorem own_d18_0 : decode prog_116_method_5_code 0 = .ok (.aload_n 0, 1) := by decide +kernel
theorem own_d18_1 : decode prog_116_method_5_code 1 = .ok (.getfield 17, 3) := by decide +kernel
theorem own_d18_4 : decode prog_116_method_5_code 4 = .ok (.iload_n 1, 1) := by decide +kernel
theorem own_d18_5 : decode prog_116_method_5_code 5 = .ok (.iaload, 1) := by decide +kernel
theorem own_d18_6 : decode prog_116_method_5_code 6 = .ok (.ireturn, 1) := by decide +kernel
theorem own_pn0 : plainName "com/example/quillgraph/quillgraph/sparql/BuilderSetPinLaw" = true := by first | (simp [plainName, overriddenIn]; done) | decide +kernel
theorem own_pn1 : plainName "java/util/AbstractCollection" = true := by first | (simp [plainName, overriddenIn]; done) | decide +kernel
theorem own_pn2 : plainName "java/util/AbstractList" = true := by first | (simp [plainName, overriddenIn]; done) | decide +kernel
theorem own_pn3 : plainName "java/util/ArrayList" = true := by first | (simp [plainName, overriddenIn]; done) | decide +kernel
theorem own_pn4 : plainName "com/example/quillgraph/quillgraph/sparql/RegexProgram$Builder" = true := by first | (simp [plainName, overriddenIn]; done) | decide +kernel
theorem own_pn5 : plainName "com/example/quillgraph/quillgraph/sparql/RegexProgram" = true := by first | (simp [plainName, overriddenIn]; done) | decide +kernel
theorem own_pd0 : parseMethodDescriptor "()V" = some ⟨[], none⟩ := by decide +kernel
theorem own_pd1 : parseMethodDescriptor "(J)V" = some ⟨[.long], none⟩ := by decide +kernel
theorem own_pd2 : parseMethodDescriptor "(Lcom/example/quillgraph/quillgraph/sparql/RegexProgram$Op;II)I" = some ⟨[(.object "com/example/quillgraph/quillgraph/sparql/RegexProgram$Op"), .int, .int], some .int⟩ := by decide +kernel
theorem own_pd3 : parseMethodDescriptor "(Lcom/example/quillgraph/quillgraph/sparql/RegexProgram$Op;Z)Z" = some ⟨[(.object "com/example/quillgraph/quillgraph/sparql/RegexProgram$Op"), .boolean], some .boolean⟩ := by decide +kernel
theorem own_pd4 : parseMethodDescriptor "(Lcom/example/quillgraph/quillgraph/sparql/RegexProgram$Op;)Z" = some ⟨[(.object "com/example/quillgraph/quillgraph/sparql/RegexProgram$Op")], some .boolean⟩ := by decide +kernel
theorem own_pd5 : parseMethodDescriptor "([Ljava/lang/Object;)[Ljava/lang/Object;" = some ⟨[(.array (.object "java/lang/Object"))], some (.array (.object "java/lang/Object"))⟩ := by decide +kernel
theorem own_pd6 : parseMethodDescriptor "([Lcom/example/quillgraph/quillgraph/sparql/RegexProgram$Op;[I[I[Lcom/example/quillgraph/quillgraph/sparql/CodePointSet;IZ)V" = some ⟨[(.array (.object "com/example/quillgraph/quillgraph/sparql/RegexProgram$Op")), (.array .int), (.array .int), (.array (.object "com/example/quillgraph/quillgraph/sparql/CodePointSet")), .int, .boolean], none⟩ := by decide +kernel
theorem own_pd7 : parseMethodDescriptor "(I)Lcom/example/quillgraph/quillgraph/sparql/RegexProgram$Op;" = some ⟨[.int], some (.object "com/example/quillgraph/quillgraph/sparql/RegexProgram$Op")⟩ := by decide +kernel
theorem own_pd8 : parseMethodDescriptor "(I)V" = some ⟨[.int], none⟩ := by decide +kernel
theorem own_pd9 : parseMethodDescriptor "(ILcom/example/quillgraph/quillgraph/sparql/RegexProgram$Op;II)V" = some ⟨[.int, (.object "com/example/quillgraph/quillgraph/sparql/RegexProgram$Op"), .int, .int], none⟩ := by decide +kernel
theorem own_pd10 : parseMethodDescriptor "()Lcom/example/quillgraph/quillgraph/sparql/RegexProgram;" = some ⟨[], some (.object "com/example/quillgraph/quillgraph/sparql/RegexProgram")⟩ := by decide +kernel
theorem own_pd11 : parseMethodDescriptor "()I" = some ⟨[], some .int⟩ := by decide +kernel
theorem own_pd12 : parseMethodDescriptor "(I)I" = some ⟨[.int], some .int⟩ := by decide +kernel
theorem own_mask1 (x : Int32) : (x &&& (1 : Int32)) = (0 : Int32) ∨ (x &&& (1 : Int32)) = (1 : Int32) := by
  have h1 : (x &&& (1 : Int32)).toInt = x.toInt % (2 ^ 1 : Nat) := c_mask x 1 1 (by decide) (by decide)
  generalize (x &&& (1 : Int32)) = k at h1 ⊢
  simp only [← Int32.toInt_inj, show (0 : Int32).toInt = 0 from by decide, show (1 : Int32).toInt = 1 from by decide]
  omega
theorem own_rem3 (x : Int32) : ((x &&& (2147483647 : Int32)) % (3 : Int32)) = (0 : Int32) ∨ ((x &&& (2147483647 : Int32)) % (3 : Int32)) = (1 : Int32) ∨ ((x &&& (2147483647 : Int32)) % (3 : Int32)) = (2 : Int32) := by
  have h1 : (x &&& (2147483647 : Int32)).toInt = x.toInt % (2 ^ 31 : Nat) := c_mask x 2147483647 31 (by decide) (by decide)
  have h2 := (c_irem (x &&& (2147483647 : Int32)) (3 : Int32) 3 (by decide)).1 (by omega)
  generalize ((x &&& (2147483647 : Int32)) % (3 : Int32)) = k at h2 ⊢
  simp only [← Int32.toInt_inj, show (0 : Int32).toInt = 0 from by decide, show (1 : Int32).toInt = 1 from by decide, show (2 : Int32).toInt = 2 from by decide]
  omega
theorem own_size {s : State} {args : Array Value} {t : Term} {a : Addr} {cl : Cell} {ty : FieldType} {k : Int32} (ev : t.eval args s none [] s = some (.ref a)) (A : Arr s s.heap a cl ty) (h : (Jvm.Cond.eq (.length t) (.int k)).value args s none s [] = some true) : cl.slots.size < 2 ^ 31 ∧ cl.slots.size.toInt32 = k := by
  have h2 := own_eqI h
  have ha : s.arrayAt? a = some cl := A.fin (Vm.Alike.refl _)
  by_cases q : cl.slots.size < 2 ^ 31
  · rw [len_f ev ha q] at h2
    exact ⟨q, by simpa using h2⟩
  · simp [Term.eval, ev, ha, q] at h2
theorem own_empty {s : State} {args : Array Value} {t : Term} {a : Addr} {cl : Cell} {ty : FieldType} {dv : Value} (ev : t.eval args s none [] s = some (.ref a)) (A : Arr s s.heap a cl ty) (h : (Jvm.Cond.eq (.length t) (.int 0)).value args s none s [] = some true) : Arv s s.heap a cl.cls ty (0 : Int32) [] dv := by
  obtain ⟨q1, q2⟩ := own_size ev A h
  have e := len_toInt q1
  rw [q2] at e
  have e0 : cl.slots.size = 0 := by
    have : (0 : Int32).toInt = 0 := by decide
    omega
  exact ⟨cl, A, rfl, by rw [e0]; rfl, by decide, fun k hk => absurd hk (by omega), fun k hk => absurd hk (by omega)⟩

theorem own_pick_ef (m : MethodId) (pz : Int32) : entryFrame m #[(.int pz)] 1 = mkF m 0 #[iv pz] [] := by first | (simp [entryFrame, mkF, argsToLocals, Value.category]; done) | rfl
def own_pick_Q (Z : State) (w_CHARACTER : Addr) (w_SPLIT : Addr) (w_JUMP : Addr) (w_TEXT_START : Addr) (w_LINE_START : Addr) (w_TEXT_END : Addr) (w_LINE_END : Addr) (w_SAVE : Addr) (w_BACK_REFERENCE : Addr) (w_MARK : Addr) (w_PROGRESS : Addr) (w_MATCH : Addr) (w_NOTHING : Addr) (w_DE : Addr) (k_DE : ClassId) (pz : Int32) (h0 : Heap) (n0 : Nat) (v : Option Value) (h : Heap) (L : List Loc) : Prop := ∃ o : Addr, v = some (.ref o) ∧ (Exa Z Z.heap o "com/example/quillgraph/quillgraph/sparql/RegexProgram$Op" ∧ o ≠ w_NOTHING ∧ o ≠ w_SAVE ∧ o ≠ w_MARK ∧ o ≠ w_PROGRESS) ∧ Fr n0 L ∧ h = h0
set_option maxRecDepth 65536 in
set_option maxHeartbeats 40000000 in
theorem own_pick (l : Launch) (Z : State) (a0 : Array Value) (hw : ∀ d ∈ tables_1, d.before a0 Z = true) (ws : List Jvm.Cond) (w_CHARACTER : Addr) (w_SPLIT : Addr) (w_JUMP : Addr) (w_TEXT_START : Addr) (w_LINE_START : Addr) (w_TEXT_END : Addr) (w_LINE_END : Addr) (w_SAVE : Addr) (w_BACK_REFERENCE : Addr) (w_MARK : Addr) (w_PROGRESS : Addr) (w_MATCH : Addr) (w_NOTHING : Addr) (w_DE : Addr) (k_DE : ClassId) (pz : Int32) (h0 : Heap) (n0 : Nat) (O0 : Old Z n0 h0) (U_CHARACTER : own_En Z Z.heap "com/example/quillgraph/quillgraph/sparql/RegexProgram$Op" "CHARACTER" "Lcom/example/quillgraph/quillgraph/sparql/RegexProgram$Op;" w_CHARACTER (0 : Int32)) (U_SPLIT : own_En Z Z.heap "com/example/quillgraph/quillgraph/sparql/RegexProgram$Op" "SPLIT" "Lcom/example/quillgraph/quillgraph/sparql/RegexProgram$Op;" w_SPLIT (1 : Int32)) (U_JUMP : own_En Z Z.heap "com/example/quillgraph/quillgraph/sparql/RegexProgram$Op" "JUMP" "Lcom/example/quillgraph/quillgraph/sparql/RegexProgram$Op;" w_JUMP (2 : Int32)) (U_TEXT_START : own_En Z Z.heap "com/example/quillgraph/quillgraph/sparql/RegexProgram$Op" "TEXT_START" "Lcom/example/quillgraph/quillgraph/sparql/RegexProgram$Op;" w_TEXT_START (3 : Int32)) (U_LINE_START : own_En Z Z.heap "com/example/quillgraph/quillgraph/sparql/RegexProgram$Op" "LINE_START" "Lcom/example/quillgraph/quillgraph/sparql/RegexProgram$Op;" w_LINE_START (4 : Int32)) (U_TEXT_END : own_En Z Z.heap "com/example/quillgraph/quillgraph/sparql/RegexProgram$Op" "TEXT_END" "Lcom/example/quillgraph/quillgraph/sparql/RegexProgram$Op;" w_TEXT_END (5 : Int32)) (U_LINE_END : own_En Z Z.heap "com/example/quillgraph/quillgraph/sparql/RegexProgram$Op" "LINE_END" "Lcom/example/quillgraph/quillgraph/sparql/RegexProgram$Op;" w_LINE_END (6 : Int32)) (U_SAVE : own_En Z Z.heap "com/example/quillgraph/quillgraph/sparql/RegexProgram$Op" "SAVE" "Lcom/example/quillgraph/quillgraph/sparql/RegexProgram$Op;" w_SAVE (7 : Int32)) (U_BACK_REFERENCE : own_En Z Z.heap "com/example/quillgraph/quillgraph/sparql/RegexProgram$Op" "BACK_REFERENCE" "Lcom/example/quillgraph/quillgraph/sparql/RegexProgram$Op;" w_BACK_REFERENCE (8 : Int32)) (U_MARK : own_En Z Z.heap "com/example/quillgraph/quillgraph/sparql/RegexProgram$Op" "MARK" "Lcom/example/quillgraph/quillgraph/sparql/RegexProgram$Op;" w_MARK (9 : Int32)) (U_PROGRESS : own_En Z Z.heap "com/example/quillgraph/quillgraph/sparql/RegexProgram$Op" "PROGRESS" "Lcom/example/quillgraph/quillgraph/sparql/RegexProgram$Op;" w_PROGRESS (10 : Int32)) (U_MATCH : own_En Z Z.heap "com/example/quillgraph/quillgraph/sparql/RegexProgram$Op" "MATCH" "Lcom/example/quillgraph/quillgraph/sparql/RegexProgram$Op;" w_MATCH (11 : Int32)) (U_NOTHING : own_En Z Z.heap "com/example/quillgraph/quillgraph/sparql/RegexProgram$Op" "NOTHING" "Lcom/example/quillgraph/quillgraph/sparql/RegexProgram$Op;" w_NOTHING (12 : Int32)) (S_DE : Sta Z Z.heap "java/util/ArrayList" "DEFAULTCAPACITY_EMPTY_ELEMENTDATA" "[Ljava/lang/Object;" (.ref w_DE)) (V_DE : Arv Z Z.heap w_DE k_DE (.object "java/lang/Object") (0 : Int32) [] .null) :
    MetFree l (⟨"com/example/quillgraph/quillgraph/sparql/BuilderSetPinLaw", "pick", "(I)Lcom/example/quillgraph/quillgraph/sparql/RegexProgram$Op;"⟩ : MethodName) (head1 (Jvm.Cond.code (⟨"com/example/quillgraph/quillgraph/sparql/BuilderSetPinLaw", "pick", "(I)Lcom/example/quillgraph/quillgraph/sparql/RegexProgram$Op;"⟩ : MethodName) method_2_code 1 (some (.object "com/example/quillgraph/quillgraph/sparql/RegexProgram$Op")) :: ws) ({ frames := 0, cells := 0, slots := 0, locals := 0 } : Room)) (fun ar U => ar = #[(.int pz)] ∧ Z.Warmed39 U.vm ∧ U.heap = h0) (fun _ _ _ _ _ => True) (fun _ U oc U' => ∃ v L, oc = .returned v ∧ own_pick_Q Z w_CHARACTER w_SPLIT w_JUMP w_TEXT_START w_LINE_START w_TEXT_END w_LINE_END w_SAVE w_BACK_REFERENCE w_MARK w_PROGRESS w_MATCH w_NOTHING w_DE k_DE pz h0 n0 v U'.heap L ∧ FrameEnd U oc U' L ({ frames := 0, cells := 0, slots := 0, locals := 0 } : Room).cells ({ frames := 0, cells := 0, slots := 0, locals := 0 } : Room).slots) := by
  refine MetFree.of_bodySF (plainFor_of_name own_pn0) hisR ?_
  intro p e s m args below meth c s₁ Bd hml0 hP hK
  obtain ⟨rfl, hZ, hh⟩ := hP
  have hx := Bd.exec
  have hby := Bd.bytes
  have hml : c.maxLocals = 1 := hml0
  have hown : s.vm.findClass "com/example/quillgraph/quillgraph/sparql/BuilderSetPinLaw" = some m.cls := findClass_of_methodNamed Bd.named
  have hnm := (name_of_methodNamed Bd.named Bd.method).1
  have X0 : Stand p l e ({ frames := 0, cells := 0, slots := 0, locals := 0 } : Room) s m #[(.int pz)] below meth c s₁ [] 0 0 := Stand.of_body Bd
  have e0 : s₁.heap = h0 := by rw [← hh, Bd.state]; rfl
  have N0 := Fr.nil n0
  have pre0 : ∀ t, Steps p.tables e below (s₁.setTop (mkF m 0 #[iv pz] [])) t → Steps p.tables e below (s₁.setTop (entryFrame m #[(.int pz)] 1)) t := fun t k => castTop (own_pick_ef m pz) k
  by_cases hc1 : pz = (0 : Int32)
  · obtain ⟨T2, X2, e2, st2⟩ := getS2 X0 hx hZ hown (host := "") (Or.inl (hw _ (own_m 166 rfl))) Via.refl e0 (U_CHARACTER.1.ext O0.2) (g := (mkF m 4 #[iv pz] [])) rfl (hb hby own_d1_4)
    obtain ⟨fs, hr, hrun, hended, hW, hsame⟩ := X2.leave (v := some (.ref w_CHARACTER)) (fun h => by rw [Bd.returns] at h; cases h)
    refine ⟨_, _, pre0 _ ?_, hrun, hended, _, _, rfl, ?_, ⟨_, rfl⟩, hW, hsame.mono (by decide) (by decide)⟩
    · show Steps p.tables e below (s₁.setTop (mkF m 0 #[iv pz] [])) _
      refine XS.iloadN X0.here hx rfl (hb hby own_d1_0) rfl ?_
      show Steps p.tables e below (s₁.setTop (mkF m 1 #[iv pz] [(.int pz)])) _
      refine XS.ifNo X0.here hx rfl (hb hby own_d1_1) rfl ((if0 _ _).trans (teq hc1).2) ?_
      show Steps p.tables e below (s₁.setTop (mkF m 4 #[iv pz] [])) _
      refine st2 _ ?_
      show Steps p.tables e below (T2.setTop (mkF m 7 #[iv pz] [(.ref w_CHARACTER)])) _
      jvm_step X2.here [X2.here.top, hx, (hb hby own_d1_7), X2.method', Bd.returns, Value.isRef, FieldType.isReference]
      first | (intro acts; rw [hr _ acts rfl rfl rfl]) | rw [hr _ _ rfl rfl rfl]
      exact Steps.refl _
    · show own_pick_Q Z w_CHARACTER w_SPLIT w_JUMP w_TEXT_START w_LINE_START w_TEXT_END w_LINE_END w_SAVE w_BACK_REFERENCE w_MARK w_PROGRESS w_MATCH w_NOTHING w_DE k_DE pz h0 n0 _ T2.heap _
      rw [e2]
      exact ⟨_, rfl, ⟨U_CHARACTER.2.1, Fld.ne U_CHARACTER.2.2 U_NOTHING.2.2 (by decide), Fld.ne U_CHARACTER.2.2 U_SAVE.2.2 (by decide), Fld.ne U_CHARACTER.2.2 U_MARK.2.2 (by decide), Fld.ne U_CHARACTER.2.2 U_PROGRESS.2.2 (by decide)⟩, N0, rfl⟩
  · have pre4 : ∀ t, Steps p.tables e below (s₁.setTop (mkF m 9 #[iv pz] [(.int pz)])) t → Steps p.tables e below (s₁.setTop (entryFrame m #[(.int pz)] 1)) t := fun t kt => by
      refine pre0 _ ?_
      show Steps p.tables e below (s₁.setTop (mkF m 0 #[iv pz] [])) _
      refine XS.iloadN X0.here hx rfl (hb hby own_d1_0) rfl ?_
      show Steps p.tables e below (s₁.setTop (mkF m 1 #[iv pz] [(.int pz)])) _
      refine XS.ifYes X0.here hx rfl (pc0 := 1) (pc' := 8) rfl (hb hby own_d1_1) rfl ((if0 _ _).trans (feq hc1).2) (by decide) (by decide) ?_
      show Steps p.tables e below (s₁.setTop (mkF m 8 #[iv pz] [])) _
      refine XS.iloadN X0.here hx rfl (hb hby own_d1_8) rfl ?_
      show Steps p.tables e below (s₁.setTop (mkF m 9 #[iv pz] [(.int pz)])) _
      exact kt
    by_cases hc3 : pz = (1 : Int32)
    · obtain ⟨T5, X5, e5, st5⟩ := getS2 X0 hx hZ hown (host := "") (Or.inl (hw _ (own_m 7 rfl))) Via.refl e0 (U_SPLIT.1.ext O0.2) (g := (mkF m 13 #[iv pz] [])) rfl (hb hby own_d1_13)
      obtain ⟨fs, hr, hrun, hended, hW, hsame⟩ := X5.leave (v := some (.ref w_SPLIT)) (fun h => by rw [Bd.returns] at h; cases h)
      refine ⟨_, _, pre4 _ ?_, hrun, hended, _, _, rfl, ?_, ⟨_, rfl⟩, hW, hsame.mono (by decide) (by decide)⟩
      · show Steps p.tables e below (s₁.setTop (mkF m 9 #[iv pz] [(.int pz)])) _
        refine XS.iconst X0.here hx rfl (hb hby own_d1_9) ?_
        show Steps p.tables e below (s₁.setTop (mkF m 10 #[iv pz] [(.int 1), (.int pz)])) _
        refine XS.icmpNo X0.here hx rfl (hb hby own_d1_10) rfl (teq hc3).2 ?_
        show Steps p.tables e below (s₁.setTop (mkF m 13 #[iv pz] [])) _
        refine st5 _ ?_
        show Steps p.tables e below (T5.setTop (mkF m 16 #[iv pz] [(.ref w_SPLIT)])) _
        jvm_step X5.here [X5.here.top, hx, (hb hby own_d1_16), X5.method', Bd.returns, Value.isRef, FieldType.isReference]
        first | (intro acts; rw [hr _ acts rfl rfl rfl]) | rw [hr _ _ rfl rfl rfl]
        exact Steps.refl _
      · show own_pick_Q Z w_CHARACTER w_SPLIT w_JUMP w_TEXT_START w_LINE_START w_TEXT_END w_LINE_END w_SAVE w_BACK_REFERENCE w_MARK w_PROGRESS w_MATCH w_NOTHING w_DE k_DE pz h0 n0 _ T5.heap _
        rw [e5]
        exact ⟨_, rfl, ⟨U_SPLIT.2.1, Fld.ne U_SPLIT.2.2 U_NOTHING.2.2 (by decide), Fld.ne U_SPLIT.2.2 U_SAVE.2.2 (by decide), Fld.ne U_SPLIT.2.2 U_MARK.2.2 (by decide), Fld.ne U_SPLIT.2.2 U_PROGRESS.2.2 (by decide)⟩, N0, rfl⟩
    · have pre7 : ∀ t, Steps p.tables e below (s₁.setTop (mkF m 18 #[iv pz] [(.int pz)])) t → Steps p.tables e below (s₁.setTop (entryFrame m #[(.int pz)] 1)) t := fun t kt => by
        refine pre4 _ ?_
        show Steps p.tables e below (s₁.setTop (mkF m 9 #[iv pz] [(.int pz)])) _
        refine XS.iconst X0.here hx rfl (hb hby own_d1_9) ?_
        show Steps p.tables e below (s₁.setTop (mkF m 10 #[iv pz] [(.int 1), (.int pz)])) _
        refine XS.icmpYes X0.here hx rfl (pc0 := 10) (pc' := 17) rfl (hb hby own_d1_10) rfl (feq hc3).2 (by decide) (by decide) ?_
        show Steps p.tables e below (s₁.setTop (mkF m 17 #[iv pz] [])) _
        refine XS.iloadN X0.here hx rfl (hb hby own_d1_17) rfl ?_
        show Steps p.tables e below (s₁.setTop (mkF m 18 #[iv pz] [(.int pz)])) _
        exact kt
      by_cases hc6 : pz = (2 : Int32)
      · obtain ⟨T8, X8, e8, st8⟩ := getS2 X0 hx hZ hown (host := "") (Or.inl (hw _ (own_m 9 rfl))) Via.refl e0 (U_JUMP.1.ext O0.2) (g := (mkF m 22 #[iv pz] [])) rfl (hb hby own_d1_22)
        obtain ⟨fs, hr, hrun, hended, hW, hsame⟩ := X8.leave (v := some (.ref w_JUMP)) (fun h => by rw [Bd.returns] at h; cases h)
        refine ⟨_, _, pre7 _ ?_, hrun, hended, _, _, rfl, ?_, ⟨_, rfl⟩, hW, hsame.mono (by decide) (by decide)⟩
        · show Steps p.tables e below (s₁.setTop (mkF m 18 #[iv pz] [(.int pz)])) _
          refine XS.iconst X0.here hx rfl (hb hby own_d1_18) ?_
          show Steps p.tables e below (s₁.setTop (mkF m 19 #[iv pz] [(.int 2), (.int pz)])) _
          refine XS.icmpNo X0.here hx rfl (hb hby own_d1_19) rfl (teq hc6).2 ?_
          show Steps p.tables e below (s₁.setTop (mkF m 22 #[iv pz] [])) _
          refine st8 _ ?_
          show Steps p.tables e below (T8.setTop (mkF m 25 #[iv pz] [(.ref w_JUMP)])) _
          jvm_step X8.here [X8.here.top, hx, (hb hby own_d1_25), X8.method', Bd.returns, Value.isRef, FieldType.isReference]
          first | (intro acts; rw [hr _ acts rfl rfl rfl]) | rw [hr _ _ rfl rfl rfl]
          exact Steps.refl _
        · show own_pick_Q Z w_CHARACTER w_SPLIT w_JUMP w_TEXT_START w_LINE_START w_TEXT_END w_LINE_END w_SAVE w_BACK_REFERENCE w_MARK w_PROGRESS w_MATCH w_NOTHING w_DE k_DE pz h0 n0 _ T8.heap _
          rw [e8]
          exact ⟨_, rfl, ⟨U_JUMP.2.1, Fld.ne U_JUMP.2.2 U_NOTHING.2.2 (by decide), Fld.ne U_JUMP.2.2 U_SAVE.2.2 (by decide), Fld.ne U_JUMP.2.2 U_MARK.2.2 (by decide), Fld.ne U_JUMP.2.2 U_PROGRESS.2.2 (by decide)⟩, N0, rfl⟩
      · have pre10 : ∀ t, Steps p.tables e below (s₁.setTop (mkF m 27 #[iv pz] [(.int pz)])) t → Steps p.tables e below (s₁.setTop (entryFrame m #[(.int pz)] 1)) t := fun t kt => by
          refine pre7 _ ?_
          show Steps p.tables e below (s₁.setTop (mkF m 18 #[iv pz] [(.int pz)])) _
          refine XS.iconst X0.here hx rfl (hb hby own_d1_18) ?_
          show Steps p.tables e below (s₁.setTop (mkF m 19 #[iv pz] [(.int 2), (.int pz)])) _
          refine XS.icmpYes X0.here hx rfl (pc0 := 19) (pc' := 26) rfl (hb hby own_d1_19) rfl (feq hc6).2 (by decide) (by decide) ?_
          show Steps p.tables e below (s₁.setTop (mkF m 26 #[iv pz] [])) _
          refine XS.iloadN X0.here hx rfl (hb hby own_d1_26) rfl ?_
          show Steps p.tables e below (s₁.setTop (mkF m 27 #[iv pz] [(.int pz)])) _
          exact kt
        by_cases hc9 : pz = (3 : Int32)
        · obtain ⟨T11, X11, e11, st11⟩ := getS2 X0 hx hZ hown (host := "") (Or.inl (hw _ (own_m 4 rfl))) Via.refl e0 (U_TEXT_START.1.ext O0.2) (g := (mkF m 31 #[iv pz] [])) rfl (hb hby own_d1_31)
          obtain ⟨fs, hr, hrun, hended, hW, hsame⟩ := X11.leave (v := some (.ref w_TEXT_START)) (fun h => by rw [Bd.returns] at h; cases h)
          refine ⟨_, _, pre10 _ ?_, hrun, hended, _, _, rfl, ?_, ⟨_, rfl⟩, hW, hsame.mono (by decide) (by decide)⟩
          · show Steps p.tables e below (s₁.setTop (mkF m 27 #[iv pz] [(.int pz)])) _
            refine XS.iconst X0.here hx rfl (hb hby own_d1_27) ?_
            show Steps p.tables e below (s₁.setTop (mkF m 28 #[iv pz] [(.int 3), (.int pz)])) _
            refine XS.icmpNo X0.here hx rfl (hb hby own_d1_28) rfl (teq hc9).2 ?_
            show Steps p.tables e below (s₁.setTop (mkF m 31 #[iv pz] [])) _
            refine st11 _ ?_
            show Steps p.tables e below (T11.setTop (mkF m 34 #[iv pz] [(.ref w_TEXT_START)])) _
            jvm_step X11.here [X11.here.top, hx, (hb hby own_d1_34), X11.method', Bd.returns, Value.isRef, FieldType.isReference]
            first | (intro acts; rw [hr _ acts rfl rfl rfl]) | rw [hr _ _ rfl rfl rfl]
            exact Steps.refl _
          · show own_pick_Q Z w_CHARACTER w_SPLIT w_JUMP w_TEXT_START w_LINE_START w_TEXT_END w_LINE_END w_SAVE w_BACK_REFERENCE w_MARK w_PROGRESS w_MATCH w_NOTHING w_DE k_DE pz h0 n0 _ T11.heap _
            rw [e11]
            exact ⟨_, rfl, ⟨U_TEXT_START.2.1, Fld.ne U_TEXT_START.2.2 U_NOTHING.2.2 (by decide), Fld.ne U_TEXT_START.2.2 U_SAVE.2.2 (by decide), Fld.ne U_TEXT_START.2.2 U_MARK.2.2 (by decide), Fld.ne U_TEXT_START.2.2 U_PROGRESS.2.2 (by decide)⟩, N0, rfl⟩
        · have pre13 : ∀ t, Steps p.tables e below (s₁.setTop (mkF m 36 #[iv pz] [(.int pz)])) t → Steps p.tables e below (s₁.setTop (entryFrame m #[(.int pz)] 1)) t := fun t kt => by
            refine pre10 _ ?_
            show Steps p.tables e below (s₁.setTop (mkF m 27 #[iv pz] [(.int pz)])) _
            refine XS.iconst X0.here hx rfl (hb hby own_d1_27) ?_
            show Steps p.tables e below (s₁.setTop (mkF m 28 #[iv pz] [(.int 3), (.int pz)])) _
            refine XS.icmpYes X0.here hx rfl (pc0 := 28) (pc' := 35) rfl (hb hby own_d1_28) rfl (feq hc9).2 (by decide) (by decide) ?_
            show Steps p.tables e below (s₁.setTop (mkF m 35 #[iv pz] [])) _
            refine XS.iloadN X0.here hx rfl (hb hby own_d1_35) rfl ?_
            show Steps p.tables e below (s₁.setTop (mkF m 36 #[iv pz] [(.int pz)])) _
            exact kt
          by_cases hc12 : pz = (4 : Int32)
          · obtain ⟨T14, X14, e14, st14⟩ := getS2 X0 hx hZ hown (host := "") (Or.inl (hw _ (own_m 164 rfl))) Via.refl e0 (U_LINE_START.1.ext O0.2) (g := (mkF m 40 #[iv pz] [])) rfl (hb hby own_d1_40)
            obtain ⟨fs, hr, hrun, hended, hW, hsame⟩ := X14.leave (v := some (.ref w_LINE_START)) (fun h => by rw [Bd.returns] at h; cases h)
            refine ⟨_, _, pre13 _ ?_, hrun, hended, _, _, rfl, ?_, ⟨_, rfl⟩, hW, hsame.mono (by decide) (by decide)⟩
            · show Steps p.tables e below (s₁.setTop (mkF m 36 #[iv pz] [(.int pz)])) _
              refine XS.iconst X0.here hx rfl (hb hby own_d1_36) ?_
              show Steps p.tables e below (s₁.setTop (mkF m 37 #[iv pz] [(.int 4), (.int pz)])) _
              refine XS.icmpNo X0.here hx rfl (hb hby own_d1_37) rfl (teq hc12).2 ?_
              show Steps p.tables e below (s₁.setTop (mkF m 40 #[iv pz] [])) _
              refine st14 _ ?_
              show Steps p.tables e below (T14.setTop (mkF m 43 #[iv pz] [(.ref w_LINE_START)])) _
              jvm_step X14.here [X14.here.top, hx, (hb hby own_d1_43), X14.method', Bd.returns, Value.isRef, FieldType.isReference]
              first | (intro acts; rw [hr _ acts rfl rfl rfl]) | rw [hr _ _ rfl rfl rfl]
              exact Steps.refl _
            · show own_pick_Q Z w_CHARACTER w_SPLIT w_JUMP w_TEXT_START w_LINE_START w_TEXT_END w_LINE_END w_SAVE w_BACK_REFERENCE w_MARK w_PROGRESS w_MATCH w_NOTHING w_DE k_DE pz h0 n0 _ T14.heap _
              rw [e14]
              exact ⟨_, rfl, ⟨U_LINE_START.2.1, Fld.ne U_LINE_START.2.2 U_NOTHING.2.2 (by decide), Fld.ne U_LINE_START.2.2 U_SAVE.2.2 (by decide), Fld.ne U_LINE_START.2.2 U_MARK.2.2 (by decide), Fld.ne U_LINE_START.2.2 U_PROGRESS.2.2 (by decide)⟩, N0, rfl⟩
          · have pre16 : ∀ t, Steps p.tables e below (s₁.setTop (mkF m 45 #[iv pz] [(.int pz)])) t → Steps p.tables e below (s₁.setTop (entryFrame m #[(.int pz)] 1)) t := fun t kt => by
              refine pre13 _ ?_
              show Steps p.tables e below (s₁.setTop (mkF m 36 #[iv pz] [(.int pz)])) _
              refine XS.iconst X0.here hx rfl (hb hby own_d1_36) ?_
              show Steps p.tables e below (s₁.setTop (mkF m 37 #[iv pz] [(.int 4), (.int pz)])) _
              refine XS.icmpYes X0.here hx rfl (pc0 := 37) (pc' := 44) rfl (hb hby own_d1_37) rfl (feq hc12).2 (by decide) (by decide) ?_
              show Steps p.tables e below (s₁.setTop (mkF m 44 #[iv pz] [])) _
              refine XS.iloadN X0.here hx rfl (hb hby own_d1_44) rfl ?_
              show Steps p.tables e below (s₁.setTop (mkF m 45 #[iv pz] [(.int pz)])) _
              exact kt
            by_cases hc15 : pz = (5 : Int32)
            · obtain ⟨T17, X17, e17, st17⟩ := getS2 X0 hx hZ hown (host := "") (Or.inl (hw _ (own_m 168 rfl))) Via.refl e0 (U_TEXT_END.1.ext O0.2) (g := (mkF m 49 #[iv pz] [])) rfl (hb hby own_d1_49)
              obtain ⟨fs, hr, hrun, hended, hW, hsame⟩ := X17.leave (v := some (.ref w_TEXT_END)) (fun h => by rw [Bd.returns] at h; cases h)
              refine ⟨_, _, pre16 _ ?_, hrun, hended, _, _, rfl, ?_, ⟨_, rfl⟩, hW, hsame.mono (by decide) (by decide)⟩
              · show Steps p.tables e below (s₁.setTop (mkF m 45 #[iv pz] [(.int pz)])) _
                refine XS.iconst X0.here hx rfl (hb hby own_d1_45) ?_
                show Steps p.tables e below (s₁.setTop (mkF m 46 #[iv pz] [(.int 5), (.int pz)])) _
                refine XS.icmpNo X0.here hx rfl (hb hby own_d1_46) rfl (teq hc15).2 ?_
                show Steps p.tables e below (s₁.setTop (mkF m 49 #[iv pz] [])) _
                refine st17 _ ?_
                show Steps p.tables e below (T17.setTop (mkF m 52 #[iv pz] [(.ref w_TEXT_END)])) _
                jvm_step X17.here [X17.here.top, hx, (hb hby own_d1_52), X17.method', Bd.returns, Value.isRef, FieldType.isReference]
                first | (intro acts; rw [hr _ acts rfl rfl rfl]) | rw [hr _ _ rfl rfl rfl]
                exact Steps.refl _
              · show own_pick_Q Z w_CHARACTER w_SPLIT w_JUMP w_TEXT_START w_LINE_START w_TEXT_END w_LINE_END w_SAVE w_BACK_REFERENCE w_MARK w_PROGRESS w_MATCH w_NOTHING w_DE k_DE pz h0 n0 _ T17.heap _
                rw [e17]
                exact ⟨_, rfl, ⟨U_TEXT_END.2.1, Fld.ne U_TEXT_END.2.2 U_NOTHING.2.2 (by decide), Fld.ne U_TEXT_END.2.2 U_SAVE.2.2 (by decide), Fld.ne U_TEXT_END.2.2 U_MARK.2.2 (by decide), Fld.ne U_TEXT_END.2.2 U_PROGRESS.2.2 (by decide)⟩, N0, rfl⟩
            · have pre19 : ∀ t, Steps p.tables e below (s₁.setTop (mkF m 54 #[iv pz] [(.int pz)])) t → Steps p.tables e below (s₁.setTop (entryFrame m #[(.int pz)] 1)) t := fun t kt => by
                refine pre16 _ ?_
                show Steps p.tables e below (s₁.setTop (mkF m 45 #[iv pz] [(.int pz)])) _
                refine XS.iconst X0.here hx rfl (hb hby own_d1_45) ?_
                show Steps p.tables e below (s₁.setTop (mkF m 46 #[iv pz] [(.int 5), (.int pz)])) _
                refine XS.icmpYes X0.here hx rfl (pc0 := 46) (pc' := 53) rfl (hb hby own_d1_46) rfl (feq hc15).2 (by decide) (by decide) ?_
                show Steps p.tables e below (s₁.setTop (mkF m 53 #[iv pz] [])) _
                refine XS.iloadN X0.here hx rfl (hb hby own_d1_53) rfl ?_
                show Steps p.tables e below (s₁.setTop (mkF m 54 #[iv pz] [(.int pz)])) _
                exact kt
              by_cases hc18 : pz = (6 : Int32)
              · obtain ⟨T20, X20, e20, st20⟩ := getS2 X0 hx hZ hown (host := "") (Or.inl (hw _ (own_m 70 rfl))) Via.refl e0 (U_LINE_END.1.ext O0.2) (g := (mkF m 59 #[iv pz] [])) rfl (hb hby own_d1_59)
                obtain ⟨fs, hr, hrun, hended, hW, hsame⟩ := X20.leave (v := some (.ref w_LINE_END)) (fun h => by rw [Bd.returns] at h; cases h)
                refine ⟨_, _, pre19 _ ?_, hrun, hended, _, _, rfl, ?_, ⟨_, rfl⟩, hW, hsame.mono (by decide) (by decide)⟩
                · show Steps p.tables e below (s₁.setTop (mkF m 54 #[iv pz] [(.int pz)])) _
                  refine XS.bipush X0.here hx rfl (hb hby own_d1_54) ?_
                  show Steps p.tables e below (s₁.setTop (mkF m 56 #[iv pz] [(.int 6), (.int pz)])) _
                  refine XS.icmpNo X0.here hx rfl (hb hby own_d1_56) rfl (teq hc18).2 ?_
                  show Steps p.tables e below (s₁.setTop (mkF m 59 #[iv pz] [])) _
                  refine st20 _ ?_
                  show Steps p.tables e below (T20.setTop (mkF m 62 #[iv pz] [(.ref w_LINE_END)])) _
                  jvm_step X20.here [X20.here.top, hx, (hb hby own_d1_62), X20.method', Bd.returns, Value.isRef, FieldType.isReference]
                  first | (intro acts; rw [hr _ acts rfl rfl rfl]) | rw [hr _ _ rfl rfl rfl]
                  exact Steps.refl _
                · show own_pick_Q Z w_CHARACTER w_SPLIT w_JUMP w_TEXT_START w_LINE_START w_TEXT_END w_LINE_END w_SAVE w_BACK_REFERENCE w_MARK w_PROGRESS w_MATCH w_NOTHING w_DE k_DE pz h0 n0 _ T20.heap _
                  rw [e20]
                  exact ⟨_, rfl, ⟨U_LINE_END.2.1, Fld.ne U_LINE_END.2.2 U_NOTHING.2.2 (by decide), Fld.ne U_LINE_END.2.2 U_SAVE.2.2 (by decide), Fld.ne U_LINE_END.2.2 U_MARK.2.2 (by decide), Fld.ne U_LINE_END.2.2 U_PROGRESS.2.2 (by decide)⟩, N0, rfl⟩
              · obtain ⟨T21, X21, e21, st21⟩ := getS2 X0 hx hZ hown (host := "") (Or.inl (hw _ (own_m 170 rfl))) Via.refl e0 (U_BACK_REFERENCE.1.ext O0.2) (g := (mkF m 63 #[iv pz] [])) rfl (hb hby own_d1_63)
                obtain ⟨fs, hr, hrun, hended, hW, hsame⟩ := X21.leave (v := some (.ref w_BACK_REFERENCE)) (fun h => by rw [Bd.returns] at h; cases h)
                refine ⟨_, _, pre19 _ ?_, hrun, hended, _, _, rfl, ?_, ⟨_, rfl⟩, hW, hsame.mono (by decide) (by decide)⟩
                · show Steps p.tables e below (s₁.setTop (mkF m 54 #[iv pz] [(.int pz)])) _
                  refine XS.bipush X0.here hx rfl (hb hby own_d1_54) ?_
                  show Steps p.tables e below (s₁.setTop (mkF m 56 #[iv pz] [(.int 6), (.int pz)])) _
                  refine XS.icmpYes X0.here hx rfl (pc0 := 56) (pc' := 63) rfl (hb hby own_d1_56) rfl (feq hc18).2 (by decide) (by decide) ?_
                  show Steps p.tables e below (s₁.setTop (mkF m 63 #[iv pz] [])) _
                  refine st21 _ ?_
                  show Steps p.tables e below (T21.setTop (mkF m 66 #[iv pz] [(.ref w_BACK_REFERENCE)])) _
                  jvm_step X21.here [X21.here.top, hx, (hb hby own_d1_66), X21.method', Bd.returns, Value.isRef, FieldType.isReference]
                  first | (intro acts; rw [hr _ acts rfl rfl rfl]) | rw [hr _ _ rfl rfl rfl]
                  exact Steps.refl _
                · show own_pick_Q Z w_CHARACTER w_SPLIT w_JUMP w_TEXT_START w_LINE_START w_TEXT_END w_LINE_END w_SAVE w_BACK_REFERENCE w_MARK w_PROGRESS w_MATCH w_NOTHING w_DE k_DE pz h0 n0 _ T21.heap _
                  rw [e21]
                  exact ⟨_, rfl, ⟨U_BACK_REFERENCE.2.1, Fld.ne U_BACK_REFERENCE.2.2 U_NOTHING.2.2 (by decide), Fld.ne U_BACK_REFERENCE.2.2 U_SAVE.2.2 (by decide), Fld.ne U_BACK_REFERENCE.2.2 U_MARK.2.2 (by decide), Fld.ne U_BACK_REFERENCE.2.2 U_PROGRESS.2.2 (by decide)⟩, N0, rfl⟩
theorem own_ac_ef (m : MethodId) (a : Addr) : entryFrame m #[(.ref a)] 1 = mkF m 0 #[rv a] [] := by first | (simp [entryFrame, mkF, argsToLocals, Value.category]; done) | rfl
def own_ac_Q (Z : State) (w_CHARACTER : Addr) (w_SPLIT : Addr) (w_JUMP : Addr) (w_TEXT_START : Addr) (w_LINE_START : Addr) (w_TEXT_END : Addr) (w_LINE_END : Addr) (w_SAVE : Addr) (w_BACK_REFERENCE : Addr) (w_MARK : Addr) (w_PROGRESS : Addr) (w_MATCH : Addr) (w_NOTHING : Addr) (w_DE : Addr) (k_DE : ClassId) (a : Addr) (h0 : Heap) (n0 : Nat) (v : Option Value) (h : Heap) (L : List Loc) : Prop := v = none ∧ Fr n0 L ∧ h = h0
set_option maxRecDepth 65536 in
set_option maxHeartbeats 40000000 in
theorem own_ac (l : Launch) (Z : State) (a0 : Array Value) (hw : ∀ d ∈ tables_1, d.before a0 Z = true) (ws : List Jvm.Cond) (w_CHARACTER : Addr) (w_SPLIT : Addr) (w_JUMP : Addr) (w_TEXT_START : Addr) (w_LINE_START : Addr) (w_TEXT_END : Addr) (w_LINE_END : Addr) (w_SAVE : Addr) (w_BACK_REFERENCE : Addr) (w_MARK : Addr) (w_PROGRESS : Addr) (w_MATCH : Addr) (w_NOTHING : Addr) (w_DE : Addr) (k_DE : ClassId) (a : Addr) (h0 : Heap) (n0 : Nat) (O0 : Old Z n0 h0) (U_CHARACTER : own_En Z Z.heap "com/example/quillgraph/quillgraph/sparql/RegexProgram$Op" "CHARACTER" "Lcom/example/quillgraph/quillgraph/sparql/RegexProgram$Op;" w_CHARACTER (0 : Int32)) (U_SPLIT : own_En Z Z.heap "com/example/quillgraph/quillgraph/sparql/RegexProgram$Op" "SPLIT" "Lcom/example/quillgraph/quillgraph/sparql/RegexProgram$Op;" w_SPLIT (1 : Int32)) (U_JUMP : own_En Z Z.heap "com/example/quillgraph/quillgraph/sparql/RegexProgram$Op" "JUMP" "Lcom/example/quillgraph/quillgraph/sparql/RegexProgram$Op;" w_JUMP (2 : Int32)) (U_TEXT_START : own_En Z Z.heap "com/example/quillgraph/quillgraph/sparql/RegexProgram$Op" "TEXT_START" "Lcom/example/quillgraph/quillgraph/sparql/RegexProgram$Op;" w_TEXT_START (3 : Int32)) (U_LINE_START : own_En Z Z.heap "com/example/quillgraph/quillgraph/sparql/RegexProgram$Op" "LINE_START" "Lcom/example/quillgraph/quillgraph/sparql/RegexProgram$Op;" w_LINE_START (4 : Int32)) (U_TEXT_END : own_En Z Z.heap "com/example/quillgraph/quillgraph/sparql/RegexProgram$Op" "TEXT_END" "Lcom/example/quillgraph/quillgraph/sparql/RegexProgram$Op;" w_TEXT_END (5 : Int32)) (U_LINE_END : own_En Z Z.heap "com/example/quillgraph/quillgraph/sparql/RegexProgram$Op" "LINE_END" "Lcom/example/quillgraph/quillgraph/sparql/RegexProgram$Op;" w_LINE_END (6 : Int32)) (U_SAVE : own_En Z Z.heap "com/example/quillgraph/quillgraph/sparql/RegexProgram$Op" "SAVE" "Lcom/example/quillgraph/quillgraph/sparql/RegexProgram$Op;" w_SAVE (7 : Int32)) (U_BACK_REFERENCE : own_En Z Z.heap "com/example/quillgraph/quillgraph/sparql/RegexProgram$Op" "BACK_REFERENCE" "Lcom/example/quillgraph/quillgraph/sparql/RegexProgram$Op;" w_BACK_REFERENCE (8 : Int32)) (U_MARK : own_En Z Z.heap "com/example/quillgraph/quillgraph/sparql/RegexProgram$Op" "MARK" "Lcom/example/quillgraph/quillgraph/sparql/RegexProgram$Op;" w_MARK (9 : Int32)) (U_PROGRESS : own_En Z Z.heap "com/example/quillgraph/quillgraph/sparql/RegexProgram$Op" "PROGRESS" "Lcom/example/quillgraph/quillgraph/sparql/RegexProgram$Op;" w_PROGRESS (10 : Int32)) (U_MATCH : own_En Z Z.heap "com/example/quillgraph/quillgraph/sparql/RegexProgram$Op" "MATCH" "Lcom/example/quillgraph/quillgraph/sparql/RegexProgram$Op;" w_MATCH (11 : Int32)) (U_NOTHING : own_En Z Z.heap "com/example/quillgraph/quillgraph/sparql/RegexProgram$Op" "NOTHING" "Lcom/example/quillgraph/quillgraph/sparql/RegexProgram$Op;" w_NOTHING (12 : Int32)) (S_DE : Sta Z Z.heap "java/util/ArrayList" "DEFAULTCAPACITY_EMPTY_ELEMENTDATA" "[Ljava/lang/Object;" (.ref w_DE)) (V_DE : Arv Z Z.heap w_DE k_DE (.object "java/lang/Object") (0 : Int32) [] .null) :
    MetFree l (⟨"java/util/AbstractCollection", "<init>", "()V"⟩ : MethodName) (head1 (Jvm.Cond.code (⟨"java/util/AbstractCollection", "<init>", "()V"⟩ : MethodName) jdk_22_method_1_code 1 none :: ws) ({ frames := 1, cells := 0, slots := 0, locals := 12 } : Room)) (fun ar U => ar = #[(.ref a)] ∧ Z.Warmed39 U.vm ∧ U.heap = h0) (fun _ _ _ _ _ => True) (fun _ U oc U' => ∃ v L, oc = .returned v ∧ own_ac_Q Z w_CHARACTER w_SPLIT w_JUMP w_TEXT_START w_LINE_START w_TEXT_END w_LINE_END w_SAVE w_BACK_REFERENCE w_MARK w_PROGRESS w_MATCH w_NOTHING w_DE k_DE a h0 n0 v U'.heap L ∧ FrameEnd U oc U' L ({ frames := 1, cells := 0, slots := 0, locals := 12 } : Room).cells ({ frames := 1, cells := 0, slots := 0, locals := 12 } : Room).slots) := by
  refine MetFree.of_bodySF (plainFor_of_name own_pn1) hisR ?_
  intro p e s m args below meth c s₁ Bd hml0 hP hK
  obtain ⟨rfl, hZ, hh⟩ := hP
  have hx := Bd.exec
  have hby := Bd.bytes
  have hml : c.maxLocals = 1 := hml0
  have hown : s.vm.findClass "java/util/AbstractCollection" = some m.cls := findClass_of_methodNamed Bd.named
  have hnm := (name_of_methodNamed Bd.named Bd.method).1
  have X0 : Stand p l e ({ frames := 1, cells := 0, slots := 0, locals := 12 } : Room) s m #[(.ref a)] below meth c s₁ [] 0 0 := Stand.of_body Bd
  have e0 : s₁.heap = h0 := by rw [← hh, Bd.state]; rfl
  have N0 := Fr.nil n0
  have pre0 : ∀ t, Steps p.tables e below (s₁.setTop (mkF m 0 #[rv a] [])) t → Steps p.tables e below (s₁.setTop (entryFrame m #[(.ref a)] 1)) t := fun t k => castTop (own_ac_ef m a) k
  obtain ⟨T1, X1, e1, st1⟩ := initO X0 hx hZ hown (hw _ (own_m 47 rfl)) (hw _ (own_m 18 rfl)) (hw _ (own_m 19 rfl)) e0 (g := (mkF m 1 #[rv a] [(.ref a)])) rfl (by rw [hml]; rfl) rfl (hb hby own_d6_1) (by decide) (W := 0) (by show 2 * 0 + _ ≤ _; exact Nat.le_of_eq rfl) (by decide)
  obtain ⟨fs, hr, hrun, hended, hW, hsame⟩ := X1.leave (v := none) (fun _ => rfl)
  refine ⟨_, _, pre0 _ ?_, hrun, hended, _, _, rfl, ?_, ⟨_, rfl⟩, hW, hsame.mono (by decide) (by decide)⟩
  · show Steps p.tables e below (s₁.setTop (mkF m 0 #[rv a] [])) _
    refine XS.aloadN X0.here hx rfl (hb hby own_d6_0) rfl rfl ?_
    show Steps p.tables e below (s₁.setTop (mkF m 1 #[rv a] [(.ref a)])) _
    refine st1 _ ?_
    show Steps p.tables e below (T1.setTop (mkF m 4 #[rv a] [])) _
    exact X1.returnOut hx Bd.returns (hb hby own_d6_4) hr
  · show own_ac_Q Z w_CHARACTER w_SPLIT w_JUMP w_TEXT_START w_LINE_START w_TEXT_END w_LINE_END w_SAVE w_BACK_REFERENCE w_MARK w_PROGRESS w_MATCH w_NOTHING w_DE k_DE a h0 n0 _ T1.heap _
    rw [e1]
    exact ⟨rfl, N0, rfl⟩
theorem own_al_ef (m : MethodId) (a : Addr) : entryFrame m #[(.ref a)] 1 = mkF m 0 #[rv a] [] := by first | (simp [entryFrame, mkF, argsToLocals, Value.category]; done) | rfl
def own_al_Q (Z : State) (w_CHARACTER : Addr) (w_SPLIT : Addr) (w_JUMP : Addr) (w_TEXT_START : Addr) (w_LINE_START : Addr) (w_TEXT_END : Addr) (w_LINE_END : Addr) (w_SAVE : Addr) (w_BACK_REFERENCE : Addr) (w_MARK : Addr) (w_PROGRESS : Addr) (w_MATCH : Addr) (w_NOTHING : Addr) (w_DE : Addr) (k_DE : ClassId) (a : Addr) (h0 : Heap) (n0 : Nat) (v : Option Value) (h : Heap) (L : List Loc) : Prop := v = none ∧ Fr n0 L ∧ Keep h0 h [a] ∧ Exa Z h a "java/util/ArrayList" ∧ Fld Z h a "java/util/ArrayList" "elementData" "[Ljava/lang/Object;" .null ∧ Fld Z h a "java/util/ArrayList" "size" "I" (.int 0) ∧ Fld Z h a "java/util/AbstractList" "modCount" "I" (.int 0)
set_option maxRecDepth 65536 in
set_option maxHeartbeats 40000000 in
theorem own_al (l : Launch) (Z : State) (a0 : Array Value) (hw : ∀ d ∈ tables_1, d.before a0 Z = true) (ws : List Jvm.Cond) (w_CHARACTER : Addr) (w_SPLIT : Addr) (w_JUMP : Addr) (w_TEXT_START : Addr) (w_LINE_START : Addr) (w_TEXT_END : Addr) (w_LINE_END : Addr) (w_SAVE : Addr) (w_BACK_REFERENCE : Addr) (w_MARK : Addr) (w_PROGRESS : Addr) (w_MATCH : Addr) (w_NOTHING : Addr) (w_DE : Addr) (k_DE : ClassId) (a : Addr) (h0 : Heap) (n0 : Nat) (O0 : Old Z n0 h0) (U_CHARACTER : own_En Z Z.heap "com/example/quillgraph/quillgraph/sparql/RegexProgram$Op" "CHARACTER" "Lcom/example/quillgraph/quillgraph/sparql/RegexProgram$Op;" w_CHARACTER (0 : Int32)) (U_SPLIT : own_En Z Z.heap "com/example/quillgraph/quillgraph/sparql/RegexProgram$Op" "SPLIT" "Lcom/example/quillgraph/quillgraph/sparql/RegexProgram$Op;" w_SPLIT (1 : Int32)) (U_JUMP : own_En Z Z.heap "com/example/quillgraph/quillgraph/sparql/RegexProgram$Op" "JUMP" "Lcom/example/quillgraph/quillgraph/sparql/RegexProgram$Op;" w_JUMP (2 : Int32)) (U_TEXT_START : own_En Z Z.heap "com/example/quillgraph/quillgraph/sparql/RegexProgram$Op" "TEXT_START" "Lcom/example/quillgraph/quillgraph/sparql/RegexProgram$Op;" w_TEXT_START (3 : Int32)) (U_LINE_START : own_En Z Z.heap "com/example/quillgraph/quillgraph/sparql/RegexProgram$Op" "LINE_START" "Lcom/example/quillgraph/quillgraph/sparql/RegexProgram$Op;" w_LINE_START (4 : Int32)) (U_TEXT_END : own_En Z Z.heap "com/example/quillgraph/quillgraph/sparql/RegexProgram$Op" "TEXT_END" "Lcom/example/quillgraph/quillgraph/sparql/RegexProgram$Op;" w_TEXT_END (5 : Int32)) (U_LINE_END : own_En Z Z.heap "com/example/quillgraph/quillgraph/sparql/RegexProgram$Op" "LINE_END" "Lcom/example/quillgraph/quillgraph/sparql/RegexProgram$Op;" w_LINE_END (6 : Int32)) (U_SAVE : own_En Z Z.heap "com/example/quillgraph/quillgraph/sparql/RegexProgram$Op" "SAVE" "Lcom/example/quillgraph/quillgraph/sparql/RegexProgram$Op;" w_SAVE (7 : Int32)) (U_BACK_REFERENCE : own_En Z Z.heap "com/example/quillgraph/quillgraph/sparql/RegexProgram$Op" "BACK_REFERENCE" "Lcom/example/quillgraph/quillgraph/sparql/RegexProgram$Op;" w_BACK_REFERENCE (8 : Int32)) (U_MARK : own_En Z Z.heap "com/example/quillgraph/quillgraph/sparql/RegexProgram$Op" "MARK" "Lcom/example/quillgraph/quillgraph/sparql/RegexProgram$Op;" w_MARK (9 : Int32)) (U_PROGRESS : own_En Z Z.heap "com/example/quillgraph/quillgraph/sparql/RegexProgram$Op" "PROGRESS" "Lcom/example/quillgraph/quillgraph/sparql/RegexProgram$Op;" w_PROGRESS (10 : Int32)) (U_MATCH : own_En Z Z.heap "com/example/quillgraph/quillgraph/sparql/RegexProgram$Op" "MATCH" "Lcom/example/quillgraph/quillgraph/sparql/RegexProgram$Op;" w_MATCH (11 : Int32)) (U_NOTHING : own_En Z Z.heap "com/example/quillgraph/quillgraph/sparql/RegexProgram$Op" "NOTHING" "Lcom/example/quillgraph/quillgraph/sparql/RegexProgram$Op;" w_NOTHING (12 : Int32)) (S_DE : Sta Z Z.heap "java/util/ArrayList" "DEFAULTCAPACITY_EMPTY_ELEMENTDATA" "[Ljava/lang/Object;" (.ref w_DE)) (V_DE : Arv Z Z.heap w_DE k_DE (.object "java/lang/Object") (0 : Int32) [] .null) (g_a : n0 ≤ a) (E_a : Exa Z h0 a "java/util/ArrayList") (F_elementData : Fld Z h0 a "java/util/ArrayList" "elementData" "[Ljava/lang/Object;" .null) (F_size : Fld Z h0 a "java/util/ArrayList" "size" "I" (.int 0)) (F_modCount : Fld Z h0 a "java/util/AbstractList" "modCount" "I" (.int 0)) :
    MetFree l (⟨"java/util/AbstractList", "<init>", "()V"⟩ : MethodName) (head1 (Jvm.Cond.code (⟨"java/util/AbstractList", "<init>", "()V"⟩ : MethodName) jdk_39_method_1_code 1 none :: ws) ({ frames := 2, cells := 0, slots := 0, locals := 24 } : Room)) (fun ar U => ar = #[(.ref a)] ∧ Z.Warmed39 U.vm ∧ U.heap = h0) (fun _ _ _ _ _ => True) (fun _ U oc U' => ∃ v L, oc = .returned v ∧ own_al_Q Z w_CHARACTER w_SPLIT w_JUMP w_TEXT_START w_LINE_START w_TEXT_END w_LINE_END w_SAVE w_BACK_REFERENCE w_MARK w_PROGRESS w_MATCH w_NOTHING w_DE k_DE a h0 n0 v U'.heap L ∧ FrameEnd U oc U' L ({ frames := 2, cells := 0, slots := 0, locals := 24 } : Room).cells ({ frames := 2, cells := 0, slots := 0, locals := 24 } : Room).slots) := by
  refine MetFree.of_bodySF (plainFor_of_name own_pn2) hisR ?_
  intro p e s m args below meth c s₁ Bd hml0 hP hK
  obtain ⟨rfl, hZ, hh⟩ := hP
  have hx := Bd.exec
  have hby := Bd.bytes
  have hml : c.maxLocals = 1 := hml0
  have hown : s.vm.findClass "java/util/AbstractList" = some m.cls := findClass_of_methodNamed Bd.named
  have hnm := (name_of_methodNamed Bd.named Bd.method).1
  have X0 : Stand p l e ({ frames := 2, cells := 0, slots := 0, locals := 24 } : Room) s m #[(.ref a)] below meth c s₁ [] 0 0 := Stand.of_body Bd
  have e0 : s₁.heap = h0 := by rw [← hh, Bd.state]; rfl
  have N0 := Fr.nil n0
  have pre0 : ∀ t, Steps p.tables e below (s₁.setTop (mkF m 0 #[rv a] [])) t → Steps p.tables e below (s₁.setTop (entryFrame m #[(.ref a)] 1)) t := fun t k => castTop (own_al_ef m a) k
  have kp0 := Keep.refl h0 ([a] : List Addr)
  obtain ⟨_, _, ⟨T1, L1, k1, n1⟩, -, X1, ⟨Lc1, hQ1, l1, y1, z1⟩, st1⟩ := X0.specialBack hx (y := (⟨"java/util/AbstractCollection", "<init>", "()V"⟩ : MethodName)) rfl hown (mvT hZ (hw _ (own_m 41 rfl))) (mvT hZ (hw _ (own_m 42 rfl))) (mvT hZ (hw _ (own_m 46 rfl))) (by decide) (backOf (W := 0) (own_ac l Z a0 hw [] w_CHARACTER w_SPLIT w_JUMP w_TEXT_START w_LINE_START w_TEXT_END w_LINE_END w_SAVE w_BACK_REFERENCE w_MARK w_PROGRESS w_MATCH w_NOTHING w_DE k_DE a h0 n0 O0 U_CHARACTER U_SPLIT U_JUMP U_TEXT_START U_LINE_START U_TEXT_END U_LINE_END U_SAVE U_BACK_REFERENCE U_MARK U_PROGRESS U_MATCH U_NOTHING S_DE V_DE ) hZ (hw _ (own_m 46 rfl)) (hw _ (own_m 45 rfl)) (by decide) (by decide)) (g := (mkF m 1 #[rv a] [(.ref a)])) rfl (by rw [hml]; rfl) (Steps.refl _) (a := a) (argsL := []) (rest := []) (lenOf own_pd0 rfl) rfl (by show 2 * 0 + _ ≤ _; exact Nat.le_of_eq rfl) (hb hby own_d5_1) (fun _ _ => ⟨rfl, e0, (by decide : 0 + 0 ≤ _), (by decide : 0 + 0 ≤ _)⟩)
  dsimp only [Pt.U, Pt.locs, Pt.cells, Pt.slots] at X1 l1 y1 z1 st1 hQ1
  subst l1 y1 z1
  obtain ⟨rfl, N1q, e1⟩ := hQ1
  have N1 := Fr.app N0 N1q
  obtain ⟨T2, h2, X2, e2, W2, st2⟩ := putF X1 hx hZ hown (host := "") (Or.inl (hw _ (own_m 48 rfl))) Via.refl e1 F_modCount E_a (Or.inl (hw _ (own_m 49 rfl))) (hw _ (own_m 30 rfl)) (ty := .int) (by decide) rfl rfl (g := (mkF m 6 #[rv a] [(.int 0), (.ref a)])) rfl rfl (hb hby own_d5_6)
  have Fw2 := F_modCount.same W2
  have O3 := O0.wr W2 g_a
  have kp4 := kp0.wr W2 (Or.inl (own_m 0 rfl))
  have N2 := Fr.snoc X2 N1 g_a
  have f5 := (E_a.wr W2)
  have f6 := (F_elementData.other W2 (Or.inr (slot_ne (Or.inl (hw _ (own_m 52 rfl))) (Or.inl (hw _ (own_m 49 rfl))) (by decide) (t := (.array (.object "java/lang/Object"))) (t' := .int) (by decide) (by decide))))
  have f7 := (F_size.other W2 (Or.inr (slot_ne (Or.inl (hw _ (own_m 118 rfl))) (Or.inl (hw _ (own_m 49 rfl))) (by decide) (t := .int) (t' := .int) (by decide) (by decide))))
  obtain ⟨fs, hr, hrun, hended, hW, hsame⟩ := X2.leave (v := none) (fun _ => rfl)
  refine ⟨_, _, pre0 _ ?_, hrun, hended, _, _, rfl, ?_, ⟨_, rfl⟩, hW, hsame.mono (by decide) (by decide)⟩
  · show Steps p.tables e below (s₁.setTop (mkF m 0 #[rv a] [])) _
    refine XS.aloadN X0.here hx rfl (hb hby own_d5_0) rfl rfl ?_
    show Steps p.tables e below (s₁.setTop (mkF m 1 #[rv a] [(.ref a)])) _
    refine st1.trans ?_
    show Steps p.tables e below (T1.setTop (mkF m 4 #[rv a] [])) _
    refine XS.aloadN X1.here hx rfl (hb hby own_d5_4) rfl rfl ?_
    show Steps p.tables e below (T1.setTop (mkF m 5 #[rv a] [(.ref a)])) _
    refine XS.iconst X1.here hx rfl (hb hby own_d5_5) ?_
    show Steps p.tables e below (T1.setTop (mkF m 6 #[rv a] [(.int 0), (.ref a)])) _
    refine st2 _ ?_
    show Steps p.tables e below (T2.setTop (mkF m 9 #[rv a] [])) _
    exact X2.returnOut hx Bd.returns (hb hby own_d5_9) hr
  · show own_al_Q Z w_CHARACTER w_SPLIT w_JUMP w_TEXT_START w_LINE_START w_TEXT_END w_LINE_END w_SAVE w_BACK_REFERENCE w_MARK w_PROGRESS w_MATCH w_NOTHING w_DE k_DE a h0 n0 _ T2.heap _
    rw [e2]
    exact ⟨rfl, N2, kp4, f5, f6, f7, Fw2⟩
theorem own_li_ef (m : MethodId) (a : Addr) : entryFrame m #[(.ref a)] 1 = mkF m 0 #[rv a] [] := by first | (simp [entryFrame, mkF, argsToLocals, Value.category]; done) | rfl
def own_li_Q (Z : State) (w_CHARACTER : Addr) (w_SPLIT : Addr) (w_JUMP : Addr) (w_TEXT_START : Addr) (w_LINE_START : Addr) (w_TEXT_END : Addr) (w_LINE_END : Addr) (w_SAVE : Addr) (w_BACK_REFERENCE : Addr) (w_MARK : Addr) (w_PROGRESS : Addr) (w_MATCH : Addr) (w_NOTHING : Addr) (w_DE : Addr) (k_DE : ClassId) (a : Addr) (h0 : Heap) (n0 : Nat) (v : Option Value) (h : Heap) (L : List Loc) : Prop := v = none ∧ Fr n0 L ∧ Keep h0 h [a] ∧ Exa Z h a "java/util/ArrayList" ∧ Fld Z h a "java/util/ArrayList" "elementData" "[Ljava/lang/Object;" (.ref w_DE) ∧ Fld Z h a "java/util/ArrayList" "size" "I" (.int 0) ∧ Fld Z h a "java/util/AbstractList" "modCount" "I" (.int 0)
set_option maxRecDepth 65536 in
set_option maxHeartbeats 40000000 in
theorem own_li (l : Launch) (Z : State) (a0 : Array Value) (hw : ∀ d ∈ tables_1, d.before a0 Z = true) (ws : List Jvm.Cond) (w_CHARACTER : Addr) (w_SPLIT : Addr) (w_JUMP : Addr) (w_TEXT_START : Addr) (w_LINE_START : Addr) (w_TEXT_END : Addr) (w_LINE_END : Addr) (w_SAVE : Addr) (w_BACK_REFERENCE : Addr) (w_MARK : Addr) (w_PROGRESS : Addr) (w_MATCH : Addr) (w_NOTHING : Addr) (w_DE : Addr) (k_DE : ClassId) (a : Addr) (h0 : Heap) (n0 : Nat) (O0 : Old Z n0 h0) (U_CHARACTER : own_En Z Z.heap "com/example/quillgraph/quillgraph/sparql/RegexProgram$Op" "CHARACTER" "Lcom/example/quillgraph/quillgraph/sparql/RegexProgram$Op;" w_CHARACTER (0 : Int32)) (U_SPLIT : own_En Z Z.heap "com/example/quillgraph/quillgraph/sparql/RegexProgram$Op" "SPLIT" "Lcom/example/quillgraph/quillgraph/sparql/RegexProgram$Op;" w_SPLIT (1 : Int32)) (U_JUMP : own_En Z Z.heap "com/example/quillgraph/quillgraph/sparql/RegexProgram$Op" "JUMP" "Lcom/example/quillgraph/quillgraph/sparql/RegexProgram$Op;" w_JUMP (2 : Int32)) (U_TEXT_START : own_En Z Z.heap "com/example/quillgraph/quillgraph/sparql/RegexProgram$Op" "TEXT_START" "Lcom/example/quillgraph/quillgraph/sparql/RegexProgram$Op;" w_TEXT_START (3 : Int32)) (U_LINE_START : own_En Z Z.heap "com/example/quillgraph/quillgraph/sparql/RegexProgram$Op" "LINE_START" "Lcom/example/quillgraph/quillgraph/sparql/RegexProgram$Op;" w_LINE_START (4 : Int32)) (U_TEXT_END : own_En Z Z.heap "com/example/quillgraph/quillgraph/sparql/RegexProgram$Op" "TEXT_END" "Lcom/example/quillgraph/quillgraph/sparql/RegexProgram$Op;" w_TEXT_END (5 : Int32)) (U_LINE_END : own_En Z Z.heap "com/example/quillgraph/quillgraph/sparql/RegexProgram$Op" "LINE_END" "Lcom/example/quillgraph/quillgraph/sparql/RegexProgram$Op;" w_LINE_END (6 : Int32)) (U_SAVE : own_En Z Z.heap "com/example/quillgraph/quillgraph/sparql/RegexProgram$Op" "SAVE" "Lcom/example/quillgraph/quillgraph/sparql/RegexProgram$Op;" w_SAVE (7 : Int32)) (U_BACK_REFERENCE : own_En Z Z.heap "com/example/quillgraph/quillgraph/sparql/RegexProgram$Op" "BACK_REFERENCE" "Lcom/example/quillgraph/quillgraph/sparql/RegexProgram$Op;" w_BACK_REFERENCE (8 : Int32)) (U_MARK : own_En Z Z.heap "com/example/quillgraph/quillgraph/sparql/RegexProgram$Op" "MARK" "Lcom/example/quillgraph/quillgraph/sparql/RegexProgram$Op;" w_MARK (9 : Int32)) (U_PROGRESS : own_En Z Z.heap "com/example/quillgraph/quillgraph/sparql/RegexProgram$Op" "PROGRESS" "Lcom/example/quillgraph/quillgraph/sparql/RegexProgram$Op;" w_PROGRESS (10 : Int32)) (U_MATCH : own_En Z Z.heap "com/example/quillgraph/quillgraph/sparql/RegexProgram$Op" "MATCH" "Lcom/example/quillgraph/quillgraph/sparql/RegexProgram$Op;" w_MATCH (11 : Int32)) (U_NOTHING : own_En Z Z.heap "com/example/quillgraph/quillgraph/sparql/RegexProgram$Op" "NOTHING" "Lcom/example/quillgraph/quillgraph/sparql/RegexProgram$Op;" w_NOTHING (12 : Int32)) (S_DE : Sta Z Z.heap "java/util/ArrayList" "DEFAULTCAPACITY_EMPTY_ELEMENTDATA" "[Ljava/lang/Object;" (.ref w_DE)) (V_DE : Arv Z Z.heap w_DE k_DE (.object "java/lang/Object") (0 : Int32) [] .null) (g_a : n0 ≤ a) (E_a : Exa Z h0 a "java/util/ArrayList") (F_elementData : Fld Z h0 a "java/util/ArrayList" "elementData" "[Ljava/lang/Object;" .null) (F_size : Fld Z h0 a "java/util/ArrayList" "size" "I" (.int 0)) (F_modCount : Fld Z h0 a "java/util/AbstractList" "modCount" "I" (.int 0)) :
    MetFree l (⟨"java/util/ArrayList", "<init>", "()V"⟩ : MethodName) (head1 (Jvm.Cond.code (⟨"java/util/ArrayList", "<init>", "()V"⟩ : MethodName) jdk_38_method_2_code 1 none :: ws) ({ frames := 3, cells := 0, slots := 0, locals := 36 } : Room)) (fun ar U => ar = #[(.ref a)] ∧ Z.Warmed39 U.vm ∧ U.heap = h0) (fun _ _ _ _ _ => True) (fun _ U oc U' => ∃ v L, oc = .returned v ∧ own_li_Q Z w_CHARACTER w_SPLIT w_JUMP w_TEXT_START w_LINE_START w_TEXT_END w_LINE_END w_SAVE w_BACK_REFERENCE w_MARK w_PROGRESS w_MATCH w_NOTHING w_DE k_DE a h0 n0 v U'.heap L ∧ FrameEnd U oc U' L ({ frames := 3, cells := 0, slots := 0, locals := 36 } : Room).cells ({ frames := 3, cells := 0, slots := 0, locals := 36 } : Room).slots) := by
  refine MetFree.of_bodySF (plainFor_of_name own_pn3) hisR ?_
  intro p e s m args below meth c s₁ Bd hml0 hP hK
  obtain ⟨rfl, hZ, hh⟩ := hP
  have hx := Bd.exec
  have hby := Bd.bytes
  have hml : c.maxLocals = 1 := hml0
  have hown : s.vm.findClass "java/util/ArrayList" = some m.cls := findClass_of_methodNamed Bd.named
  have hnm := (name_of_methodNamed Bd.named Bd.method).1
  have X0 : Stand p l e ({ frames := 3, cells := 0, slots := 0, locals := 36 } : Room) s m #[(.ref a)] below meth c s₁ [] 0 0 := Stand.of_body Bd
  have e0 : s₁.heap = h0 := by rw [← hh, Bd.state]; rfl
  have N0 := Fr.nil n0
  have pre0 : ∀ t, Steps p.tables e below (s₁.setTop (mkF m 0 #[rv a] [])) t → Steps p.tables e below (s₁.setTop (entryFrame m #[(.ref a)] 1)) t := fun t k => castTop (own_li_ef m a) k
  have kp0 := Keep.refl h0 ([a] : List Addr)
  obtain ⟨_, _, ⟨T1, L1, k1, n1⟩, -, X1, ⟨Lc1, hQ1, l1, y1, z1⟩, st1⟩ := X0.specialBack hx (y := (⟨"java/util/AbstractList", "<init>", "()V"⟩ : MethodName)) rfl hown (mvT hZ (hw _ (own_m 35 rfl))) (mvT hZ (hw _ (own_m 36 rfl))) (mvT hZ (hw _ (own_m 40 rfl))) (by decide) (backOf (W := 0) (own_al l Z a0 hw [] w_CHARACTER w_SPLIT w_JUMP w_TEXT_START w_LINE_START w_TEXT_END w_LINE_END w_SAVE w_BACK_REFERENCE w_MARK w_PROGRESS w_MATCH w_NOTHING w_DE k_DE a h0 n0 O0 U_CHARACTER U_SPLIT U_JUMP U_TEXT_START U_LINE_START U_TEXT_END U_LINE_END U_SAVE U_BACK_REFERENCE U_MARK U_PROGRESS U_MATCH U_NOTHING S_DE V_DE g_a E_a F_elementData F_size F_modCount) hZ (hw _ (own_m 40 rfl)) (hw _ (own_m 39 rfl)) (by decide) (by decide)) (g := (mkF m 1 #[rv a] [(.ref a)])) rfl (by rw [hml]; rfl) (Steps.refl _) (a := a) (argsL := []) (rest := []) (lenOf own_pd0 rfl) rfl (by show 2 * 0 + _ ≤ _; exact Nat.le_of_eq rfl) (hb hby own_d4_1) (fun _ _ => ⟨rfl, e0, (by decide : 0 + 0 ≤ _), (by decide : 0 + 0 ≤ _)⟩)
  dsimp only [Pt.U, Pt.locs, Pt.cells, Pt.slots] at X1 l1 y1 z1 st1 hQ1
  subst l1 y1 z1
  obtain ⟨rfl, N1q, K1, q2, q3, q4, q5⟩ := hQ1
  have N1 := Fr.app N0 N1q
  have O6 := O0.keep K1 (allS g_a all0)
  have kp7 := kp0.trans K1 ((allS (P := fun x => x ∈ ([a] : List Addr) ∨ h0.size ≤ x) (Or.inl (own_m 0 rfl)) all0))
  obtain ⟨T8, X8, e8, st8⟩ := getS2 X1 hx hZ hown (host := "") (Or.inl (hw _ (own_m 50 rfl))) Via.refl rfl (S_DE.ext O6.2) (g := (mkF m 5 #[rv a] [(.ref a)])) rfl (hb hby own_d4_5)
  obtain ⟨T9, h9, X9, e9, W9, st9⟩ := putF X8 hx hZ hown (host := "") (Or.inl (hw _ (own_m 51 rfl))) Via.refl e8 q3 q2 (Or.inl (hw _ (own_m 52 rfl))) (hw _ (own_m 30 rfl)) (ty := (.array (.object "java/lang/Object"))) (by decide) rfl rfl (g := (mkF m 8 #[rv a] [(.ref w_DE), (.ref a)])) rfl rfl (hb hby own_d4_8)
  have Fw9 := q3.same W9
  have O10 := O6.wr W9 g_a
  have kp11 := kp7.wr W9 (Or.inl (own_m 0 rfl))
  have N9 := Fr.snoc X9 N1 g_a
  have f12 := (q2.wr W9)
  have f13 := (q4.other W9 (Or.inr (slot_ne (Or.inl (hw _ (own_m 118 rfl))) (Or.inl (hw _ (own_m 52 rfl))) (by decide) (t := .int) (t' := (.array (.object "java/lang/Object"))) (by decide) (by decide))))
  have f14 := (q5.other W9 (Or.inr (slot_ne (Or.inl (hw _ (own_m 49 rfl))) (Or.inl (hw _ (own_m 52 rfl))) (by decide) (t := .int) (t' := (.array (.object "java/lang/Object"))) (by decide) (by decide))))
  obtain ⟨fs, hr, hrun, hended, hW, hsame⟩ := X9.leave (v := none) (fun _ => rfl)
  refine ⟨_, _, pre0 _ ?_, hrun, hended, _, _, rfl, ?_, ⟨_, rfl⟩, hW, hsame.mono (by decide) (by decide)⟩
  · show Steps p.tables e below (s₁.setTop (mkF m 0 #[rv a] [])) _
    refine XS.aloadN X0.here hx rfl (hb hby own_d4_0) rfl rfl ?_
    show Steps p.tables e below (s₁.setTop (mkF m 1 #[rv a] [(.ref a)])) _
    refine st1.trans ?_
    show Steps p.tables e below (T1.setTop (mkF m 4 #[rv a] [])) _
    refine XS.aloadN X1.here hx rfl (hb hby own_d4_4) rfl rfl ?_
    show Steps p.tables e below (T1.setTop (mkF m 5 #[rv a] [(.ref a)])) _
    refine st8 _ ?_
    show Steps p.tables e below (T8.setTop (mkF m 8 #[rv a] [(.ref w_DE), (.ref a)])) _
    refine st9 _ ?_
    show Steps p.tables e below (T9.setTop (mkF m 11 #[rv a] [])) _
    exact X9.returnOut hx Bd.returns (hb hby own_d4_11) hr
  · show own_li_Q Z w_CHARACTER w_SPLIT w_JUMP w_TEXT_START w_LINE_START w_TEXT_END w_LINE_END w_SAVE w_BACK_REFERENCE w_MARK w_PROGRESS w_MATCH w_NOTHING w_DE k_DE a h0 n0 _ T9.heap _
    rw [e9]
    exact ⟨rfl, N9, kp11, f12, Fw9, f13, f14⟩
theorem own_bk_ef (m : MethodId) (a : Addr) : entryFrame m #[(.ref a), (.int 16)] 2 = mkF m 0 #[rv a, iv 16] [] := by first | (simp [entryFrame, mkF, argsToLocals, Value.category]; done) | rfl
def own_bk_Q (Z : State) (w_CHARACTER : Addr) (w_SPLIT : Addr) (w_JUMP : Addr) (w_TEXT_START : Addr) (w_LINE_START : Addr) (w_TEXT_END : Addr) (w_LINE_END : Addr) (w_SAVE : Addr) (w_BACK_REFERENCE : Addr) (w_MARK : Addr) (w_PROGRESS : Addr) (w_MATCH : Addr) (w_NOTHING : Addr) (w_DE : Addr) (k_DE : ClassId) (a : Addr) (h0 : Heap) (n0 : Nat) (v : Option Value) (h : Heap) (L : List Loc) : Prop := v = none ∧ Fr n0 L ∧ Keep h0 h [a] ∧ ∃ (bo bf bs ll : Addr) (ko kf ks : ClassId), h0.size ≤ bo ∧ h0.size ≤ bf ∧ h0.size ≤ bs ∧ h0.size ≤ ll ∧ bo ≠ a ∧ bf ≠ a ∧ bs ≠ a ∧ ll ≠ a ∧ bo ≠ bf ∧ bo ≠ bs ∧ bf ≠ bs ∧ bo ≠ ll ∧ bf ≠ ll ∧ bs ≠ ll ∧ Ovr Z ko "com/example/quillgraph/quillgraph/sparql/RegexProgram$Op" ∧ Arv Z h bo ko (.object "com/example/quillgraph/quillgraph/sparql/RegexProgram$Op") (16 : Int32) [.null, .null, .null, .null, .null, .null, .null, .null, .null, .null, .null, .null, .null, .null, .null, .null] .null ∧ Arv Z h bf kf .int (16 : Int32) [(.int 0), (.int 0), (.int 0), (.int 0), (.int 0), (.int 0), (.int 0), (.int 0), (.int 0), (.int 0), (.int 0), (.int 0), (.int 0), (.int 0), (.int 0), (.int 0)] (.int 0) ∧ Arv Z h bs ks .int (16 : Int32) [(.int 0), (.int 0), (.int 0), (.int 0), (.int 0), (.int 0), (.int 0), (.int 0), (.int 0), (.int 0), (.int 0), (.int 0), (.int 0), (.int 0), (.int 0), (.int 0)] (.int 0) ∧ Exa Z h ll "java/util/ArrayList" ∧ Fld Z h ll "java/util/ArrayList" "elementData" "[Ljava/lang/Object;" (.ref w_DE) ∧ Fld Z h ll "java/util/ArrayList" "size" "I" (.int 0) ∧ Fld Z h ll "java/util/AbstractList" "modCount" "I" (.int 0) ∧ Exa Z h a "com/example/quillgraph/quillgraph/sparql/RegexProgram$Builder" ∧ Fld Z h a "com/example/quillgraph/quillgraph/sparql/RegexProgram$Builder" "ops" "[Lcom/example/quillgraph/quillgraph/sparql/RegexProgram$Op;" (.ref bo) ∧ Fld Z h a "com/example/quillgraph/quillgraph/sparql/RegexProgram$Builder" "first" "[I" (.ref bf) ∧ Fld Z h a "com/example/quillgraph/quillgraph/sparql/RegexProgram$Builder" "second" "[I" (.ref bs) ∧ Fld Z h a "com/example/quillgraph/quillgraph/sparql/RegexProgram$Builder" "classes" "Ljava/util/List;" (.ref ll) ∧ Fld Z h a "com/example/quillgraph/quillgraph/sparql/RegexProgram$Builder" "limit" "I" (.int 16) ∧ Fld Z h a "com/example/quillgraph/quillgraph/sparql/RegexProgram$Builder" "size" "I" (.int 0) ∧ Fld Z h a "com/example/quillgraph/quillgraph/sparql/RegexProgram$Builder" "registers" "I" (.int 0)
set_option maxRecDepth 65536 in
set_option maxHeartbeats 40000000 in
theorem own_bk (l : Launch) (Z : State) (a0 : Array Value) (hw : ∀ d ∈ tables_1, d.before a0 Z = true) (ws : List Jvm.Cond) (w_CHARACTER : Addr) (w_SPLIT : Addr) (w_JUMP : Addr) (w_TEXT_START : Addr) (w_LINE_START : Addr) (w_TEXT_END : Addr) (w_LINE_END : Addr) (w_SAVE : Addr) (w_BACK_REFERENCE : Addr) (w_MARK : Addr) (w_PROGRESS : Addr) (w_MATCH : Addr) (w_NOTHING : Addr) (w_DE : Addr) (k_DE : ClassId) (a : Addr) (h0 : Heap) (n0 : Nat) (O0 : Old Z n0 h0) (U_CHARACTER : own_En Z Z.heap "com/example/quillgraph/quillgraph/sparql/RegexProgram$Op" "CHARACTER" "Lcom/example/quillgraph/quillgraph/sparql/RegexProgram$Op;" w_CHARACTER (0 : Int32)) (U_SPLIT : own_En Z Z.heap "com/example/quillgraph/quillgraph/sparql/RegexProgram$Op" "SPLIT" "Lcom/example/quillgraph/quillgraph/sparql/RegexProgram$Op;" w_SPLIT (1 : Int32)) (U_JUMP : own_En Z Z.heap "com/example/quillgraph/quillgraph/sparql/RegexProgram$Op" "JUMP" "Lcom/example/quillgraph/quillgraph/sparql/RegexProgram$Op;" w_JUMP (2 : Int32)) (U_TEXT_START : own_En Z Z.heap "com/example/quillgraph/quillgraph/sparql/RegexProgram$Op" "TEXT_START" "Lcom/example/quillgraph/quillgraph/sparql/RegexProgram$Op;" w_TEXT_START (3 : Int32)) (U_LINE_START : own_En Z Z.heap "com/example/quillgraph/quillgraph/sparql/RegexProgram$Op" "LINE_START" "Lcom/example/quillgraph/quillgraph/sparql/RegexProgram$Op;" w_LINE_START (4 : Int32)) (U_TEXT_END : own_En Z Z.heap "com/example/quillgraph/quillgraph/sparql/RegexProgram$Op" "TEXT_END" "Lcom/example/quillgraph/quillgraph/sparql/RegexProgram$Op;" w_TEXT_END (5 : Int32)) (U_LINE_END : own_En Z Z.heap "com/example/quillgraph/quillgraph/sparql/RegexProgram$Op" "LINE_END" "Lcom/example/quillgraph/quillgraph/sparql/RegexProgram$Op;" w_LINE_END (6 : Int32)) (U_SAVE : own_En Z Z.heap "com/example/quillgraph/quillgraph/sparql/RegexProgram$Op" "SAVE" "Lcom/example/quillgraph/quillgraph/sparql/RegexProgram$Op;" w_SAVE (7 : Int32)) (U_BACK_REFERENCE : own_En Z Z.heap "com/example/quillgraph/quillgraph/sparql/RegexProgram$Op" "BACK_REFERENCE" "Lcom/example/quillgraph/quillgraph/sparql/RegexProgram$Op;" w_BACK_REFERENCE (8 : Int32)) (U_MARK : own_En Z Z.heap "com/example/quillgraph/quillgraph/sparql/RegexProgram$Op" "MARK" "Lcom/example/quillgraph/quillgraph/sparql/RegexProgram$Op;" w_MARK (9 : Int32)) (U_PROGRESS : own_En Z Z.heap "com/example/quillgraph/quillgraph/sparql/RegexProgram$Op" "PROGRESS" "Lcom/example/quillgraph/quillgraph/sparql/RegexProgram$Op;" w_PROGRESS (10 : Int32)) (U_MATCH : own_En Z Z.heap "com/example/quillgraph/quillgraph/sparql/RegexProgram$Op" "MATCH" "Lcom/example/quillgraph/quillgraph/sparql/RegexProgram$Op;" w_MATCH (11 : Int32)) (U_NOTHING : own_En Z Z.heap "com/example/quillgraph/quillgraph/sparql/RegexProgram$Op" "NOTHING" "Lcom/example/quillgraph/quillgraph/sparql/RegexProgram$Op;" w_NOTHING (12 : Int32)) (S_DE : Sta Z Z.heap "java/util/ArrayList" "DEFAULTCAPACITY_EMPTY_ELEMENTDATA" "[Ljava/lang/Object;" (.ref w_DE)) (V_DE : Arv Z Z.heap w_DE k_DE (.object "java/lang/Object") (0 : Int32) [] .null) (g_a : n0 ≤ a) (E_a : Exa Z h0 a "com/example/quillgraph/quillgraph/sparql/RegexProgram$Builder") (F_ops : Fld Z h0 a "com/example/quillgraph/quillgraph/sparql/RegexProgram$Builder" "ops" "[Lcom/example/quillgraph/quillgraph/sparql/RegexProgram$Op;" .null) (F_first : Fld Z h0 a "com/example/quillgraph/quillgraph/sparql/RegexProgram$Builder" "first" "[I" .null) (F_second : Fld Z h0 a "com/example/quillgraph/quillgraph/sparql/RegexProgram$Builder" "second" "[I" .null) (F_classes : Fld Z h0 a "com/example/quillgraph/quillgraph/sparql/RegexProgram$Builder" "classes" "Ljava/util/List;" .null) (F_limit : Fld Z h0 a "com/example/quillgraph/quillgraph/sparql/RegexProgram$Builder" "limit" "I" (.int 0)) (F_size : Fld Z h0 a "com/example/quillgraph/quillgraph/sparql/RegexProgram$Builder" "size" "I" (.int 0)) (F_registers : Fld Z h0 a "com/example/quillgraph/quillgraph/sparql/RegexProgram$Builder" "registers" "I" (.int 0)) :
    MetFree l (⟨"com/example/quillgraph/quillgraph/sparql/RegexProgram$Builder", "<init>", "(I)V"⟩ : MethodName) (head1 (Jvm.Cond.code (⟨"com/example/quillgraph/quillgraph/sparql/RegexProgram$Builder", "<init>", "(I)V"⟩ : MethodName) prog_117_method_1_code 2 none :: ws) ({ frames := 4, cells := 4, slots := 51, locals := 50 } : Room)) (fun ar U => ar = #[(.ref a), (.int 16)] ∧ Z.Warmed39 U.vm ∧ U.heap = h0) (fun _ _ _ _ _ => True) (fun _ U oc U' => ∃ v L, oc = .returned v ∧ own_bk_Q Z w_CHARACTER w_SPLIT w_JUMP w_TEXT_START w_LINE_START w_TEXT_END w_LINE_END w_SAVE w_BACK_REFERENCE w_MARK w_PROGRESS w_MATCH w_NOTHING w_DE k_DE a h0 n0 v U'.heap L ∧ FrameEnd U oc U' L ({ frames := 4, cells := 4, slots := 51, locals := 50 } : Room).cells ({ frames := 4, cells := 4, slots := 51, locals := 50 } : Room).slots) := by
  refine MetFree.of_bodySF (plainFor_of_name own_pn4) hisR ?_
  intro p e s m args below meth c s₁ Bd hml0 hP hK
  obtain ⟨rfl, hZ, hh⟩ := hP
  have hx := Bd.exec
  have hby := Bd.bytes
  have hml : c.maxLocals = 2 := hml0
  have hown : s.vm.findClass "com/example/quillgraph/quillgraph/sparql/RegexProgram$Builder" = some m.cls := findClass_of_methodNamed Bd.named
  have hnm := (name_of_methodNamed Bd.named Bd.method).1
  have X0 : Stand p l e ({ frames := 4, cells := 4, slots := 51, locals := 50 } : Room) s m #[(.ref a), (.int 16)] below meth c s₁ [] 0 0 := Stand.of_body Bd
  have e0 : s₁.heap = h0 := by rw [← hh, Bd.state]; rfl
  have N0 := Fr.nil n0
  have pre0 : ∀ t, Steps p.tables e below (s₁.setTop (mkF m 0 #[rv a, iv 16] [])) t → Steps p.tables e below (s₁.setTop (entryFrame m #[(.ref a), (.int 16)] 2)) t := fun t k => castTop (own_bk_ef m a) k
  have kp0 := Keep.refl h0 ([a] : List Addr)
  obtain ⟨T1, X1, e1, st1⟩ := initO X0 hx hZ hown (hw _ (own_m 17 rfl)) (hw _ (own_m 18 rfl)) (hw _ (own_m 19 rfl)) e0 (g := (mkF m 1 #[rv a, iv 16] [(.ref a)])) rfl (by rw [hml]; rfl) rfl (hb hby own_d2_1) (by decide) (W := 0) (by show 2 * 0 + _ ≤ _; exact Nat.le_of_eq rfl) (by decide)
  obtain ⟨T2, h2, k2, X2, e2, E2, A2, O2, st2⟩ := newR X1 hx hZ hown (hw _ (own_m 20 rfl)) (hw _ (own_m 21 rfl)) e1 (g := (mkF m 7 #[rv a, iv 16] [(.int 16), (.ref a)])) rfl (hb hby own_d2_7) rfl (by decide) (cap := 16) (by decide) (by decide) (by decide) (by decide)
  obtain ⟨b2, g2⟩ : ∃ z, z = h0.size := ⟨_, rfl⟩
  rw [← g2] at A2  st2
  have ne_a_b2 : a ≠ b2 := Nat.ne_of_lt (g2 ▸ E_a.lt)
  have gg_b2 : n0 ≤ b2 := g2 ▸ own_le O0
  have sz_b2 : h0.size ≤ b2 := g2 ▸ kp0.1
  have O3 := O0.ext E2
  have kp4 := kp0.ext E2
  have V_b2 : Arv Z h2 b2 k2 (.object "com/example/quillgraph/quillgraph/sparql/RegexProgram$Op") (16 : Int32) [.null, .null, .null, .null, .null, .null, .null, .null, .null, .null, .null, .null, .null, .null, .null, .null] .null := (Arv.new A2 (by decide)).pad (pad_rep [] .null 16)
  have f5 := (F_ops.ext E2)
  have f6 := (E_a.ext E2)
  obtain ⟨T7, h7, X7, e7, W7, st7⟩ := putF X2 hx hZ hown (host := "") (Or.inl (hw _ (own_m 22 rfl))) Via.refl e2 f5 f6 (Or.inl (hw _ (own_m 23 rfl))) (hw _ (own_m 12 rfl)) (ty := (.array (.object "com/example/quillgraph/quillgraph/sparql/RegexProgram$Op"))) (by decide) rfl rfl (g := (mkF m 10 #[rv a, iv 16] [(.ref b2), (.ref a)])) rfl rfl (hb hby own_d2_10)
  have Fw7 := f5.same W7
  have O8 := O3.wr W7 g_a
  have kp9 := kp4.wr W7 (Or.inl (own_m 0 rfl))
  have N7 := Fr.snoc X7 N0 g_a
  have f10 := (f6.wr W7)
  have f11 := (V_b2.other W7 (Ne.symm ne_a_b2))
  obtain ⟨T12, h12, k12, X12, e12, E12, A12, st12⟩ := newP X7 hx hZ (hw _ (own_m 24 rfl)) e7 (g := (mkF m 16 #[rv a, iv 16] [(.int 16), (.ref a)])) rfl (hb hby own_d2_16) rfl (by decide) (cap := 16) (by decide) (by decide) (by decide) (by decide)
  obtain ⟨b12, g12⟩ : ∃ z, z = h7.size := ⟨_, rfl⟩
  rw [← g12] at A12  st12
  have ne_a_b12 : a ≠ b12 := Nat.ne_of_lt (g12 ▸ f10.lt)
  have ne_b2_b12 : b2 ≠ b12 := Nat.ne_of_lt (g12 ▸ f11.lt)
  have gg_b12 : n0 ≤ b12 := g12 ▸ own_le O8
  have sz_b12 : h0.size ≤ b12 := g12 ▸ kp9.1
  have O13 := O8.ext E12
  have kp14 := kp9.ext E12
  have V_b12 : Arv Z h12 b12 k12 .int (16 : Int32) [(.int 0), (.int 0), (.int 0), (.int 0), (.int 0), (.int 0), (.int 0), (.int 0), (.int 0), (.int 0), (.int 0), (.int 0), (.int 0), (.int 0), (.int 0), (.int 0)] (.int 0) := (Arv.new A12 (by decide)).pad (pad_rep [] (.int 0) 16)
  have f15 := (((F_first.ext E2).other W7 (Or.inr (slot_ne (Or.inl (hw _ (own_m 26 rfl))) (Or.inl (hw _ (own_m 23 rfl))) (by decide) (t := (.array .int)) (t' := (.array (.object "com/example/quillgraph/quillgraph/sparql/RegexProgram$Op"))) (by decide) (by decide)))).ext E12)
  have f16 := (f10.ext E12)
  obtain ⟨T17, h17, X17, e17, W17, st17⟩ := putF X12 hx hZ hown (host := "") (Or.inl (hw _ (own_m 25 rfl))) Via.refl e12 f15 f16 (Or.inl (hw _ (own_m 26 rfl))) (hw _ (own_m 12 rfl)) (ty := (.array .int)) (by decide) rfl rfl (g := (mkF m 18 #[rv a, iv 16] [(.ref b12), (.ref a)])) rfl rfl (hb hby own_d2_18)
  have Fw17 := f15.same W17
  have O18 := O13.wr W17 g_a
  have kp19 := kp14.wr W17 (Or.inl (own_m 0 rfl))
  have N17 := Fr.snoc X17 N7 g_a
  have f20 := (f16.wr W17)
  have f21 := ((f11.ext E12).other W17 (Ne.symm ne_a_b2))
  have f22 := (V_b12.other W17 (Ne.symm ne_a_b12))
  obtain ⟨T23, h23, k23, X23, e23, E23, A23, st23⟩ := newP X17 hx hZ (hw _ (own_m 24 rfl)) e17 (g := (mkF m 24 #[rv a, iv 16] [(.int 16), (.ref a)])) rfl (hb hby own_d2_24) rfl (by decide) (cap := 16) (by decide) (by decide) (by decide) (by decide)
  obtain ⟨b23, g23⟩ : ∃ z, z = h17.size := ⟨_, rfl⟩
  rw [← g23] at A23  st23
  have ne_a_b23 : a ≠ b23 := Nat.ne_of_lt (g23 ▸ f20.lt)
  have ne_b2_b23 : b2 ≠ b23 := Nat.ne_of_lt (g23 ▸ f21.lt)
  have ne_b12_b23 : b12 ≠ b23 := Nat.ne_of_lt (g23 ▸ f22.lt)
  have gg_b23 : n0 ≤ b23 := g23 ▸ own_le O18
  have sz_b23 : h0.size ≤ b23 := g23 ▸ kp19.1
  have O24 := O18.ext E23
  have kp25 := kp19.ext E23
  have V_b23 : Arv Z h23 b23 k23 .int (16 : Int32) [(.int 0), (.int 0), (.int 0), (.int 0), (.int 0), (.int 0), (.int 0), (.int 0), (.int 0), (.int 0), (.int 0), (.int 0), (.int 0), (.int 0), (.int 0), (.int 0)] (.int 0) := (Arv.new A23 (by decide)).pad (pad_rep [] (.int 0) 16)
  have f26 := (((((F_second.ext E2).other W7 (Or.inr (slot_ne (Or.inl (hw _ (own_m 28 rfl))) (Or.inl (hw _ (own_m 23 rfl))) (by decide) (t := (.array .int)) (t' := (.array (.object "com/example/quillgraph/quillgraph/sparql/RegexProgram$Op"))) (by decide) (by decide)))).ext E12).other W17 (Or.inr (slot_ne (Or.inl (hw _ (own_m 28 rfl))) (Or.inl (hw _ (own_m 26 rfl))) (by decide) (t := (.array .int)) (t' := (.array .int)) (by decide) (by decide)))).ext E23)
  have f27 := (f20.ext E23)
  obtain ⟨T28, h28, X28, e28, W28, st28⟩ := putF X23 hx hZ hown (host := "") (Or.inl (hw _ (own_m 27 rfl))) Via.refl e23 f26 f27 (Or.inl (hw _ (own_m 28 rfl))) (hw _ (own_m 12 rfl)) (ty := (.array .int)) (by decide) rfl rfl (g := (mkF m 26 #[rv a, iv 16] [(.ref b23), (.ref a)])) rfl rfl (hb hby own_d2_26)
  have Fw28 := f26.same W28
  have O29 := O24.wr W28 g_a
  have kp30 := kp25.wr W28 (Or.inl (own_m 0 rfl))
  have N28 := Fr.snoc X28 N17 g_a
  have f31 := (f27.wr W28)
  have f32 := ((f21.ext E23).other W28 (Ne.symm ne_a_b2))
  have f33 := ((f22.ext E23).other W28 (Ne.symm ne_a_b12))
  have f34 := (V_b23.other W28 (Ne.symm ne_a_b23))
  obtain ⟨T35, h35, X35, e35, E35, A35, D35, -, st35⟩ := newO X28 hx hZ hown (hw _ (own_m 29 rfl)) (hw _ (own_m 30 rfl)) (hw _ (own_m 31 rfl)) e28 (g := (mkF m 30 #[rv a, iv 16] [(.ref a)])) rfl (hb hby own_d2_30) (by decide) (by decide)
  obtain ⟨b35, g35⟩ : ∃ z, z = h28.size := ⟨_, rfl⟩
  rw [← g35] at A35 D35 st35
  have ne_a_b35 : a ≠ b35 := Nat.ne_of_lt (g35 ▸ f31.lt)
  have ne_b2_b35 : b2 ≠ b35 := Nat.ne_of_lt (g35 ▸ f32.lt)
  have ne_b12_b35 : b12 ≠ b35 := Nat.ne_of_lt (g35 ▸ f33.lt)
  have ne_b23_b35 : b23 ≠ b35 := Nat.ne_of_lt (g35 ▸ f34.lt)
  have gg_b35 : n0 ≤ b35 := g35 ▸ own_le O29
  have sz_b35 : h0.size ≤ b35 := g35 ▸ kp30.1
  have O36 := O29.ext E35
  have kp37 := kp30.ext E35
  have F_modCount_b35 : Fld Z h35 b35 "java/util/AbstractList" "modCount" "I" (.int 0) := D35 (Or.inl (hw _ (own_m 49 rfl))) (ty := .int) (by decide)
  have F_elementData_b35 : Fld Z h35 b35 "java/util/ArrayList" "elementData" "[Ljava/lang/Object;" .null := D35 (Or.inl (hw _ (own_m 52 rfl))) (ty := (.array (.object "java/lang/Object"))) (by decide)
  have F_size_b35 : Fld Z h35 b35 "java/util/ArrayList" "size" "I" (.int 0) := D35 (Or.inl (hw _ (own_m 118 rfl))) (ty := .int) (by decide)
  obtain ⟨_, _, ⟨T38, L38, k38, n38⟩, -, X38, ⟨Lc38, hQ38, l38, y38, z38⟩, st38⟩ := X35.specialBack hx (y := (⟨"java/util/ArrayList", "<init>", "()V"⟩ : MethodName)) rfl hown (mvT hZ (hw _ (own_m 32 rfl))) (mvT hZ (hw _ (own_m 33 rfl))) (mvT hZ (hw _ (own_m 34 rfl))) (by decide) (backOf (W := 2) (own_li l Z a0 hw [] w_CHARACTER w_SPLIT w_JUMP w_TEXT_START w_LINE_START w_TEXT_END w_LINE_END w_SAVE w_BACK_REFERENCE w_MARK w_PROGRESS w_MATCH w_NOTHING w_DE k_DE b35 h35 n0 O36 U_CHARACTER U_SPLIT U_JUMP U_TEXT_START U_LINE_START U_TEXT_END U_LINE_END U_SAVE U_BACK_REFERENCE U_MARK U_PROGRESS U_MATCH U_NOTHING S_DE V_DE gg_b35 A35 F_elementData_b35 F_size_b35 F_modCount_b35) hZ (hw _ (own_m 34 rfl)) (hw _ (own_m 31 rfl)) (by decide) (by decide)) (g := (mkF m 34 #[rv a, iv 16] [(.ref b35), (.ref b35), (.ref a)])) rfl (by rw [hml]; rfl) (Steps.refl _) (a := b35) (argsL := []) (rest := [(.ref b35), (.ref a)]) (lenOf own_pd0 rfl) rfl (by show 2 * 0 + _ ≤ _; exact Nat.le_of_eq rfl) (hb hby own_d2_34) (fun _ _ => ⟨rfl, e35, (by decide : 4 + 0 ≤ _), (by decide : 51 + 0 ≤ _)⟩)
  dsimp only [Pt.U, Pt.locs, Pt.cells, Pt.slots] at X38 l38 y38 z38 st38 hQ38
  subst l38 y38 z38
  obtain ⟨rfl, N38q, K38, q39, q40, q41, q42⟩ := hQ38
  have N38 := Fr.app N28 N38q
  have O43 := O36.keep K38 (allS gg_b35 all0)
  have kp44 := kp37.trans K38 ((allS (P := fun x => x ∈ ([a] : List Addr) ∨ h0.size ≤ x) (Or.inr sz_b35) all0))
  have f45 := ((((((((F_classes.ext E2).other W7 (Or.inr (slot_ne (Or.inr (hw _ (own_m 54 rfl))) (Or.inl (hw _ (own_m 23 rfl))) (by decide) (t := (.object "java/util/List")) (t' := (.array (.object "com/example/quillgraph/quillgraph/sparql/RegexProgram$Op"))) (by decide) (by decide)))).ext E12).other W17 (Or.inr (slot_ne (Or.inr (hw _ (own_m 54 rfl))) (Or.inl (hw _ (own_m 26 rfl))) (by decide) (t := (.object "java/util/List")) (t' := (.array .int)) (by decide) (by decide)))).ext E23).other W28 (Or.inr (slot_ne (Or.inr (hw _ (own_m 54 rfl))) (Or.inl (hw _ (own_m 28 rfl))) (by decide) (t := (.object "java/util/List")) (t' := (.array .int)) (by decide) (by decide)))).ext E35).keep K38 (ninS ne_a_b35 nin0))
  have f46 := ((f31.ext E35).keep K38)
  obtain ⟨T47, h47, X47, e47, W47, st47⟩ := putF X38 hx hZ hown (host := "") (Or.inl (hw _ (own_m 53 rfl))) Via.refl rfl f45 f46 (Or.inr ⟨(hw _ (own_m 54 rfl)), rfl, hnm⟩) (hw _ (own_m 12 rfl)) (ty := (.object "java/util/List")) (by decide) rfl rfl (g := (mkF m 37 #[rv a, iv 16] [(.ref b35), (.ref a)])) rfl rfl (hb hby own_d2_37)
  have Fw47 := f45.same W47
  have O48 := O43.wr W47 g_a
  have kp49 := kp44.wr W47 (Or.inl (own_m 0 rfl))
  have N47 := Fr.snoc X47 N38 g_a
  have f50 := (((((((((F_limit.ext E2).other W7 (Or.inr (slot_ne (Or.inr (hw _ (own_m 56 rfl))) (Or.inl (hw _ (own_m 23 rfl))) (by decide) (t := .int) (t' := (.array (.object "com/example/quillgraph/quillgraph/sparql/RegexProgram$Op"))) (by decide) (by decide)))).ext E12).other W17 (Or.inr (slot_ne (Or.inr (hw _ (own_m 56 rfl))) (Or.inl (hw _ (own_m 26 rfl))) (by decide) (t := .int) (t' := (.array .int)) (by decide) (by decide)))).ext E23).other W28 (Or.inr (slot_ne (Or.inr (hw _ (own_m 56 rfl))) (Or.inl (hw _ (own_m 28 rfl))) (by decide) (t := .int) (t' := (.array .int)) (by decide) (by decide)))).ext E35).keep K38 (ninS ne_a_b35 nin0)).other W47 (Or.inr (slot_ne (Or.inr (hw _ (own_m 56 rfl))) (Or.inr (hw _ (own_m 54 rfl))) (by decide) (t := .int) (t' := (.object "java/util/List")) (by decide) (by decide))))
  have f51 := (f46.wr W47)
  obtain ⟨T52, h52, X52, e52, W52, st52⟩ := putF X47 hx hZ hown (host := "") (Or.inl (hw _ (own_m 55 rfl))) Via.refl e47 f50 f51 (Or.inr ⟨(hw _ (own_m 56 rfl)), rfl, hnm⟩) (hw _ (own_m 12 rfl)) (ty := .int) (by decide) rfl rfl (g := (mkF m 42 #[rv a, iv 16] [(.int 16), (.ref a)])) rfl rfl (hb hby own_d2_42)
  have Fw52 := f50.same W52
  have O53 := O48.wr W52 g_a
  have kp54 := kp49.wr W52 (Or.inl (own_m 0 rfl))
  have N52 := Fr.snoc X52 N47 g_a
  have f55 := ((((f32.ext E35).keep K38 (ninS ne_b2_b35 nin0)).other W47 (Ne.symm ne_a_b2)).other W52 (Ne.symm ne_a_b2))
  have f56 := ((((f33.ext E35).keep K38 (ninS ne_b12_b35 nin0)).other W47 (Ne.symm ne_a_b12)).other W52 (Ne.symm ne_a_b12))
  have f57 := ((((f34.ext E35).keep K38 (ninS ne_b23_b35 nin0)).other W47 (Ne.symm ne_a_b23)).other W52 (Ne.symm ne_a_b23))
  have f58 := ((q39.wr W47).wr W52)
  have f59 := ((q40.other W47 (Or.inl (Ne.symm ne_a_b35))).other W52 (Or.inl (Ne.symm ne_a_b35)))
  have f60 := ((q41.other W47 (Or.inl (Ne.symm ne_a_b35))).other W52 (Or.inl (Ne.symm ne_a_b35)))
  have f61 := ((q42.other W47 (Or.inl (Ne.symm ne_a_b35))).other W52 (Or.inl (Ne.symm ne_a_b35)))
  have f62 := (f51.wr W52)
  have f63 := ((((((((Fw7.ext E12).other W17 (Or.inr (slot_ne (Or.inl (hw _ (own_m 23 rfl))) (Or.inl (hw _ (own_m 26 rfl))) (by decide) (t := (.array (.object "com/example/quillgraph/quillgraph/sparql/RegexProgram$Op"))) (t' := (.array .int)) (by decide) (by decide)))).ext E23).other W28 (Or.inr (slot_ne (Or.inl (hw _ (own_m 23 rfl))) (Or.inl (hw _ (own_m 28 rfl))) (by decide) (t := (.array (.object "com/example/quillgraph/quillgraph/sparql/RegexProgram$Op"))) (t' := (.array .int)) (by decide) (by decide)))).ext E35).keep K38 (ninS ne_a_b35 nin0)).other W47 (Or.inr (slot_ne (Or.inl (hw _ (own_m 23 rfl))) (Or.inr (hw _ (own_m 54 rfl))) (by decide) (t := (.array (.object "com/example/quillgraph/quillgraph/sparql/RegexProgram$Op"))) (t' := (.object "java/util/List")) (by decide) (by decide)))).other W52 (Or.inr (slot_ne (Or.inl (hw _ (own_m 23 rfl))) (Or.inr (hw _ (own_m 56 rfl))) (by decide) (t := (.array (.object "com/example/quillgraph/quillgraph/sparql/RegexProgram$Op"))) (t' := .int) (by decide) (by decide))))
  have f64 := ((((((Fw17.ext E23).other W28 (Or.inr (slot_ne (Or.inl (hw _ (own_m 26 rfl))) (Or.inl (hw _ (own_m 28 rfl))) (by decide) (t := (.array .int)) (t' := (.array .int)) (by decide) (by decide)))).ext E35).keep K38 (ninS ne_a_b35 nin0)).other W47 (Or.inr (slot_ne (Or.inl (hw _ (own_m 26 rfl))) (Or.inr (hw _ (own_m 54 rfl))) (by decide) (t := (.array .int)) (t' := (.object "java/util/List")) (by decide) (by decide)))).other W52 (Or.inr (slot_ne (Or.inl (hw _ (own_m 26 rfl))) (Or.inr (hw _ (own_m 56 rfl))) (by decide) (t := (.array .int)) (t' := .int) (by decide) (by decide))))
  have f65 := ((((Fw28.ext E35).keep K38 (ninS ne_a_b35 nin0)).other W47 (Or.inr (slot_ne (Or.inl (hw _ (own_m 28 rfl))) (Or.inr (hw _ (own_m 54 rfl))) (by decide) (t := (.array .int)) (t' := (.object "java/util/List")) (by decide) (by decide)))).other W52 (Or.inr (slot_ne (Or.inl (hw _ (own_m 28 rfl))) (Or.inr (hw _ (own_m 56 rfl))) (by decide) (t := (.array .int)) (t' := .int) (by decide) (by decide))))
  have f66 := (Fw47.other W52 (Or.inr (slot_ne (Or.inr (hw _ (own_m 54 rfl))) (Or.inr (hw _ (own_m 56 rfl))) (by decide) (t := (.object "java/util/List")) (t' := .int) (by decide) (by decide))))
  have f67 := ((((((((((F_size.ext E2).other W7 (Or.inr (slot_ne (Or.inl (hw _ (own_m 68 rfl))) (Or.inl (hw _ (own_m 23 rfl))) (by decide) (t := .int) (t' := (.array (.object "com/example/quillgraph/quillgraph/sparql/RegexProgram$Op"))) (by decide) (by decide)))).ext E12).other W17 (Or.inr (slot_ne (Or.inl (hw _ (own_m 68 rfl))) (Or.inl (hw _ (own_m 26 rfl))) (by decide) (t := .int) (t' := (.array .int)) (by decide) (by decide)))).ext E23).other W28 (Or.inr (slot_ne (Or.inl (hw _ (own_m 68 rfl))) (Or.inl (hw _ (own_m 28 rfl))) (by decide) (t := .int) (t' := (.array .int)) (by decide) (by decide)))).ext E35).keep K38 (ninS ne_a_b35 nin0)).other W47 (Or.inr (slot_ne (Or.inl (hw _ (own_m 68 rfl))) (Or.inr (hw _ (own_m 54 rfl))) (by decide) (t := .int) (t' := (.object "java/util/List")) (by decide) (by decide)))).other W52 (Or.inr (slot_ne (Or.inl (hw _ (own_m 68 rfl))) (Or.inr (hw _ (own_m 56 rfl))) (by decide) (t := .int) (t' := .int) (by decide) (by decide))))
  have f68 := ((((((((((F_registers.ext E2).other W7 (Or.inr (slot_ne (Or.inl (hw _ (own_m 126 rfl))) (Or.inl (hw _ (own_m 23 rfl))) (by decide) (t := .int) (t' := (.array (.object "com/example/quillgraph/quillgraph/sparql/RegexProgram$Op"))) (by decide) (by decide)))).ext E12).other W17 (Or.inr (slot_ne (Or.inl (hw _ (own_m 126 rfl))) (Or.inl (hw _ (own_m 26 rfl))) (by decide) (t := .int) (t' := (.array .int)) (by decide) (by decide)))).ext E23).other W28 (Or.inr (slot_ne (Or.inl (hw _ (own_m 126 rfl))) (Or.inl (hw _ (own_m 28 rfl))) (by decide) (t := .int) (t' := (.array .int)) (by decide) (by decide)))).ext E35).keep K38 (ninS ne_a_b35 nin0)).other W47 (Or.inr (slot_ne (Or.inl (hw _ (own_m 126 rfl))) (Or.inr (hw _ (own_m 54 rfl))) (by decide) (t := .int) (t' := (.object "java/util/List")) (by decide) (by decide)))).other W52 (Or.inr (slot_ne (Or.inl (hw _ (own_m 126 rfl))) (Or.inr (hw _ (own_m 56 rfl))) (by decide) (t := .int) (t' := .int) (by decide) (by decide))))
  obtain ⟨fs, hr, hrun, hended, hW, hsame⟩ := X52.leave (v := none) (fun _ => rfl)
  refine ⟨_, _, pre0 _ ?_, hrun, hended, _, _, rfl, ?_, ⟨_, rfl⟩, hW, hsame.mono (by decide) (by decide)⟩
  · show Steps p.tables e below (s₁.setTop (mkF m 0 #[rv a, iv 16] [])) _
    refine XS.aloadN X0.here hx rfl (hb hby own_d2_0) rfl rfl ?_
    show Steps p.tables e below (s₁.setTop (mkF m 1 #[rv a, iv 16] [(.ref a)])) _
    refine st1 _ ?_
    show Steps p.tables e below (T1.setTop (mkF m 4 #[rv a, iv 16] [])) _
    refine XS.aloadN X1.here hx rfl (hb hby own_d2_4) rfl rfl ?_
    show Steps p.tables e below (T1.setTop (mkF m 5 #[rv a, iv 16] [(.ref a)])) _
    refine XS.bipush X1.here hx rfl (hb hby own_d2_5) ?_
    show Steps p.tables e below (T1.setTop (mkF m 7 #[rv a, iv 16] [(.int 16), (.ref a)])) _
    refine st2 _ ?_
    show Steps p.tables e below (T2.setTop (mkF m 10 #[rv a, iv 16] [(.ref b2), (.ref a)])) _
    refine st7 _ ?_
    show Steps p.tables e below (T7.setTop (mkF m 13 #[rv a, iv 16] [])) _
    refine XS.aloadN X7.here hx rfl (hb hby own_d2_13) rfl rfl ?_
    show Steps p.tables e below (T7.setTop (mkF m 14 #[rv a, iv 16] [(.ref a)])) _
    refine XS.bipush X7.here hx rfl (hb hby own_d2_14) ?_
    show Steps p.tables e below (T7.setTop (mkF m 16 #[rv a, iv 16] [(.int 16), (.ref a)])) _
    refine st12 _ ?_
    show Steps p.tables e below (T12.setTop (mkF m 18 #[rv a, iv 16] [(.ref b12), (.ref a)])) _
    refine st17 _ ?_
    show Steps p.tables e below (T17.setTop (mkF m 21 #[rv a, iv 16] [])) _
    refine XS.aloadN X17.here hx rfl (hb hby own_d2_21) rfl rfl ?_
    show Steps p.tables e below (T17.setTop (mkF m 22 #[rv a, iv 16] [(.ref a)])) _
    refine XS.bipush X17.here hx rfl (hb hby own_d2_22) ?_
    show Steps p.tables e below (T17.setTop (mkF m 24 #[rv a, iv 16] [(.int 16), (.ref a)])) _
    refine st23 _ ?_
    show Steps p.tables e below (T23.setTop (mkF m 26 #[rv a, iv 16] [(.ref b23), (.ref a)])) _
    refine st28 _ ?_
    show Steps p.tables e below (T28.setTop (mkF m 29 #[rv a, iv 16] [])) _
    refine XS.aloadN X28.here hx rfl (hb hby own_d2_29) rfl rfl ?_
    show Steps p.tables e below (T28.setTop (mkF m 30 #[rv a, iv 16] [(.ref a)])) _
    refine st35 _ ?_
    show Steps p.tables e below (T35.setTop (mkF m 33 #[rv a, iv 16] [(.ref b35), (.ref a)])) _
    refine XS.dup X35.here hx rfl (hb hby own_d2_33) rfl rfl ?_
    show Steps p.tables e below (T35.setTop (mkF m 34 #[rv a, iv 16] [(.ref b35), (.ref b35), (.ref a)])) _
    refine st38.trans ?_
    show Steps p.tables e below (T38.setTop (mkF m 37 #[rv a, iv 16] [(.ref b35), (.ref a)])) _
    refine st47 _ ?_
    show Steps p.tables e below (T47.setTop (mkF m 40 #[rv a, iv 16] [])) _
    refine XS.aloadN X47.here hx rfl (hb hby own_d2_40) rfl rfl ?_
    show Steps p.tables e below (T47.setTop (mkF m 41 #[rv a, iv 16] [(.ref a)])) _
    refine XS.iloadN X47.here hx rfl (hb hby own_d2_41) rfl ?_
    show Steps p.tables e below (T47.setTop (mkF m 42 #[rv a, iv 16] [(.int 16), (.ref a)])) _
    refine st52 _ ?_
    show Steps p.tables e below (T52.setTop (mkF m 45 #[rv a, iv 16] [])) _
    exact X52.returnOut hx Bd.returns (hb hby own_d2_45) hr
  · show own_bk_Q Z w_CHARACTER w_SPLIT w_JUMP w_TEXT_START w_LINE_START w_TEXT_END w_LINE_END w_SAVE w_BACK_REFERENCE w_MARK w_PROGRESS w_MATCH w_NOTHING w_DE k_DE a h0 n0 _ T52.heap _
    rw [e52]
    exact ⟨rfl, N52, kp54, b2, b12, b23, b35, k2, k12, k23, sz_b2, sz_b12, sz_b23, sz_b35, (Ne.symm ne_a_b2), (Ne.symm ne_a_b12), (Ne.symm ne_a_b23), (Ne.symm ne_a_b35), ne_b2_b12, ne_b2_b23, ne_b12_b23, ne_b2_b35, ne_b12_b35, ne_b23_b35, O2, f55, f56, f57, f58, f59, f60, f61, f62, f63, f64, f65, f66, Fw52, f67, f68⟩
theorem own_res0_ef (m : MethodId) (a : Addr) : entryFrame m #[(.ref a), (.long 1)] 4 = mkF m 0 #[rv a, .val (.long 1), .second, .unset] [] := by first | (simp [entryFrame, mkF, argsToLocals, Value.category]; done) | rfl
def own_res0_Q (Z : State) (w_CHARACTER : Addr) (w_SPLIT : Addr) (w_JUMP : Addr) (w_TEXT_START : Addr) (w_LINE_START : Addr) (w_TEXT_END : Addr) (w_LINE_END : Addr) (w_SAVE : Addr) (w_BACK_REFERENCE : Addr) (w_MARK : Addr) (w_PROGRESS : Addr) (w_MATCH : Addr) (w_NOTHING : Addr) (w_DE : Addr) (k_DE : ClassId) (a : Addr) (bo : Addr) (bf : Addr) (bs : Addr) (ll : Addr) (ko : ClassId) (kf : ClassId) (ks : ClassId) (h0 : Heap) (n0 : Nat) (v : Option Value) (h : Heap) (L : List Loc) : Prop := v = none ∧ Fr n0 L ∧ h = h0
set_option maxRecDepth 65536 in
set_option maxHeartbeats 40000000 in
theorem own_res0 (l : Launch) (Z : State) (a0 : Array Value) (hw : ∀ d ∈ tables_1, d.before a0 Z = true) (ws : List Jvm.Cond) (w_CHARACTER : Addr) (w_SPLIT : Addr) (w_JUMP : Addr) (w_TEXT_START : Addr) (w_LINE_START : Addr) (w_TEXT_END : Addr) (w_LINE_END : Addr) (w_SAVE : Addr) (w_BACK_REFERENCE : Addr) (w_MARK : Addr) (w_PROGRESS : Addr) (w_MATCH : Addr) (w_NOTHING : Addr) (w_DE : Addr) (k_DE : ClassId) (a : Addr) (bo : Addr) (bf : Addr) (bs : Addr) (ll : Addr) (ko : ClassId) (kf : ClassId) (ks : ClassId) (h0 : Heap) (n0 : Nat) (O0 : Old Z n0 h0) (U_CHARACTER : own_En Z Z.heap "com/example/quillgraph/quillgraph/sparql/RegexProgram$Op" "CHARACTER" "Lcom/example/quillgraph/quillgraph/sparql/RegexProgram$Op;" w_CHARACTER (0 : Int32)) (U_SPLIT : own_En Z Z.heap "com/example/quillgraph/quillgraph/sparql/RegexProgram$Op" "SPLIT" "Lcom/example/quillgraph/quillgraph/sparql/RegexProgram$Op;" w_SPLIT (1 : Int32)) (U_JUMP : own_En Z Z.heap "com/example/quillgraph/quillgraph/sparql/RegexProgram$Op" "JUMP" "Lcom/example/quillgraph/quillgraph/sparql/RegexProgram$Op;" w_JUMP (2 : Int32)) (U_TEXT_START : own_En Z Z.heap "com/example/quillgraph/quillgraph/sparql/RegexProgram$Op" "TEXT_START" "Lcom/example/quillgraph/quillgraph/sparql/RegexProgram$Op;" w_TEXT_START (3 : Int32)) (U_LINE_START : own_En Z Z.heap "com/example/quillgraph/quillgraph/sparql/RegexProgram$Op" "LINE_START" "Lcom/example/quillgraph/quillgraph/sparql/RegexProgram$Op;" w_LINE_START (4 : Int32)) (U_TEXT_END : own_En Z Z.heap "com/example/quillgraph/quillgraph/sparql/RegexProgram$Op" "TEXT_END" "Lcom/example/quillgraph/quillgraph/sparql/RegexProgram$Op;" w_TEXT_END (5 : Int32)) (U_LINE_END : own_En Z Z.heap "com/example/quillgraph/quillgraph/sparql/RegexProgram$Op" "LINE_END" "Lcom/example/quillgraph/quillgraph/sparql/RegexProgram$Op;" w_LINE_END (6 : Int32)) (U_SAVE : own_En Z Z.heap "com/example/quillgraph/quillgraph/sparql/RegexProgram$Op" "SAVE" "Lcom/example/quillgraph/quillgraph/sparql/RegexProgram$Op;" w_SAVE (7 : Int32)) (U_BACK_REFERENCE : own_En Z Z.heap "com/example/quillgraph/quillgraph/sparql/RegexProgram$Op" "BACK_REFERENCE" "Lcom/example/quillgraph/quillgraph/sparql/RegexProgram$Op;" w_BACK_REFERENCE (8 : Int32)) (U_MARK : own_En Z Z.heap "com/example/quillgraph/quillgraph/sparql/RegexProgram$Op" "MARK" "Lcom/example/quillgraph/quillgraph/sparql/RegexProgram$Op;" w_MARK (9 : Int32)) (U_PROGRESS : own_En Z Z.heap "com/example/quillgraph/quillgraph/sparql/RegexProgram$Op" "PROGRESS" "Lcom/example/quillgraph/quillgraph/sparql/RegexProgram$Op;" w_PROGRESS (10 : Int32)) (U_MATCH : own_En Z Z.heap "com/example/quillgraph/quillgraph/sparql/RegexProgram$Op" "MATCH" "Lcom/example/quillgraph/quillgraph/sparql/RegexProgram$Op;" w_MATCH (11 : Int32)) (U_NOTHING : own_En Z Z.heap "com/example/quillgraph/quillgraph/sparql/RegexProgram$Op" "NOTHING" "Lcom/example/quillgraph/quillgraph/sparql/RegexProgram$Op;" w_NOTHING (12 : Int32)) (S_DE : Sta Z Z.heap "java/util/ArrayList" "DEFAULTCAPACITY_EMPTY_ELEMENTDATA" "[Ljava/lang/Object;" (.ref w_DE)) (V_DE : Arv Z Z.heap w_DE k_DE (.object "java/lang/Object") (0 : Int32) [] .null) (g_a : n0 ≤ a) (E_a : Exa Z h0 a "com/example/quillgraph/quillgraph/sparql/RegexProgram$Builder") (F_ops : Fld Z h0 a "com/example/quillgraph/quillgraph/sparql/RegexProgram$Builder" "ops" "[Lcom/example/quillgraph/quillgraph/sparql/RegexProgram$Op;" (.ref bo)) (F_first : Fld Z h0 a "com/example/quillgraph/quillgraph/sparql/RegexProgram$Builder" "first" "[I" (.ref bf)) (F_second : Fld Z h0 a "com/example/quillgraph/quillgraph/sparql/RegexProgram$Builder" "second" "[I" (.ref bs)) (F_classes : Fld Z h0 a "com/example/quillgraph/quillgraph/sparql/RegexProgram$Builder" "classes" "Ljava/util/List;" (.ref ll)) (F_limit : Fld Z h0 a "com/example/quillgraph/quillgraph/sparql/RegexProgram$Builder" "limit" "I" (.int 16)) (F_size : Fld Z h0 a "com/example/quillgraph/quillgraph/sparql/RegexProgram$Builder" "size" "I" (.int 0)) (F_registers : Fld Z h0 a "com/example/quillgraph/quillgraph/sparql/RegexProgram$Builder" "registers" "I" (.int 0)) (g_bo : n0 ≤ bo) (g_bf : n0 ≤ bf) (g_bs : n0 ≤ bs) (n_bo_a : bo ≠ a) (n_bf_a : bf ≠ a) (n_bs_a : bs ≠ a) (n_ll_a : ll ≠ a) (n_bo_bf : bo ≠ bf) (n_bo_bs : bo ≠ bs) (n_bf_bs : bf ≠ bs) (n_bo_ll : bo ≠ ll) (n_bf_ll : bf ≠ ll) (n_bs_ll : bs ≠ ll) (O_bo : Ovr Z ko "com/example/quillgraph/quillgraph/sparql/RegexProgram$Op") (V_bo : Arv Z h0 bo ko (.object "com/example/quillgraph/quillgraph/sparql/RegexProgram$Op") (16 : Int32) [.null, .null, .null, .null, .null, .null, .null, .null, .null, .null, .null, .null, .null, .null, .null, .null] .null) (V_bf : Arv Z h0 bf kf .int (16 : Int32) [(.int 0), (.int 0), (.int 0), (.int 0), (.int 0), (.int 0), (.int 0), (.int 0), (.int 0), (.int 0), (.int 0), (.int 0), (.int 0), (.int 0), (.int 0), (.int 0)] (.int 0)) (V_bs : Arv Z h0 bs ks .int (16 : Int32) [(.int 0), (.int 0), (.int 0), (.int 0), (.int 0), (.int 0), (.int 0), (.int 0), (.int 0), (.int 0), (.int 0), (.int 0), (.int 0), (.int 0), (.int 0), (.int 0)] (.int 0)) :
    MetFree l (⟨"com/example/quillgraph/quillgraph/sparql/RegexProgram$Builder", "reserve", "(J)V"⟩ : MethodName) (head1 (Jvm.Cond.code (⟨"com/example/quillgraph/quillgraph/sparql/RegexProgram$Builder", "reserve", "(J)V"⟩ : MethodName) prog_117_method_9_code 4 none :: ws) ({ frames := 0, cells := 0, slots := 0, locals := 0 } : Room)) (fun ar U => ar = #[(.ref a), (.long 1)] ∧ Z.Warmed39 U.vm ∧ U.heap = h0) (fun _ _ _ _ _ => True) (fun _ U oc U' => ∃ v L, oc = .returned v ∧ own_res0_Q Z w_CHARACTER w_SPLIT w_JUMP w_TEXT_START w_LINE_START w_TEXT_END w_LINE_END w_SAVE w_BACK_REFERENCE w_MARK w_PROGRESS w_MATCH w_NOTHING w_DE k_DE a bo bf bs ll ko kf ks h0 n0 v U'.heap L ∧ FrameEnd U oc U' L ({ frames := 0, cells := 0, slots := 0, locals := 0 } : Room).cells ({ frames := 0, cells := 0, slots := 0, locals := 0 } : Room).slots) := by
  refine MetFree.of_bodySF (plainFor_of_name own_pn4) hisR ?_
  intro p e s m args below meth c s₁ Bd hml0 hP hK
  obtain ⟨rfl, hZ, hh⟩ := hP
  have hx := Bd.exec
  have hby := Bd.bytes
  have hml : c.maxLocals = 4 := hml0
  have hown : s.vm.findClass "com/example/quillgraph/quillgraph/sparql/RegexProgram$Builder" = some m.cls := findClass_of_methodNamed Bd.named
  have hnm := (name_of_methodNamed Bd.named Bd.method).1
  have X0 : Stand p l e ({ frames := 0, cells := 0, slots := 0, locals := 0 } : Room) s m #[(.ref a), (.long 1)] below meth c s₁ [] 0 0 := Stand.of_body Bd
  have e0 : s₁.heap = h0 := by rw [← hh, Bd.state]; rfl
  have N0 := Fr.nil n0
  have pre0 : ∀ t, Steps p.tables e below (s₁.setTop (mkF m 0 #[rv a, .val (.long 1), .second, .unset] [])) t → Steps p.tables e below (s₁.setTop (entryFrame m #[(.ref a), (.long 1)] 4)) t := fun t k => castTop (own_res0_ef m a) k
  obtain ⟨T1, X1, e1, st1⟩ := getF X0 hx hZ hown (host := "") (Or.inl (hw _ (own_m 67 rfl))) Via.refl e0 F_size (g := (mkF m 1 #[rv a, .val (.long 1), .second, .unset] [(.ref a)])) rfl rfl (hb hby own_d8_1)
  obtain ⟨T2, X2, e2, st2⟩ := getF X1 hx hZ hown (host := "") (Or.inl (hw _ (own_m 55 rfl))) Via.refl e1 F_limit (g := (mkF m 8 #[rv a, .val (.long 1), .second, .unset] [(.ref a), (.long 1)])) rfl rfl (hb hby own_d8_8)
  obtain ⟨T3, X3, e3, st3⟩ := getF X2 hx hZ hown (host := "") (Or.inl (hw _ (own_m 67 rfl))) Via.refl e2 F_size (g := (mkF m 34 #[rv a, .val (.long 1), .second, .unset] [(.ref a)])) rfl rfl (hb hby own_d8_34)
  obtain ⟨T4, X4, e4, st4⟩ := getF X3 hx hZ hown (host := "") (Or.inl (hw _ (own_m 22 rfl))) Via.refl e3 F_ops (g := (mkF m 41 #[rv a, .val (.long 1), .second, .unset] [(.ref a), (.long 1)])) rfl rfl (hb hby own_d8_41)
  obtain ⟨c5, c5A, c5q, c5S, c5N, c5H, c5G⟩ := id V_bo
  obtain ⟨fs, hr, hrun, hended, hW, hsame⟩ := X4.leave (v := none) (fun _ => rfl)
  refine ⟨_, _, pre0 _ ?_, hrun, hended, _, _, rfl, ?_, ⟨_, rfl⟩, hW, hsame.mono (by decide) (by decide)⟩
  · show Steps p.tables e below (s₁.setTop (mkF m 0 #[rv a, .val (.long 1), .second, .unset] [])) _
    refine XS.aloadN X0.here hx rfl (hb hby own_d8_0) rfl rfl ?_
    show Steps p.tables e below (s₁.setTop (mkF m 1 #[rv a, .val (.long 1), .second, .unset] [(.ref a)])) _
    refine st1 _ ?_
    show Steps p.tables e below (T1.setTop (mkF m 4 #[rv a, .val (.long 1), .second, .unset] [(.int 0)])) _
    refine XS.i2l X1.here hx rfl (hb hby own_d8_4) rfl ?_
    show Steps p.tables e below (T1.setTop (mkF m 5 #[rv a, .val (.long 1), .second, .unset] [(.long ((0 : Int32).toInt64))])) _
    refine own_top (v' := (.long 0)) (congrArg Value.long (by decide)) ?_
    show Steps p.tables e below (T1.setTop (mkF m 5 #[rv a, .val (.long 1), .second, .unset] [(.long 0)])) _
    refine XS.lloadN X1.here hx rfl (hb hby own_d8_5) rfl ?_
    show Steps p.tables e below (T1.setTop (mkF m 6 #[rv a, .val (.long 1), .second, .unset] [(.long 1), (.long 0)])) _
    refine XS.ladd X1.here hx rfl (hb hby own_d8_6) rfl ?_
    show Steps p.tables e below (T1.setTop (mkF m 7 #[rv a, .val (.long 1), .second, .unset] [(.long ((0 : Int64) + (1 : Int64)))])) _
    refine own_top (v' := (.long 1)) (congrArg Value.long (by decide)) ?_
    show Steps p.tables e below (T1.setTop (mkF m 7 #[rv a, .val (.long 1), .second, .unset] [(.long 1)])) _
    refine XS.aloadN X1.here hx rfl (hb hby own_d8_7) rfl rfl ?_
    show Steps p.tables e below (T1.setTop (mkF m 8 #[rv a, .val (.long 1), .second, .unset] [(.ref a), (.long 1)])) _
    refine st2 _ ?_
    show Steps p.tables e below (T2.setTop (mkF m 11 #[rv a, .val (.long 1), .second, .unset] [(.int 16), (.long 1)])) _
    refine XS.i2l X2.here hx rfl (hb hby own_d8_11) rfl ?_
    show Steps p.tables e below (T2.setTop (mkF m 12 #[rv a, .val (.long 1), .second, .unset] [(.long ((16 : Int32).toInt64)), (.long 1)])) _
    refine own_top (v' := (.long 16)) (congrArg Value.long (by decide)) ?_
    show Steps p.tables e below (T2.setTop (mkF m 12 #[rv a, .val (.long 1), .second, .unset] [(.long 16), (.long 1)])) _
    refine XS.lcmp X2.here hx rfl (hb hby own_d8_12) rfl ?_
    show Steps p.tables e below (T2.setTop (mkF m 13 #[rv a, .val (.long 1), .second, .unset] [(.int (lcmpW (1 : Int64) (16 : Int64)))])) _
    refine XS.ifYes X2.here hx rfl (pc0 := 13) (pc' := 33) rfl (hb hby own_d8_13) rfl ((if0 _ _).trans (flt (fun q => (show ¬ ((16 : Int64) < (1 : Int64)) from by decide) ((lw_gt _ _).mp q))).2.2.2) (by decide) (by decide) ?_
    show Steps p.tables e below (T2.setTop (mkF m 33 #[rv a, .val (.long 1), .second, .unset] [])) _
    refine XS.aloadN X2.here hx rfl (hb hby own_d8_33) rfl rfl ?_
    show Steps p.tables e below (T2.setTop (mkF m 34 #[rv a, .val (.long 1), .second, .unset] [(.ref a)])) _
    refine st3 _ ?_
    show Steps p.tables e below (T3.setTop (mkF m 37 #[rv a, .val (.long 1), .second, .unset] [(.int 0)])) _
    refine XS.i2l X3.here hx rfl (hb hby own_d8_37) rfl ?_
    show Steps p.tables e below (T3.setTop (mkF m 38 #[rv a, .val (.long 1), .second, .unset] [(.long ((0 : Int32).toInt64))])) _
    refine own_top (v' := (.long 0)) (congrArg Value.long (by decide)) ?_
    show Steps p.tables e below (T3.setTop (mkF m 38 #[rv a, .val (.long 1), .second, .unset] [(.long 0)])) _
    refine XS.lloadN X3.here hx rfl (hb hby own_d8_38) rfl ?_
    show Steps p.tables e below (T3.setTop (mkF m 39 #[rv a, .val (.long 1), .second, .unset] [(.long 1), (.long 0)])) _
    refine XS.ladd X3.here hx rfl (hb hby own_d8_39) rfl ?_
    show Steps p.tables e below (T3.setTop (mkF m 40 #[rv a, .val (.long 1), .second, .unset] [(.long ((0 : Int64) + (1 : Int64)))])) _
    refine own_top (v' := (.long 1)) (congrArg Value.long (by decide)) ?_
    show Steps p.tables e below (T3.setTop (mkF m 40 #[rv a, .val (.long 1), .second, .unset] [(.long 1)])) _
    refine XS.aloadN X3.here hx rfl (hb hby own_d8_40) rfl rfl ?_
    show Steps p.tables e below (T3.setTop (mkF m 41 #[rv a, .val (.long 1), .second, .unset] [(.ref a), (.long 1)])) _
    refine st4 _ ?_
    show Steps p.tables e below (T4.setTop (mkF m 44 #[rv a, .val (.long 1), .second, .unset] [(.ref bo), (.long 1)])) _
    refine X4.arraylength hx (by rw [e4]; exact c5A.1) (State.isArrayOf_alike hZ.alike c5A.2.1) (g := (mkF m 44 #[rv a, .val (.long 1), .second, .unset] [(.ref bo), (.long 1)])) rfl rfl (hb hby own_d8_44) _ ?_
    rw [len_of c5S c5N]
    show Steps p.tables e below (T4.setTop (mkF m 45 #[rv a, .val (.long 1), .second, .unset] [(.int 16), (.long 1)])) _
    refine XS.i2l X4.here hx rfl (hb hby own_d8_45) rfl ?_
    show Steps p.tables e below (T4.setTop (mkF m 46 #[rv a, .val (.long 1), .second, .unset] [(.long ((16 : Int32).toInt64)), (.long 1)])) _
    refine own_top (v' := (.long 16)) (congrArg Value.long (by decide)) ?_
    show Steps p.tables e below (T4.setTop (mkF m 46 #[rv a, .val (.long 1), .second, .unset] [(.long 16), (.long 1)])) _
    refine XS.lcmp X4.here hx rfl (hb hby own_d8_46) rfl ?_
    show Steps p.tables e below (T4.setTop (mkF m 47 #[rv a, .val (.long 1), .second, .unset] [(.int (lcmpW (1 : Int64) (16 : Int64)))])) _
    refine XS.ifYes X4.here hx rfl (pc0 := 47) (pc' := 119) rfl (hb hby own_d8_47) rfl ((if0 _ _).trans (flt (fun q => (show ¬ ((16 : Int64) < (1 : Int64)) from by decide) ((lw_gt _ _).mp q))).2.2.2) (by decide) (by decide) ?_
    show Steps p.tables e below (T4.setTop (mkF m 119 #[rv a, .val (.long 1), .second, .unset] [])) _
    exact X4.returnOut hx Bd.returns (hb hby own_d8_119) hr
  · show own_res0_Q Z w_CHARACTER w_SPLIT w_JUMP w_TEXT_START w_LINE_START w_TEXT_END w_LINE_END w_SAVE w_BACK_REFERENCE w_MARK w_PROGRESS w_MATCH w_NOTHING w_DE k_DE a bo bf bs ll ko kf ks h0 n0 _ T4.heap _
    rw [e4]
    exact ⟨rfl, N0, rfl⟩
theorem own_add0_ef (m : MethodId) (a : Addr) (on : Addr) (fn : Int32) (sn : Int32) : entryFrame m #[(.ref a), (.ref on), (.int fn), (.int sn)] 4 = mkF m 0 #[rv a, rv on, iv fn, iv sn] [] := by first | (simp [entryFrame, mkF, argsToLocals, Value.category]; done) | rfl
def own_add0_Q (Z : State) (w_CHARACTER : Addr) (w_SPLIT : Addr) (w_JUMP : Addr) (w_TEXT_START : Addr) (w_LINE_START : Addr) (w_TEXT_END : Addr) (w_LINE_END : Addr) (w_SAVE : Addr) (w_BACK_REFERENCE : Addr) (w_MARK : Addr) (w_PROGRESS : Addr) (w_MATCH : Addr) (w_NOTHING : Addr) (w_DE : Addr) (k_DE : ClassId) (a : Addr) (bo : Addr) (bf : Addr) (bs : Addr) (ll : Addr) (ko : ClassId) (kf : ClassId) (ks : ClassId) (on : Addr) (fn : Int32) (sn : Int32) (h0 : Heap) (n0 : Nat) (v : Option Value) (h : Heap) (L : List Loc) : Prop := v = some (.int 0) ∧ Fr n0 L ∧ Keep h0 h [a, bo, bf, bs] ∧ Arv Z h bo ko (.object "com/example/quillgraph/quillgraph/sparql/RegexProgram$Op") (16 : Int32) [(.ref on), .null, .null, .null, .null, .null, .null, .null, .null, .null, .null, .null, .null, .null, .null, .null] .null ∧ Arv Z h bf kf .int (16 : Int32) [(.int fn), (.int 0), (.int 0), (.int 0), (.int 0), (.int 0), (.int 0), (.int 0), (.int 0), (.int 0), (.int 0), (.int 0), (.int 0), (.int 0), (.int 0), (.int 0)] (.int 0) ∧ Arv Z h bs ks .int (16 : Int32) [(.int sn), (.int 0), (.int 0), (.int 0), (.int 0), (.int 0), (.int 0), (.int 0), (.int 0), (.int 0), (.int 0), (.int 0), (.int 0), (.int 0), (.int 0), (.int 0)] (.int 0) ∧ Exa Z h a "com/example/quillgraph/quillgraph/sparql/RegexProgram$Builder" ∧ Fld Z h a "com/example/quillgraph/quillgraph/sparql/RegexProgram$Builder" "ops" "[Lcom/example/quillgraph/quillgraph/sparql/RegexProgram$Op;" (.ref bo) ∧ Fld Z h a "com/example/quillgraph/quillgraph/sparql/RegexProgram$Builder" "first" "[I" (.ref bf) ∧ Fld Z h a "com/example/quillgraph/quillgraph/sparql/RegexProgram$Builder" "second" "[I" (.ref bs) ∧ Fld Z h a "com/example/quillgraph/quillgraph/sparql/RegexProgram$Builder" "classes" "Ljava/util/List;" (.ref ll) ∧ Fld Z h a "com/example/quillgraph/quillgraph/sparql/RegexProgram$Builder" "limit" "I" (.int 16) ∧ Fld Z h a "com/example/quillgraph/quillgraph/sparql/RegexProgram$Builder" "size" "I" (.int 1) ∧ Fld Z h a "com/example/quillgraph/quillgraph/sparql/RegexProgram$Builder" "registers" "I" (.int 0)
set_option maxRecDepth 65536 in
set_option maxHeartbeats 40000000 in
theorem own_add0 (l : Launch) (Z : State) (a0 : Array Value) (hw : ∀ d ∈ tables_1, d.before a0 Z = true) (ws : List Jvm.Cond) (w_CHARACTER : Addr) (w_SPLIT : Addr) (w_JUMP : Addr) (w_TEXT_START : Addr) (w_LINE_START : Addr) (w_TEXT_END : Addr) (w_LINE_END : Addr) (w_SAVE : Addr) (w_BACK_REFERENCE : Addr) (w_MARK : Addr) (w_PROGRESS : Addr) (w_MATCH : Addr) (w_NOTHING : Addr) (w_DE : Addr) (k_DE : ClassId) (a : Addr) (bo : Addr) (bf : Addr) (bs : Addr) (ll : Addr) (ko : ClassId) (kf : ClassId) (ks : ClassId) (on : Addr) (fn : Int32) (sn : Int32) (h0 : Heap) (n0 : Nat) (O0 : Old Z n0 h0) (U_CHARACTER : own_En Z Z.heap "com/example/quillgraph/quillgraph/sparql/RegexProgram$Op" "CHARACTER" "Lcom/example/quillgraph/quillgraph/sparql/RegexProgram$Op;" w_CHARACTER (0 : Int32)) (U_SPLIT : own_En Z Z.heap "com/example/quillgraph/quillgraph/sparql/RegexProgram$Op" "SPLIT" "Lcom/example/quillgraph/quillgraph/sparql/RegexProgram$Op;" w_SPLIT (1 : Int32)) (U_JUMP : own_En Z Z.heap "com/example/quillgraph/quillgraph/sparql/RegexProgram$Op" "JUMP" "Lcom/example/quillgraph/quillgraph/sparql/RegexProgram$Op;" w_JUMP (2 : Int32)) (U_TEXT_START : own_En Z Z.heap "com/example/quillgraph/quillgraph/sparql/RegexProgram$Op" "TEXT_START" "Lcom/example/quillgraph/quillgraph/sparql/RegexProgram$Op;" w_TEXT_START (3 : Int32)) (U_LINE_START : own_En Z Z.heap "com/example/quillgraph/quillgraph/sparql/RegexProgram$Op" "LINE_START" "Lcom/example/quillgraph/quillgraph/sparql/RegexProgram$Op;" w_LINE_START (4 : Int32)) (U_TEXT_END : own_En Z Z.heap "com/example/quillgraph/quillgraph/sparql/RegexProgram$Op" "TEXT_END" "Lcom/example/quillgraph/quillgraph/sparql/RegexProgram$Op;" w_TEXT_END (5 : Int32)) (U_LINE_END : own_En Z Z.heap "com/example/quillgraph/quillgraph/sparql/RegexProgram$Op" "LINE_END" "Lcom/example/quillgraph/quillgraph/sparql/RegexProgram$Op;" w_LINE_END (6 : Int32)) (U_SAVE : own_En Z Z.heap "com/example/quillgraph/quillgraph/sparql/RegexProgram$Op" "SAVE" "Lcom/example/quillgraph/quillgraph/sparql/RegexProgram$Op;" w_SAVE (7 : Int32)) (U_BACK_REFERENCE : own_En Z Z.heap "com/example/quillgraph/quillgraph/sparql/RegexProgram$Op" "BACK_REFERENCE" "Lcom/example/quillgraph/quillgraph/sparql/RegexProgram$Op;" w_BACK_REFERENCE (8 : Int32)) (U_MARK : own_En Z Z.heap "com/example/quillgraph/quillgraph/sparql/RegexProgram$Op" "MARK" "Lcom/example/quillgraph/quillgraph/sparql/RegexProgram$Op;" w_MARK (9 : Int32)) (U_PROGRESS : own_En Z Z.heap "com/example/quillgraph/quillgraph/sparql/RegexProgram$Op" "PROGRESS" "Lcom/example/quillgraph/quillgraph/sparql/RegexProgram$Op;" w_PROGRESS (10 : Int32)) (U_MATCH : own_En Z Z.heap "com/example/quillgraph/quillgraph/sparql/RegexProgram$Op" "MATCH" "Lcom/example/quillgraph/quillgraph/sparql/RegexProgram$Op;" w_MATCH (11 : Int32)) (U_NOTHING : own_En Z Z.heap "com/example/quillgraph/quillgraph/sparql/RegexProgram$Op" "NOTHING" "Lcom/example/quillgraph/quillgraph/sparql/RegexProgram$Op;" w_NOTHING (12 : Int32)) (S_DE : Sta Z Z.heap "java/util/ArrayList" "DEFAULTCAPACITY_EMPTY_ELEMENTDATA" "[Ljava/lang/Object;" (.ref w_DE)) (V_DE : Arv Z Z.heap w_DE k_DE (.object "java/lang/Object") (0 : Int32) [] .null) (g_a : n0 ≤ a) (E_a : Exa Z h0 a "com/example/quillgraph/quillgraph/sparql/RegexProgram$Builder") (F_ops : Fld Z h0 a "com/example/quillgraph/quillgraph/sparql/RegexProgram$Builder" "ops" "[Lcom/example/quillgraph/quillgraph/sparql/RegexProgram$Op;" (.ref bo)) (F_first : Fld Z h0 a "com/example/quillgraph/quillgraph/sparql/RegexProgram$Builder" "first" "[I" (.ref bf)) (F_second : Fld Z h0 a "com/example/quillgraph/quillgraph/sparql/RegexProgram$Builder" "second" "[I" (.ref bs)) (F_classes : Fld Z h0 a "com/example/quillgraph/quillgraph/sparql/RegexProgram$Builder" "classes" "Ljava/util/List;" (.ref ll)) (F_limit : Fld Z h0 a "com/example/quillgraph/quillgraph/sparql/RegexProgram$Builder" "limit" "I" (.int 16)) (F_size : Fld Z h0 a "com/example/quillgraph/quillgraph/sparql/RegexProgram$Builder" "size" "I" (.int 0)) (F_registers : Fld Z h0 a "com/example/quillgraph/quillgraph/sparql/RegexProgram$Builder" "registers" "I" (.int 0)) (g_bo : n0 ≤ bo) (g_bf : n0 ≤ bf) (g_bs : n0 ≤ bs) (n_bo_a : bo ≠ a) (n_bf_a : bf ≠ a) (n_bs_a : bs ≠ a) (n_ll_a : ll ≠ a) (n_bo_bf : bo ≠ bf) (n_bo_bs : bo ≠ bs) (n_bf_bs : bf ≠ bs) (n_bo_ll : bo ≠ ll) (n_bf_ll : bf ≠ ll) (n_bs_ll : bs ≠ ll) (O_bo : Ovr Z ko "com/example/quillgraph/quillgraph/sparql/RegexProgram$Op") (V_bo : Arv Z h0 bo ko (.object "com/example/quillgraph/quillgraph/sparql/RegexProgram$Op") (16 : Int32) [.null, .null, .null, .null, .null, .null, .null, .null, .null, .null, .null, .null, .null, .null, .null, .null] .null) (V_bf : Arv Z h0 bf kf .int (16 : Int32) [(.int 0), (.int 0), (.int 0), (.int 0), (.int 0), (.int 0), (.int 0), (.int 0), (.int 0), (.int 0), (.int 0), (.int 0), (.int 0), (.int 0), (.int 0), (.int 0)] (.int 0)) (V_bs : Arv Z h0 bs ks .int (16 : Int32) [(.int 0), (.int 0), (.int 0), (.int 0), (.int 0), (.int 0), (.int 0), (.int 0), (.int 0), (.int 0), (.int 0), (.int 0), (.int 0), (.int 0), (.int 0), (.int 0)] (.int 0)) (E_on : Exa Z h0 on "com/example/quillgraph/quillgraph/sparql/RegexProgram$Op") :
    MetFree l (⟨"com/example/quillgraph/quillgraph/sparql/RegexProgram$Builder", "add", "(Lcom/example/quillgraph/quillgraph/sparql/RegexProgram$Op;II)I"⟩ : MethodName) (head1 (Jvm.Cond.code (⟨"com/example/quillgraph/quillgraph/sparql/RegexProgram$Builder", "add", "(Lcom/example/quillgraph/quillgraph/sparql/RegexProgram$Op;II)I"⟩ : MethodName) prog_117_method_3_code 4 (some .int) :: ws) ({ frames := 1, cells := 0, slots := 0, locals := 15 } : Room)) (fun ar U => ar = #[(.ref a), (.ref on), (.int fn), (.int sn)] ∧ Z.Warmed39 U.vm ∧ U.heap = h0) (fun _ _ _ _ _ => True) (fun _ U oc U' => ∃ v L, oc = .returned v ∧ own_add0_Q Z w_CHARACTER w_SPLIT w_JUMP w_TEXT_START w_LINE_START w_TEXT_END w_LINE_END w_SAVE w_BACK_REFERENCE w_MARK w_PROGRESS w_MATCH w_NOTHING w_DE k_DE a bo bf bs ll ko kf ks on fn sn h0 n0 v U'.heap L ∧ FrameEnd U oc U' L ({ frames := 1, cells := 0, slots := 0, locals := 15 } : Room).cells ({ frames := 1, cells := 0, slots := 0, locals := 15 } : Room).slots) := by
  refine MetFree.of_bodySF (plainFor_of_name own_pn4) hisR ?_
  intro p e s m args below meth c s₁ Bd hml0 hP hK
  obtain ⟨rfl, hZ, hh⟩ := hP
  have hx := Bd.exec
  have hby := Bd.bytes
  have hml : c.maxLocals = 4 := hml0
  have hown : s.vm.findClass "com/example/quillgraph/quillgraph/sparql/RegexProgram$Builder" = some m.cls := findClass_of_methodNamed Bd.named
  have hnm := (name_of_methodNamed Bd.named Bd.method).1
  have X0 : Stand p l e ({ frames := 1, cells := 0, slots := 0, locals := 15 } : Room) s m #[(.ref a), (.ref on), (.int fn), (.int sn)] below meth c s₁ [] 0 0 := Stand.of_body Bd
  have e0 : s₁.heap = h0 := by rw [← hh, Bd.state]; rfl
  have N0 := Fr.nil n0
  have pre0 : ∀ t, Steps p.tables e below (s₁.setTop (mkF m 0 #[rv a, rv on, iv fn, iv sn] [])) t → Steps p.tables e below (s₁.setTop (entryFrame m #[(.ref a), (.ref on), (.int fn), (.int sn)] 4)) t := fun t k => castTop (own_add0_ef m a on fn sn) k
  have kp0 := Keep.refl h0 ([a, bo, bf, bs] : List Addr)
  obtain ⟨cq1, kq1, q1a, q1b, q1c⟩ := isOf hZ e0 E_a
  obtain ⟨_, _, ⟨T1, L1, k1, n1⟩, -, X1, ⟨Lc1, hQ1, l1, y1, z1⟩, st1⟩ := X0.virtualBack hx (y := (⟨"com/example/quillgraph/quillgraph/sparql/RegexProgram$Builder", "reserve", "(J)V"⟩ : MethodName)) (z := (⟨"com/example/quillgraph/quillgraph/sparql/RegexProgram$Builder", "reserve", "(J)V"⟩ : MethodName)) hown (mvT hZ (hw _ (own_m 62 rfl))) (mvT hZ (hw _ (own_m 63 rfl))) (notFace_of_selects (args := #[]) (mvT hZ (hw _ (own_m 65 rfl)))) (mvT hZ (hw _ (own_m 65 rfl))) (mvT hZ (hw _ (own_m 64 rfl))) (by decide) (backOf (W := 0) (own_res0 l Z a0 hw [] w_CHARACTER w_SPLIT w_JUMP w_TEXT_START w_LINE_START w_TEXT_END w_LINE_END w_SAVE w_BACK_REFERENCE w_MARK w_PROGRESS w_MATCH w_NOTHING w_DE k_DE a bo bf bs ll ko kf ks h0 n0 O0 U_CHARACTER U_SPLIT U_JUMP U_TEXT_START U_LINE_START U_TEXT_END U_LINE_END U_SAVE U_BACK_REFERENCE U_MARK U_PROGRESS U_MATCH U_NOTHING S_DE V_DE g_a E_a F_ops F_first F_second F_classes F_limit F_size F_registers g_bo g_bf g_bs n_bo_a n_bf_a n_bs_a n_ll_a n_bo_bf n_bo_bs n_bf_bs n_bo_ll n_bf_ll n_bs_ll O_bo V_bo V_bf V_bs) hZ (hw _ (own_m 66 rfl)) (hw _ (own_m 13 rfl)) (by decide) (by decide)) q1a q1c (g := (mkF m 2 #[rv a, rv on, iv fn, iv sn] [(.long 1), (.ref a)])) rfl (by rw [hml]; rfl) (Steps.refl _) (argsL := [(.long 1)]) (rest := []) (lenOf own_pd1 rfl) rfl (by show 2 * 0 + _ ≤ _; exact Nat.le_of_eq rfl) (hb hby own_d7_2) (fun _ _ => ⟨rfl, e0, (by decide : 0 + 0 ≤ _), (by decide : 0 + 0 ≤ _)⟩)
  dsimp only [Pt.U, Pt.locs, Pt.cells, Pt.slots] at X1 l1 y1 z1 st1 hQ1
  subst l1 y1 z1
  obtain ⟨rfl, N1q, e1⟩ := hQ1
  have N1 := Fr.app N0 N1q
  obtain ⟨T2, X2, e2, st2⟩ := getF X1 hx hZ hown (host := "") (Or.inl (hw _ (own_m 22 rfl))) Via.refl e1 F_ops (g := (mkF m 6 #[rv a, rv on, iv fn, iv sn] [(.ref a)])) rfl rfl (hb hby own_d7_6)
  obtain ⟨T3, X3, e3, st3⟩ := getF X2 hx hZ hown (host := "") (Or.inl (hw _ (own_m 67 rfl))) Via.refl e2 F_size (g := (mkF m 10 #[rv a, rv on, iv fn, iv sn] [(.ref a), (.ref bo)])) rfl rfl (hb hby own_d7_10)
  obtain ⟨c4, c4A, c4q, c4S, c4N, c4H, c4G⟩ := id V_bo
  have c4in : ¬ ((0 : Int32) < 0 ∨ c4.slots.size ≤ ((0 : Int32)).toNatClampNeg) := inb_of c4S ⟨by decide, by decide⟩
  obtain ⟨T5, h5, X5, e5, W5, st5⟩ := stR X3 hx hZ e3 c4A (j := (0 : Int32)) c4in rfl (Sto.ofV c4A c4q O_bo (Ins.self E_on)) (g := (mkF m 14 #[rv a, rv on, iv fn, iv sn] [(.ref on), (.int 0), (.ref bo)])) rfl rfl (hb hby own_d7_14)
  have V5 : Arv Z h5 bo ko (.object "com/example/quillgraph/quillgraph/sparql/RegexProgram$Op") (16 : Int32) [(.ref on), .null, .null, .null, .null, .null, .null, .null, .null, .null, .null, .null, .null, .null, .null, .null] .null := Arv.set c4A c4q c4S c4N c4H c4G rfl W5 0 rfl (Nat.le_of_ble_eq_true rfl)
  have O6 := O0.wr W5 g_bo
  have kp7 := kp0.wr W5 (Or.inl (own_m 1 rfl))
  have N5 := Fr.snoc X5 N1 g_bo
  have f8 := (F_first.other W5 (Or.inl (Ne.symm n_bo_a)))
  obtain ⟨T9, X9, e9, st9⟩ := getF X5 hx hZ hown (host := "") (Or.inl (hw _ (own_m 25 rfl))) Via.refl e5 f8 (g := (mkF m 16 #[rv a, rv on, iv fn, iv sn] [(.ref a)])) rfl rfl (hb hby own_d7_16)
  have f10 := (F_size.other W5 (Or.inl (Ne.symm n_bo_a)))
  obtain ⟨T11, X11, e11, st11⟩ := getF X9 hx hZ hown (host := "") (Or.inl (hw _ (own_m 67 rfl))) Via.refl e9 f10 (g := (mkF m 20 #[rv a, rv on, iv fn, iv sn] [(.ref a), (.ref bf)])) rfl rfl (hb hby own_d7_20)
  have f12 := (V_bf.other W5 (Ne.symm n_bo_bf))
  obtain ⟨c13, c13A, c13q, c13S, c13N, c13H, c13G⟩ := id f12
  have c13in : ¬ ((0 : Int32) < 0 ∨ c13.slots.size ≤ ((0 : Int32)).toNatClampNeg) := inb_of c13S ⟨by decide, by decide⟩
  obtain ⟨T14, h14, X14, e14, W14, st14⟩ := stI X11 hx hZ e11 c13A (j := (0 : Int32)) c13in (g := (mkF m 24 #[rv a, rv on, iv fn, iv sn] [(.int fn), (.int 0), (.ref bf)])) rfl rfl (hb hby own_d7_24)
  have V14 : Arv Z h14 bf kf .int (16 : Int32) [(.int fn), (.int 0), (.int 0), (.int 0), (.int 0), (.int 0), (.int 0), (.int 0), (.int 0), (.int 0), (.int 0), (.int 0), (.int 0), (.int 0), (.int 0), (.int 0)] (.int 0) := Arv.set c13A c13q c13S c13N c13H c13G rfl W14 0 rfl (Nat.le_of_ble_eq_true rfl)
  have O15 := O6.wr W14 g_bf
  have kp16 := kp7.wr W14 (Or.inl (own_m 2 rfl))
  have N14 := Fr.snoc X14 N5 g_bf
  have f17 := ((F_second.other W5 (Or.inl (Ne.symm n_bo_a))).other W14 (Or.inl (Ne.symm n_bf_a)))
  obtain ⟨T18, X18, e18, st18⟩ := getF X14 hx hZ hown (host := "") (Or.inl (hw _ (own_m 27 rfl))) Via.refl e14 f17 (g := (mkF m 26 #[rv a, rv on, iv fn, iv sn] [(.ref a)])) rfl rfl (hb hby own_d7_26)
  have f19 := (f10.other W14 (Or.inl (Ne.symm n_bf_a)))
  obtain ⟨T20, X20, e20, st20⟩ := getF X18 hx hZ hown (host := "") (Or.inl (hw _ (own_m 67 rfl))) Via.refl e18 f19 (g := (mkF m 30 #[rv a, rv on, iv fn, iv sn] [(.ref a), (.ref bs)])) rfl rfl (hb hby own_d7_30)
  have f21 := ((V_bs.other W5 (Ne.symm n_bo_bs)).other W14 (Ne.symm n_bf_bs))
  obtain ⟨c22, c22A, c22q, c22S, c22N, c22H, c22G⟩ := id f21
  have c22in : ¬ ((0 : Int32) < 0 ∨ c22.slots.size ≤ ((0 : Int32)).toNatClampNeg) := inb_of c22S ⟨by decide, by decide⟩
  obtain ⟨T23, h23, X23, e23, W23, st23⟩ := stI X20 hx hZ e20 c22A (j := (0 : Int32)) c22in (g := (mkF m 34 #[rv a, rv on, iv fn, iv sn] [(.int sn), (.int 0), (.ref bs)])) rfl rfl (hb hby own_d7_34)
  have V23 : Arv Z h23 bs ks .int (16 : Int32) [(.int sn), (.int 0), (.int 0), (.int 0), (.int 0), (.int 0), (.int 0), (.int 0), (.int 0), (.int 0), (.int 0), (.int 0), (.int 0), (.int 0), (.int 0), (.int 0)] (.int 0) := Arv.set c22A c22q c22S c22N c22H c22G rfl W23 0 rfl (Nat.le_of_ble_eq_true rfl)
  have O24 := O15.wr W23 g_bs
  have kp25 := kp16.wr W23 (Or.inl (own_m 3 rfl))
  have N23 := Fr.snoc X23 N14 g_bs
  have f26 := (f19.other W23 (Or.inl (Ne.symm n_bs_a)))
  obtain ⟨T27, X27, e27, st27⟩ := getF X23 hx hZ hown (host := "") (Or.inl (hw _ (own_m 67 rfl))) Via.refl e23 f26 (g := (mkF m 37 #[rv a, rv on, iv fn, iv sn] [(.ref a), (.ref a)])) rfl rfl (hb hby own_d7_37)
  have f28 := (((E_a.wr W5).wr W14).wr W23)
  obtain ⟨T29, h29, X29, e29, W29, st29⟩ := putF X27 hx hZ hown (host := "") (Or.inl (hw _ (own_m 67 rfl))) Via.refl e27 f26 f28 (Or.inl (hw _ (own_m 68 rfl))) (hw _ (own_m 12 rfl)) (ty := .int) (by decide) rfl rfl (g := (mkF m 43 #[rv a, rv on, iv fn, iv sn] [(.int 1), (.ref a), (.int 0)])) rfl rfl (hb hby own_d7_43)
  have Fw29 := f26.same W29
  have O30 := O24.wr W29 g_a
  have kp31 := kp25.wr W29 (Or.inl (own_m 0 rfl))
  have N29 := Fr.snoc X29 N23 g_a
  have f32 := (((V5.other W14 n_bo_bf).other W23 n_bo_bs).other W29 n_bo_a)
  have f33 := ((V14.other W23 n_bf_bs).other W29 n_bf_a)
  have f34 := (V23.other W29 n_bs_a)
  have f35 := (f28.wr W29)
  have f36 := ((((F_ops.other W5 (Or.inl (Ne.symm n_bo_a))).other W14 (Or.inl (Ne.symm n_bf_a))).other W23 (Or.inl (Ne.symm n_bs_a))).other W29 (Or.inr (slot_ne (Or.inl (hw _ (own_m 23 rfl))) (Or.inl (hw _ (own_m 68 rfl))) (by decide) (t := (.array (.object "com/example/quillgraph/quillgraph/sparql/RegexProgram$Op"))) (t' := .int) (by decide) (by decide))))
  have f37 := (((f8.other W14 (Or.inl (Ne.symm n_bf_a))).other W23 (Or.inl (Ne.symm n_bs_a))).other W29 (Or.inr (slot_ne (Or.inl (hw _ (own_m 26 rfl))) (Or.inl (hw _ (own_m 68 rfl))) (by decide) (t := (.array .int)) (t' := .int) (by decide) (by decide))))
  have f38 := ((f17.other W23 (Or.inl (Ne.symm n_bs_a))).other W29 (Or.inr (slot_ne (Or.inl (hw _ (own_m 28 rfl))) (Or.inl (hw _ (own_m 68 rfl))) (by decide) (t := (.array .int)) (t' := .int) (by decide) (by decide))))
  have f39 := ((((F_classes.other W5 (Or.inl (Ne.symm n_bo_a))).other W14 (Or.inl (Ne.symm n_bf_a))).other W23 (Or.inl (Ne.symm n_bs_a))).other W29 (Or.inr (slot_ne (Or.inr (hw _ (own_m 54 rfl))) (Or.inl (hw _ (own_m 68 rfl))) (by decide) (t := (.object "java/util/List")) (t' := .int) (by decide) (by decide))))
  have f40 := ((((F_limit.other W5 (Or.inl (Ne.symm n_bo_a))).other W14 (Or.inl (Ne.symm n_bf_a))).other W23 (Or.inl (Ne.symm n_bs_a))).other W29 (Or.inr (slot_ne (Or.inr (hw _ (own_m 56 rfl))) (Or.inl (hw _ (own_m 68 rfl))) (by decide) (t := .int) (t' := .int) (by decide) (by decide))))
  have f41 := ((((F_registers.other W5 (Or.inl (Ne.symm n_bo_a))).other W14 (Or.inl (Ne.symm n_bf_a))).other W23 (Or.inl (Ne.symm n_bs_a))).other W29 (Or.inr (slot_ne (Or.inl (hw _ (own_m 126 rfl))) (Or.inl (hw _ (own_m 68 rfl))) (by decide) (t := .int) (t' := .int) (by decide) (by decide))))
  obtain ⟨fs, hr, hrun, hended, hW, hsame⟩ := X29.leave (v := some (.int 0)) (fun h => by rw [Bd.returns] at h; cases h)
  refine ⟨_, _, pre0 _ ?_, hrun, hended, _, _, rfl, ?_, ⟨_, rfl⟩, hW, hsame.mono (by decide) (by decide)⟩
  · show Steps p.tables e below (s₁.setTop (mkF m 0 #[rv a, rv on, iv fn, iv sn] [])) _
    refine XS.aloadN X0.here hx rfl (hb hby own_d7_0) rfl rfl ?_
    show Steps p.tables e below (s₁.setTop (mkF m 1 #[rv a, rv on, iv fn, iv sn] [(.ref a)])) _
    refine XS.lconst X0.here hx rfl (hb hby own_d7_1) ?_
    show Steps p.tables e below (s₁.setTop (mkF m 2 #[rv a, rv on, iv fn, iv sn] [(.long 1), (.ref a)])) _
    refine st1.trans ?_
    show Steps p.tables e below (T1.setTop (mkF m 5 #[rv a, rv on, iv fn, iv sn] [])) _
    refine XS.aloadN X1.here hx rfl (hb hby own_d7_5) rfl rfl ?_
    show Steps p.tables e below (T1.setTop (mkF m 6 #[rv a, rv on, iv fn, iv sn] [(.ref a)])) _
    refine st2 _ ?_
    show Steps p.tables e below (T2.setTop (mkF m 9 #[rv a, rv on, iv fn, iv sn] [(.ref bo)])) _
    refine XS.aloadN X2.here hx rfl (hb hby own_d7_9) rfl rfl ?_
    show Steps p.tables e below (T2.setTop (mkF m 10 #[rv a, rv on, iv fn, iv sn] [(.ref a), (.ref bo)])) _
    refine st3 _ ?_
    show Steps p.tables e below (T3.setTop (mkF m 13 #[rv a, rv on, iv fn, iv sn] [(.int 0), (.ref bo)])) _
    refine XS.aloadN X3.here hx rfl (hb hby own_d7_13) rfl rfl ?_
    show Steps p.tables e below (T3.setTop (mkF m 14 #[rv a, rv on, iv fn, iv sn] [(.ref on), (.int 0), (.ref bo)])) _
    refine st5 _ ?_
    show Steps p.tables e below (T5.setTop (mkF m 15 #[rv a, rv on, iv fn, iv sn] [])) _
    refine XS.aloadN X5.here hx rfl (hb hby own_d7_15) rfl rfl ?_
    show Steps p.tables e below (T5.setTop (mkF m 16 #[rv a, rv on, iv fn, iv sn] [(.ref a)])) _
    refine st9 _ ?_
    show Steps p.tables e below (T9.setTop (mkF m 19 #[rv a, rv on, iv fn, iv sn] [(.ref bf)])) _
    refine XS.aloadN X9.here hx rfl (hb hby own_d7_19) rfl rfl ?_
    show Steps p.tables e below (T9.setTop (mkF m 20 #[rv a, rv on, iv fn, iv sn] [(.ref a), (.ref bf)])) _
    refine st11 _ ?_
    show Steps p.tables e below (T11.setTop (mkF m 23 #[rv a, rv on, iv fn, iv sn] [(.int 0), (.ref bf)])) _
    refine XS.iloadN X11.here hx rfl (hb hby own_d7_23) rfl ?_
    show Steps p.tables e below (T11.setTop (mkF m 24 #[rv a, rv on, iv fn, iv sn] [(.int fn), (.int 0), (.ref bf)])) _
    refine st14 _ ?_
    show Steps p.tables e below (T14.setTop (mkF m 25 #[rv a, rv on, iv fn, iv sn] [])) _
    refine XS.aloadN X14.here hx rfl (hb hby own_d7_25) rfl rfl ?_
    show Steps p.tables e below (T14.setTop (mkF m 26 #[rv a, rv on, iv fn, iv sn] [(.ref a)])) _
    refine st18 _ ?_
    show Steps p.tables e below (T18.setTop (mkF m 29 #[rv a, rv on, iv fn, iv sn] [(.ref bs)])) _
    refine XS.aloadN X18.here hx rfl (hb hby own_d7_29) rfl rfl ?_
    show Steps p.tables e below (T18.setTop (mkF m 30 #[rv a, rv on, iv fn, iv sn] [(.ref a), (.ref bs)])) _
    refine st20 _ ?_
    show Steps p.tables e below (T20.setTop (mkF m 33 #[rv a, rv on, iv fn, iv sn] [(.int 0), (.ref bs)])) _
    refine XS.iloadN X20.here hx rfl (hb hby own_d7_33) rfl ?_
    show Steps p.tables e below (T20.setTop (mkF m 34 #[rv a, rv on, iv fn, iv sn] [(.int sn), (.int 0), (.ref bs)])) _
    refine st23 _ ?_
    show Steps p.tables e below (T23.setTop (mkF m 35 #[rv a, rv on, iv fn, iv sn] [])) _
    refine XS.aloadN X23.here hx rfl (hb hby own_d7_35) rfl rfl ?_
    show Steps p.tables e below (T23.setTop (mkF m 36 #[rv a, rv on, iv fn, iv sn] [(.ref a)])) _
    refine XS.dup X23.here hx rfl (hb hby own_d7_36) rfl rfl ?_
    show Steps p.tables e below (T23.setTop (mkF m 37 #[rv a, rv on, iv fn, iv sn] [(.ref a), (.ref a)])) _
    refine st27 _ ?_
    show Steps p.tables e below (T27.setTop (mkF m 40 #[rv a, rv on, iv fn, iv sn] [(.int 0), (.ref a)])) _
    refine XS.dupX1 X27.here hx rfl (hb hby own_d7_40) rfl rfl rfl ?_
    show Steps p.tables e below (T27.setTop (mkF m 41 #[rv a, rv on, iv fn, iv sn] [(.int 0), (.ref a), (.int 0)])) _
    refine XS.iconst X27.here hx rfl (hb hby own_d7_41) ?_
    show Steps p.tables e below (T27.setTop (mkF m 42 #[rv a, rv on, iv fn, iv sn] [(.int 1), (.int 0), (.ref a), (.int 0)])) _
    refine XS.iadd X27.here hx rfl (hb hby own_d7_42) rfl ?_
    show Steps p.tables e below (T27.setTop (mkF m 43 #[rv a, rv on, iv fn, iv sn] [(.int ((0 : Int32) + (1 : Int32))), (.ref a), (.int 0)])) _
    refine own_top (v' := (.int 1)) (congrArg Value.int (by decide)) ?_
    show Steps p.tables e below (T27.setTop (mkF m 43 #[rv a, rv on, iv fn, iv sn] [(.int 1), (.ref a), (.int 0)])) _
    refine st29 _ ?_
    show Steps p.tables e below (T29.setTop (mkF m 46 #[rv a, rv on, iv fn, iv sn] [(.int 0)])) _
    exact retI X29 hx Bd.returns (hb hby own_d7_46) hr
  · show own_add0_Q Z w_CHARACTER w_SPLIT w_JUMP w_TEXT_START w_LINE_START w_TEXT_END w_LINE_END w_SAVE w_BACK_REFERENCE w_MARK w_PROGRESS w_MATCH w_NOTHING w_DE k_DE a bo bf bs ll ko kf ks on fn sn h0 n0 _ T29.heap _
    rw [e29]
    exact ⟨rfl, N29, kp31, f32, f33, f34, f35, f36, f37, f38, f39, f40, Fw29, f41⟩
theorem own_res1_ef (m : MethodId) (a : Addr) : entryFrame m #[(.ref a), (.long 1)] 4 = mkF m 0 #[rv a, .val (.long 1), .second, .unset] [] := by first | (simp [entryFrame, mkF, argsToLocals, Value.category]; done) | rfl
def own_res1_Q (Z : State) (w_CHARACTER : Addr) (w_SPLIT : Addr) (w_JUMP : Addr) (w_TEXT_START : Addr) (w_LINE_START : Addr) (w_TEXT_END : Addr) (w_LINE_END : Addr) (w_SAVE : Addr) (w_BACK_REFERENCE : Addr) (w_MARK : Addr) (w_PROGRESS : Addr) (w_MATCH : Addr) (w_NOTHING : Addr) (w_DE : Addr) (k_DE : ClassId) (a : Addr) (bo : Addr) (bf : Addr) (bs : Addr) (ll : Addr) (ko : ClassId) (kf : ClassId) (ks : ClassId) (o0 : Addr) (f0 : Int32) (s0 : Int32) (h0 : Heap) (n0 : Nat) (v : Option Value) (h : Heap) (L : List Loc) : Prop := v = none ∧ Fr n0 L ∧ h = h0
set_option maxRecDepth 65536 in
set_option maxHeartbeats 40000000 in
theorem own_res1 (l : Launch) (Z : State) (a0 : Array Value) (hw : ∀ d ∈ tables_1, d.before a0 Z = true) (ws : List Jvm.Cond) (w_CHARACTER : Addr) (w_SPLIT : Addr) (w_JUMP : Addr) (w_TEXT_START : Addr) (w_LINE_START : Addr) (w_TEXT_END : Addr) (w_LINE_END : Addr) (w_SAVE : Addr) (w_BACK_REFERENCE : Addr) (w_MARK : Addr) (w_PROGRESS : Addr) (w_MATCH : Addr) (w_NOTHING : Addr) (w_DE : Addr) (k_DE : ClassId) (a : Addr) (bo : Addr) (bf : Addr) (bs : Addr) (ll : Addr) (ko : ClassId) (kf : ClassId) (ks : ClassId) (o0 : Addr) (f0 : Int32) (s0 : Int32) (h0 : Heap) (n0 : Nat) (O0 : Old Z n0 h0) (U_CHARACTER : own_En Z Z.heap "com/example/quillgraph/quillgraph/sparql/RegexProgram$Op" "CHARACTER" "Lcom/example/quillgraph/quillgraph/sparql/RegexProgram$Op;" w_CHARACTER (0 : Int32)) (U_SPLIT : own_En Z Z.heap "com/example/quillgraph/quillgraph/sparql/RegexProgram$Op" "SPLIT" "Lcom/example/quillgraph/quillgraph/sparql/RegexProgram$Op;" w_SPLIT (1 : Int32)) (U_JUMP : own_En Z Z.heap "com/example/quillgraph/quillgraph/sparql/RegexProgram$Op" "JUMP" "Lcom/example/quillgraph/quillgraph/sparql/RegexProgram$Op;" w_JUMP (2 : Int32)) (U_TEXT_START : own_En Z Z.heap "com/example/quillgraph/quillgraph/sparql/RegexProgram$Op" "TEXT_START" "Lcom/example/quillgraph/quillgraph/sparql/RegexProgram$Op;" w_TEXT_START (3 : Int32)) (U_LINE_START : own_En Z Z.heap "com/example/quillgraph/quillgraph/sparql/RegexProgram$Op" "LINE_START" "Lcom/example/quillgraph/quillgraph/sparql/RegexProgram$Op;" w_LINE_START (4 : Int32)) (U_TEXT_END : own_En Z Z.heap "com/example/quillgraph/quillgraph/sparql/RegexProgram$Op" "TEXT_END" "Lcom/example/quillgraph/quillgraph/sparql/RegexProgram$Op;" w_TEXT_END (5 : Int32)) (U_LINE_END : own_En Z Z.heap "com/example/quillgraph/quillgraph/sparql/RegexProgram$Op" "LINE_END" "Lcom/example/quillgraph/quillgraph/sparql/RegexProgram$Op;" w_LINE_END (6 : Int32)) (U_SAVE : own_En Z Z.heap "com/example/quillgraph/quillgraph/sparql/RegexProgram$Op" "SAVE" "Lcom/example/quillgraph/quillgraph/sparql/RegexProgram$Op;" w_SAVE (7 : Int32)) (U_BACK_REFERENCE : own_En Z Z.heap "com/example/quillgraph/quillgraph/sparql/RegexProgram$Op" "BACK_REFERENCE" "Lcom/example/quillgraph/quillgraph/sparql/RegexProgram$Op;" w_BACK_REFERENCE (8 : Int32)) (U_MARK : own_En Z Z.heap "com/example/quillgraph/quillgraph/sparql/RegexProgram$Op" "MARK" "Lcom/example/quillgraph/quillgraph/sparql/RegexProgram$Op;" w_MARK (9 : Int32)) (U_PROGRESS : own_En Z Z.heap "com/example/quillgraph/quillgraph/sparql/RegexProgram$Op" "PROGRESS" "Lcom/example/quillgraph/quillgraph/sparql/RegexProgram$Op;" w_PROGRESS (10 : Int32)) (U_MATCH : own_En Z Z.heap "com/example/quillgraph/quillgraph/sparql/RegexProgram$Op" "MATCH" "Lcom/example/quillgraph/quillgraph/sparql/RegexProgram$Op;" w_MATCH (11 : Int32)) (U_NOTHING : own_En Z Z.heap "com/example/quillgraph/quillgraph/sparql/RegexProgram$Op" "NOTHING" "Lcom/example/quillgraph/quillgraph/sparql/RegexProgram$Op;" w_NOTHING (12 : Int32)) (S_DE : Sta Z Z.heap "java/util/ArrayList" "DEFAULTCAPACITY_EMPTY_ELEMENTDATA" "[Ljava/lang/Object;" (.ref w_DE)) (V_DE : Arv Z Z.heap w_DE k_DE (.object "java/lang/Object") (0 : Int32) [] .null) (g_a : n0 ≤ a) (E_a : Exa Z h0 a "com/example/quillgraph/quillgraph/sparql/RegexProgram$Builder") (F_ops : Fld Z h0 a "com/example/quillgraph/quillgraph/sparql/RegexProgram$Builder" "ops" "[Lcom/example/quillgraph/quillgraph/sparql/RegexProgram$Op;" (.ref bo)) (F_first : Fld Z h0 a "com/example/quillgraph/quillgraph/sparql/RegexProgram$Builder" "first" "[I" (.ref bf)) (F_second : Fld Z h0 a "com/example/quillgraph/quillgraph/sparql/RegexProgram$Builder" "second" "[I" (.ref bs)) (F_classes : Fld Z h0 a "com/example/quillgraph/quillgraph/sparql/RegexProgram$Builder" "classes" "Ljava/util/List;" (.ref ll)) (F_limit : Fld Z h0 a "com/example/quillgraph/quillgraph/sparql/RegexProgram$Builder" "limit" "I" (.int 16)) (F_size : Fld Z h0 a "com/example/quillgraph/quillgraph/sparql/RegexProgram$Builder" "size" "I" (.int 1)) (F_registers : Fld Z h0 a "com/example/quillgraph/quillgraph/sparql/RegexProgram$Builder" "registers" "I" (.int 0)) (g_bo : n0 ≤ bo) (g_bf : n0 ≤ bf) (g_bs : n0 ≤ bs) (n_bo_a : bo ≠ a) (n_bf_a : bf ≠ a) (n_bs_a : bs ≠ a) (n_ll_a : ll ≠ a) (n_bo_bf : bo ≠ bf) (n_bo_bs : bo ≠ bs) (n_bf_bs : bf ≠ bs) (n_bo_ll : bo ≠ ll) (n_bf_ll : bf ≠ ll) (n_bs_ll : bs ≠ ll) (O_bo : Ovr Z ko "com/example/quillgraph/quillgraph/sparql/RegexProgram$Op") (V_bo : Arv Z h0 bo ko (.object "com/example/quillgraph/quillgraph/sparql/RegexProgram$Op") (16 : Int32) [(.ref o0), .null, .null, .null, .null, .null, .null, .null, .null, .null, .null, .null, .null, .null, .null, .null] .null) (V_bf : Arv Z h0 bf kf .int (16 : Int32) [(.int f0), (.int 0), (.int 0), (.int 0), (.int 0), (.int 0), (.int 0), (.int 0), (.int 0), (.int 0), (.int 0), (.int 0), (.int 0), (.int 0), (.int 0), (.int 0)] (.int 0)) (V_bs : Arv Z h0 bs ks .int (16 : Int32) [(.int s0), (.int 0), (.int 0), (.int 0), (.int 0), (.int 0), (.int 0), (.int 0), (.int 0), (.int 0), (.int 0), (.int 0), (.int 0), (.int 0), (.int 0), (.int 0)] (.int 0)) :
    MetFree l (⟨"com/example/quillgraph/quillgraph/sparql/RegexProgram$Builder", "reserve", "(J)V"⟩ : MethodName) (head1 (Jvm.Cond.code (⟨"com/example/quillgraph/quillgraph/sparql/RegexProgram$Builder", "reserve", "(J)V"⟩ : MethodName) prog_117_method_9_code 4 none :: ws) ({ frames := 0, cells := 0, slots := 0, locals := 0 } : Room)) (fun ar U => ar = #[(.ref a), (.long 1)] ∧ Z.Warmed39 U.vm ∧ U.heap = h0) (fun _ _ _ _ _ => True) (fun _ U oc U' => ∃ v L, oc = .returned v ∧ own_res1_Q Z w_CHARACTER w_SPLIT w_JUMP w_TEXT_START w_LINE_START w_TEXT_END w_LINE_END w_SAVE w_BACK_REFERENCE w_MARK w_PROGRESS w_MATCH w_NOTHING w_DE k_DE a bo bf bs ll ko kf ks o0 f0 s0 h0 n0 v U'.heap L ∧ FrameEnd U oc U' L ({ frames := 0, cells := 0, slots := 0, locals := 0 } : Room).cells ({ frames := 0, cells := 0, slots := 0, locals := 0 } : Room).slots) := by
  refine MetFree.of_bodySF (plainFor_of_name own_pn4) hisR ?_
  intro p e s m args below meth c s₁ Bd hml0 hP hK
  obtain ⟨rfl, hZ, hh⟩ := hP
  have hx := Bd.exec
  have hby := Bd.bytes
  have hml : c.maxLocals = 4 := hml0
  have hown : s.vm.findClass "com/example/quillgraph/quillgraph/sparql/RegexProgram$Builder" = some m.cls := findClass_of_methodNamed Bd.named
  have hnm := (name_of_methodNamed Bd.named Bd.method).1
  have X0 : Stand p l e ({ frames := 0, cells := 0, slots := 0, locals := 0 } : Room) s m #[(.ref a), (.long 1)] below meth c s₁ [] 0 0 := Stand.of_body Bd
  have e0 : s₁.heap = h0 := by rw [← hh, Bd.state]; rfl
  have N0 := Fr.nil n0
  have pre0 : ∀ t, Steps p.tables e below (s₁.setTop (mkF m 0 #[rv a, .val (.long 1), .second, .unset] [])) t → Steps p.tables e below (s₁.setTop (entryFrame m #[(.ref a), (.long 1)] 4)) t := fun t k => castTop (own_res1_ef m a) k
  obtain ⟨T1, X1, e1, st1⟩ := getF X0 hx hZ hown (host := "") (Or.inl (hw _ (own_m 67 rfl))) Via.refl e0 F_size (g := (mkF m 1 #[rv a, .val (.long 1), .second, .unset] [(.ref a)])) rfl rfl (hb hby own_d8_1)
  obtain ⟨T2, X2, e2, st2⟩ := getF X1 hx hZ hown (host := "") (Or.inl (hw _ (own_m 55 rfl))) Via.refl e1 F_limit (g := (mkF m 8 #[rv a, .val (.long 1), .second, .unset] [(.ref a), (.long 2)])) rfl rfl (hb hby own_d8_8)
  obtain ⟨T3, X3, e3, st3⟩ := getF X2 hx hZ hown (host := "") (Or.inl (hw _ (own_m 67 rfl))) Via.refl e2 F_size (g := (mkF m 34 #[rv a, .val (.long 1), .second, .unset] [(.ref a)])) rfl rfl (hb hby own_d8_34)
  obtain ⟨T4, X4, e4, st4⟩ := getF X3 hx hZ hown (host := "") (Or.inl (hw _ (own_m 22 rfl))) Via.refl e3 F_ops (g := (mkF m 41 #[rv a, .val (.long 1), .second, .unset] [(.ref a), (.long 2)])) rfl rfl (hb hby own_d8_41)
  obtain ⟨c5, c5A, c5q, c5S, c5N, c5H, c5G⟩ := id V_bo
  obtain ⟨fs, hr, hrun, hended, hW, hsame⟩ := X4.leave (v := none) (fun _ => rfl)
  refine ⟨_, _, pre0 _ ?_, hrun, hended, _, _, rfl, ?_, ⟨_, rfl⟩, hW, hsame.mono (by decide) (by decide)⟩
  · show Steps p.tables e below (s₁.setTop (mkF m 0 #[rv a, .val (.long 1), .second, .unset] [])) _
    refine XS.aloadN X0.here hx rfl (hb hby own_d8_0) rfl rfl ?_
    show Steps p.tables e below (s₁.setTop (mkF m 1 #[rv a, .val (.long 1), .second, .unset] [(.ref a)])) _
    refine st1 _ ?_
    show Steps p.tables e below (T1.setTop (mkF m 4 #[rv a, .val (.long 1), .second, .unset] [(.int 1)])) _
    refine XS.i2l X1.here hx rfl (hb hby own_d8_4) rfl ?_
    show Steps p.tables e below (T1.setTop (mkF m 5 #[rv a, .val (.long 1), .second, .unset] [(.long ((1 : Int32).toInt64))])) _
    refine own_top (v' := (.long 1)) (congrArg Value.long (by decide)) ?_
    show Steps p.tables e below (T1.setTop (mkF m 5 #[rv a, .val (.long 1), .second, .unset] [(.long 1)])) _
    refine XS.lloadN X1.here hx rfl (hb hby own_d8_5) rfl ?_
    show Steps p.tables e below (T1.setTop (mkF m 6 #[rv a, .val (.long 1), .second, .unset] [(.long 1), (.long 1)])) _
    refine XS.ladd X1.here hx rfl (hb hby own_d8_6) rfl ?_
    show Steps p.tables e below (T1.setTop (mkF m 7 #[rv a, .val (.long 1), .second, .unset] [(.long ((1 : Int64) + (1 : Int64)))])) _
    refine own_top (v' := (.long 2)) (congrArg Value.long (by decide)) ?_
    show Steps p.tables e below (T1.setTop (mkF m 7 #[rv a, .val (.long 1), .second, .unset] [(.long 2)])) _
    refine XS.aloadN X1.here hx rfl (hb hby own_d8_7) rfl rfl ?_
    show Steps p.tables e below (T1.setTop (mkF m 8 #[rv a, .val (.long 1), .second, .unset] [(.ref a), (.long 2)])) _
    refine st2 _ ?_
    show Steps p.tables e below (T2.setTop (mkF m 11 #[rv a, .val (.long 1), .second, .unset] [(.int 16), (.long 2)])) _
    refine XS.i2l X2.here hx rfl (hb hby own_d8_11) rfl ?_
    show Steps p.tables e below (T2.setTop (mkF m 12 #[rv a, .val (.long 1), .second, .unset] [(.long ((16 : Int32).toInt64)), (.long 2)])) _
    refine own_top (v' := (.long 16)) (congrArg Value.long (by decide)) ?_
    show Steps p.tables e below (T2.setTop (mkF m 12 #[rv a, .val (.long 1), .second, .unset] [(.long 16), (.long 2)])) _
    refine XS.lcmp X2.here hx rfl (hb hby own_d8_12) rfl ?_
    show Steps p.tables e below (T2.setTop (mkF m 13 #[rv a, .val (.long 1), .second, .unset] [(.int (lcmpW (2 : Int64) (16 : Int64)))])) _
    refine XS.ifYes X2.here hx rfl (pc0 := 13) (pc' := 33) rfl (hb hby own_d8_13) rfl ((if0 _ _).trans (flt (fun q => (show ¬ ((16 : Int64) < (2 : Int64)) from by decide) ((lw_gt _ _).mp q))).2.2.2) (by decide) (by decide) ?_
    show Steps p.tables e below (T2.setTop (mkF m 33 #[rv a, .val (.long 1), .second, .unset] [])) _
    refine XS.aloadN X2.here hx rfl (hb hby own_d8_33) rfl rfl ?_
    show Steps p.tables e below (T2.setTop (mkF m 34 #[rv a, .val (.long 1), .second, .unset] [(.ref a)])) _
    refine st3 _ ?_
    show Steps p.tables e below (T3.setTop (mkF m 37 #[rv a, .val (.long 1), .second, .unset] [(.int 1)])) _
    refine XS.i2l X3.here hx rfl (hb hby own_d8_37) rfl ?_
    show Steps p.tables e below (T3.setTop (mkF m 38 #[rv a, .val (.long 1), .second, .unset] [(.long ((1 : Int32).toInt64))])) _
    refine own_top (v' := (.long 1)) (congrArg Value.long (by decide)) ?_
    show Steps p.tables e below (T3.setTop (mkF m 38 #[rv a, .val (.long 1), .second, .unset] [(.long 1)])) _
    refine XS.lloadN X3.here hx rfl (hb hby own_d8_38) rfl ?_
    show Steps p.tables e below (T3.setTop (mkF m 39 #[rv a, .val (.long 1), .second, .unset] [(.long 1), (.long 1)])) _
    refine XS.ladd X3.here hx rfl (hb hby own_d8_39) rfl ?_
    show Steps p.tables e below (T3.setTop (mkF m 40 #[rv a, .val (.long 1), .second, .unset] [(.long ((1 : Int64) + (1 : Int64)))])) _
    refine own_top (v' := (.long 2)) (congrArg Value.long (by decide)) ?_
    show Steps p.tables e below (T3.setTop (mkF m 40 #[rv a, .val (.long 1), .second, .unset] [(.long 2)])) _
    refine XS.aloadN X3.here hx rfl (hb hby own_d8_40) rfl rfl ?_
    show Steps p.tables e below (T3.setTop (mkF m 41 #[rv a, .val (.long 1), .second, .unset] [(.ref a), (.long 2)])) _
    refine st4 _ ?_
    show Steps p.tables e below (T4.setTop (mkF m 44 #[rv a, .val (.long 1), .second, .unset] [(.ref bo), (.long 2)])) _
    refine X4.arraylength hx (by rw [e4]; exact c5A.1) (State.isArrayOf_alike hZ.alike c5A.2.1) (g := (mkF m 44 #[rv a, .val (.long 1), .second, .unset] [(.ref bo), (.long 2)])) rfl rfl (hb hby own_d8_44) _ ?_
    rw [len_of c5S c5N]
    show Steps p.tables e below (T4.setTop (mkF m 45 #[rv a, .val (.long 1), .second, .unset] [(.int 16), (.long 2)])) _
    refine XS.i2l X4.here hx rfl (hb hby own_d8_45) rfl ?_
    show Steps p.tables e below (T4.setTop (mkF m 46 #[rv a, .val (.long 1), .second, .unset] [(.long ((16 : Int32).toInt64)), (.long 2)])) _
    refine own_top (v' := (.long 16)) (congrArg Value.long (by decide)) ?_
    show Steps p.tables e below (T4.setTop (mkF m 46 #[rv a, .val (.long 1), .second, .unset] [(.long 16), (.long 2)])) _
    refine XS.lcmp X4.here hx rfl (hb hby own_d8_46) rfl ?_
    show Steps p.tables e below (T4.setTop (mkF m 47 #[rv a, .val (.long 1), .second, .unset] [(.int (lcmpW (2 : Int64) (16 : Int64)))])) _
    refine XS.ifYes X4.here hx rfl (pc0 := 47) (pc' := 119) rfl (hb hby own_d8_47) rfl ((if0 _ _).trans (flt (fun q => (show ¬ ((16 : Int64) < (2 : Int64)) from by decide) ((lw_gt _ _).mp q))).2.2.2) (by decide) (by decide) ?_
    show Steps p.tables e below (T4.setTop (mkF m 119 #[rv a, .val (.long 1), .second, .unset] [])) _
    exact X4.returnOut hx Bd.returns (hb hby own_d8_119) hr
  · show own_res1_Q Z w_CHARACTER w_SPLIT w_JUMP w_TEXT_START w_LINE_START w_TEXT_END w_LINE_END w_SAVE w_BACK_REFERENCE w_MARK w_PROGRESS w_MATCH w_NOTHING w_DE k_DE a bo bf bs ll ko kf ks o0 f0 s0 h0 n0 _ T4.heap _
    rw [e4]
    exact ⟨rfl, N0, rfl⟩
theorem own_add1_ef (m : MethodId) (a : Addr) (on : Addr) (fn : Int32) (sn : Int32) : entryFrame m #[(.ref a), (.ref on), (.int fn), (.int sn)] 4 = mkF m 0 #[rv a, rv on, iv fn, iv sn] [] := by first | (simp [entryFrame, mkF, argsToLocals, Value.category]; done) | rfl
def own_add1_Q (Z : State) (w_CHARACTER : Addr) (w_SPLIT : Addr) (w_JUMP : Addr) (w_TEXT_START : Addr) (w_LINE_START : Addr) (w_TEXT_END : Addr) (w_LINE_END : Addr) (w_SAVE : Addr) (w_BACK_REFERENCE : Addr) (w_MARK : Addr) (w_PROGRESS : Addr) (w_MATCH : Addr) (w_NOTHING : Addr) (w_DE : Addr) (k_DE : ClassId) (a : Addr) (bo : Addr) (bf : Addr) (bs : Addr) (ll : Addr) (ko : ClassId) (kf : ClassId) (ks : ClassId) (o0 : Addr) (f0 : Int32) (s0 : Int32) (on : Addr) (fn : Int32) (sn : Int32) (h0 : Heap) (n0 : Nat) (v : Option Value) (h : Heap) (L : List Loc) : Prop := v = some (.int 1) ∧ Fr n0 L ∧ Keep h0 h [a, bo, bf, bs] ∧ Arv Z h bo ko (.object "com/example/quillgraph/quillgraph/sparql/RegexProgram$Op") (16 : Int32) [(.ref o0), (.ref on), .null, .null, .null, .null, .null, .null, .null, .null, .null, .null, .null, .null, .null, .null] .null ∧ Arv Z h bf kf .int (16 : Int32) [(.int f0), (.int fn), (.int 0), (.int 0), (.int 0), (.int 0), (.int 0), (.int 0), (.int 0), (.int 0), (.int 0), (.int 0), (.int 0), (.int 0), (.int 0), (.int 0)] (.int 0) ∧ Arv Z h bs ks .int (16 : Int32) [(.int s0), (.int sn), (.int 0), (.int 0), (.int 0), (.int 0), (.int 0), (.int 0), (.int 0), (.int 0), (.int 0), (.int 0), (.int 0), (.int 0), (.int 0), (.int 0)] (.int 0) ∧ Exa Z h a "com/example/quillgraph/quillgraph/sparql/RegexProgram$Builder" ∧ Fld Z h a "com/example/quillgraph/quillgraph/sparql/RegexProgram$Builder" "ops" "[Lcom/example/quillgraph/quillgraph/sparql/RegexProgram$Op;" (.ref bo) ∧ Fld Z h a "com/example/quillgraph/quillgraph/sparql/RegexProgram$Builder" "first" "[I" (.ref bf) ∧ Fld Z h a "com/example/quillgraph/quillgraph/sparql/RegexProgram$Builder" "second" "[I" (.ref bs) ∧ Fld Z h a "com/example/quillgraph/quillgraph/sparql/RegexProgram$Builder" "classes" "Ljava/util/List;" (.ref ll) ∧ Fld Z h a "com/example/quillgraph/quillgraph/sparql/RegexProgram$Builder" "limit" "I" (.int 16) ∧ Fld Z h a "com/example/quillgraph/quillgraph/sparql/RegexProgram$Builder" "size" "I" (.int 2) ∧ Fld Z h a "com/example/quillgraph/quillgraph/sparql/RegexProgram$Builder" "registers" "I" (.int 0)
set_option maxRecDepth 65536 in
set_option maxHeartbeats 40000000 in
theorem own_add1 (l : Launch) (Z : State) (a0 : Array Value) (hw : ∀ d ∈ tables_1, d.before a0 Z = true) (ws : List Jvm.Cond) (w_CHARACTER : Addr) (w_SPLIT : Addr) (w_JUMP : Addr) (w_TEXT_START : Addr) (w_LINE_START : Addr) (w_TEXT_END : Addr) (w_LINE_END : Addr) (w_SAVE : Addr) (w_BACK_REFERENCE : Addr) (w_MARK : Addr) (w_PROGRESS : Addr) (w_MATCH : Addr) (w_NOTHING : Addr) (w_DE : Addr) (k_DE : ClassId) (a : Addr) (bo : Addr) (bf : Addr) (bs : Addr) (ll : Addr) (ko : ClassId) (kf : ClassId) (ks : ClassId) (o0 : Addr) (f0 : Int32) (s0 : Int32) (on : Addr) (fn : Int32) (sn : Int32) (h0 : Heap) (n0 : Nat) (O0 : Old Z n0 h0) (U_CHARACTER : own_En Z Z.heap "com/example/quillgraph/quillgraph/sparql/RegexProgram$Op" "CHARACTER" "Lcom/example/quillgraph/quillgraph/sparql/RegexProgram$Op;" w_CHARACTER (0 : Int32)) (U_SPLIT : own_En Z Z.heap "com/example/quillgraph/quillgraph/sparql/RegexProgram$Op" "SPLIT" "Lcom/example/quillgraph/quillgraph/sparql/RegexProgram$Op;" w_SPLIT (1 : Int32)) (U_JUMP : own_En Z Z.heap "com/example/quillgraph/quillgraph/sparql/RegexProgram$Op" "JUMP" "Lcom/example/quillgraph/quillgraph/sparql/RegexProgram$Op;" w_JUMP (2 : Int32)) (U_TEXT_START : own_En Z Z.heap "com/example/quillgraph/quillgraph/sparql/RegexProgram$Op" "TEXT_START" "Lcom/example/quillgraph/quillgraph/sparql/RegexProgram$Op;" w_TEXT_START (3 : Int32)) (U_LINE_START : own_En Z Z.heap "com/example/quillgraph/quillgraph/sparql/RegexProgram$Op" "LINE_START" "Lcom/example/quillgraph/quillgraph/sparql/RegexProgram$Op;" w_LINE_START (4 : Int32)) (U_TEXT_END : own_En Z Z.heap "com/example/quillgraph/quillgraph/sparql/RegexProgram$Op" "TEXT_END" "Lcom/example/quillgraph/quillgraph/sparql/RegexProgram$Op;" w_TEXT_END (5 : Int32)) (U_LINE_END : own_En Z Z.heap "com/example/quillgraph/quillgraph/sparql/RegexProgram$Op" "LINE_END" "Lcom/example/quillgraph/quillgraph/sparql/RegexProgram$Op;" w_LINE_END (6 : Int32)) (U_SAVE : own_En Z Z.heap "com/example/quillgraph/quillgraph/sparql/RegexProgram$Op" "SAVE" "Lcom/example/quillgraph/quillgraph/sparql/RegexProgram$Op;" w_SAVE (7 : Int32)) (U_BACK_REFERENCE : own_En Z Z.heap "com/example/quillgraph/quillgraph/sparql/RegexProgram$Op" "BACK_REFERENCE" "Lcom/example/quillgraph/quillgraph/sparql/RegexProgram$Op;" w_BACK_REFERENCE (8 : Int32)) (U_MARK : own_En Z Z.heap "com/example/quillgraph/quillgraph/sparql/RegexProgram$Op" "MARK" "Lcom/example/quillgraph/quillgraph/sparql/RegexProgram$Op;" w_MARK (9 : Int32)) (U_PROGRESS : own_En Z Z.heap "com/example/quillgraph/quillgraph/sparql/RegexProgram$Op" "PROGRESS" "Lcom/example/quillgraph/quillgraph/sparql/RegexProgram$Op;" w_PROGRESS (10 : Int32)) (U_MATCH : own_En Z Z.heap "com/example/quillgraph/quillgraph/sparql/RegexProgram$Op" "MATCH" "Lcom/example/quillgraph/quillgraph/sparql/RegexProgram$Op;" w_MATCH (11 : Int32)) (U_NOTHING : own_En Z Z.heap "com/example/quillgraph/quillgraph/sparql/RegexProgram$Op" "NOTHING" "Lcom/example/quillgraph/quillgraph/sparql/RegexProgram$Op;" w_NOTHING (12 : Int32)) (S_DE : Sta Z Z.heap "java/util/ArrayList" "DEFAULTCAPACITY_EMPTY_ELEMENTDATA" "[Ljava/lang/Object;" (.ref w_DE)) (V_DE : Arv Z Z.heap w_DE k_DE (.object "java/lang/Object") (0 : Int32) [] .null) (g_a : n0 ≤ a) (E_a : Exa Z h0 a "com/example/quillgraph/quillgraph/sparql/RegexProgram$Builder") (F_ops : Fld Z h0 a "com/example/quillgraph/quillgraph/sparql/RegexProgram$Builder" "ops" "[Lcom/example/quillgraph/quillgraph/sparql/RegexProgram$Op;" (.ref bo)) (F_first : Fld Z h0 a "com/example/quillgraph/quillgraph/sparql/RegexProgram$Builder" "first" "[I" (.ref bf)) (F_second : Fld Z h0 a "com/example/quillgraph/quillgraph/sparql/RegexProgram$Builder" "second" "[I" (.ref bs)) (F_classes : Fld Z h0 a "com/example/quillgraph/quillgraph/sparql/RegexProgram$Builder" "classes" "Ljava/util/List;" (.ref ll)) (F_limit : Fld Z h0 a "com/example/quillgraph/quillgraph/sparql/RegexProgram$Builder" "limit" "I" (.int 16)) (F_size : Fld Z h0 a "com/example/quillgraph/quillgraph/sparql/RegexProgram$Builder" "size" "I" (.int 1)) (F_registers : Fld Z h0 a "com/example/quillgraph/quillgraph/sparql/RegexProgram$Builder" "registers" "I" (.int 0)) (g_bo : n0 ≤ bo) (g_bf : n0 ≤ bf) (g_bs : n0 ≤ bs) (n_bo_a : bo ≠ a) (n_bf_a : bf ≠ a) (n_bs_a : bs ≠ a) (n_ll_a : ll ≠ a) (n_bo_bf : bo ≠ bf) (n_bo_bs : bo ≠ bs) (n_bf_bs : bf ≠ bs) (n_bo_ll : bo ≠ ll) (n_bf_ll : bf ≠ ll) (n_bs_ll : bs ≠ ll) (O_bo : Ovr Z ko "com/example/quillgraph/quillgraph/sparql/RegexProgram$Op") (V_bo : Arv Z h0 bo ko (.object "com/example/quillgraph/quillgraph/sparql/RegexProgram$Op") (16 : Int32) [(.ref o0), .null, .null, .null, .null, .null, .null, .null, .null, .null, .null, .null, .null, .null, .null, .null] .null) (V_bf : Arv Z h0 bf kf .int (16 : Int32) [(.int f0), (.int 0), (.int 0), (.int 0), (.int 0), (.int 0), (.int 0), (.int 0), (.int 0), (.int 0), (.int 0), (.int 0), (.int 0), (.int 0), (.int 0), (.int 0)] (.int 0)) (V_bs : Arv Z h0 bs ks .int (16 : Int32) [(.int s0), (.int 0), (.int 0), (.int 0), (.int 0), (.int 0), (.int 0), (.int 0), (.int 0), (.int 0), (.int 0), (.int 0), (.int 0), (.int 0), (.int 0), (.int 0)] (.int 0)) (E_on : Exa Z h0 on "com/example/quillgraph/quillgraph/sparql/RegexProgram$Op") :
    MetFree l (⟨"com/example/quillgraph/quillgraph/sparql/RegexProgram$Builder", "add", "(Lcom/example/quillgraph/quillgraph/sparql/RegexProgram$Op;II)I"⟩ : MethodName) (head1 (Jvm.Cond.code (⟨"com/example/quillgraph/quillgraph/sparql/RegexProgram$Builder", "add", "(Lcom/example/quillgraph/quillgraph/sparql/RegexProgram$Op;II)I"⟩ : MethodName) prog_117_method_3_code 4 (some .int) :: ws) ({ frames := 1, cells := 0, slots := 0, locals := 15 } : Room)) (fun ar U => ar = #[(.ref a), (.ref on), (.int fn), (.int sn)] ∧ Z.Warmed39 U.vm ∧ U.heap = h0) (fun _ _ _ _ _ => True) (fun _ U oc U' => ∃ v L, oc = .returned v ∧ own_add1_Q Z w_CHARACTER w_SPLIT w_JUMP w_TEXT_START w_LINE_START w_TEXT_END w_LINE_END w_SAVE w_BACK_REFERENCE w_MARK w_PROGRESS w_MATCH w_NOTHING w_DE k_DE a bo bf bs ll ko kf ks o0 f0 s0 on fn sn h0 n0 v U'.heap L ∧ FrameEnd U oc U' L ({ frames := 1, cells := 0, slots := 0, locals := 15 } : Room).cells ({ frames := 1, cells := 0, slots := 0, locals := 15 } : Room).slots) := by
  refine MetFree.of_bodySF (plainFor_of_name own_pn4) hisR ?_
  intro p e s m args below meth c s₁ Bd hml0 hP hK
  obtain ⟨rfl, hZ, hh⟩ := hP
  have hx := Bd.exec
  have hby := Bd.bytes
  have hml : c.maxLocals = 4 := hml0
  have hown : s.vm.findClass "com/example/quillgraph/quillgraph/sparql/RegexProgram$Builder" = some m.cls := findClass_of_methodNamed Bd.named
  have hnm := (name_of_methodNamed Bd.named Bd.method).1
  have X0 : Stand p l e ({ frames := 1, cells := 0, slots := 0, locals := 15 } : Room) s m #[(.ref a), (.ref on), (.int fn), (.int sn)] below meth c s₁ [] 0 0 := Stand.of_body Bd
  have e0 : s₁.heap = h0 := by rw [← hh, Bd.state]; rfl
  have N0 := Fr.nil n0
  have pre0 : ∀ t, Steps p.tables e below (s₁.setTop (mkF m 0 #[rv a, rv on, iv fn, iv sn] [])) t → Steps p.tables e below (s₁.setTop (entryFrame m #[(.ref a), (.ref on), (.int fn), (.int sn)] 4)) t := fun t k => castTop (own_add1_ef m a on fn sn) k
  have kp0 := Keep.refl h0 ([a, bo, bf, bs] : List Addr)
  obtain ⟨cq1, kq1, q1a, q1b, q1c⟩ := isOf hZ e0 E_a
  obtain ⟨_, _, ⟨T1, L1, k1, n1⟩, -, X1, ⟨Lc1, hQ1, l1, y1, z1⟩, st1⟩ := X0.virtualBack hx (y := (⟨"com/example/quillgraph/quillgraph/sparql/RegexProgram$Builder", "reserve", "(J)V"⟩ : MethodName)) (z := (⟨"com/example/quillgraph/quillgraph/sparql/RegexProgram$Builder", "reserve", "(J)V"⟩ : MethodName)) hown (mvT hZ (hw _ (own_m 62 rfl))) (mvT hZ (hw _ (own_m 63 rfl))) (notFace_of_selects (args := #[]) (mvT hZ (hw _ (own_m 65 rfl)))) (mvT hZ (hw _ (own_m 65 rfl))) (mvT hZ (hw _ (own_m 64 rfl))) (by decide) (backOf (W := 0) (own_res1 l Z a0 hw [] w_CHARACTER w_SPLIT w_JUMP w_TEXT_START w_LINE_START w_TEXT_END w_LINE_END w_SAVE w_BACK_REFERENCE w_MARK w_PROGRESS w_MATCH w_NOTHING w_DE k_DE a bo bf bs ll ko kf ks o0 f0 s0 h0 n0 O0 U_CHARACTER U_SPLIT U_JUMP U_TEXT_START U_LINE_START U_TEXT_END U_LINE_END U_SAVE U_BACK_REFERENCE U_MARK U_PROGRESS U_MATCH U_NOTHING S_DE V_DE g_a E_a F_ops F_first F_second F_classes F_limit F_size F_registers g_bo g_bf g_bs n_bo_a n_bf_a n_bs_a n_ll_a n_bo_bf n_bo_bs n_bf_bs n_bo_ll n_bf_ll n_bs_ll O_bo V_bo V_bf V_bs) hZ (hw _ (own_m 66 rfl)) (hw _ (own_m 13 rfl)) (by decide) (by decide)) q1a q1c (g := (mkF m 2 #[rv a, rv on, iv fn, iv sn] [(.long 1), (.ref a)])) rfl (by rw [hml]; rfl) (Steps.refl _) (argsL := [(.long 1)]) (rest := []) (lenOf own_pd1 rfl) rfl (by show 2 * 0 + _ ≤ _; exact Nat.le_of_eq rfl) (hb hby own_d7_2) (fun _ _ => ⟨rfl, e0, (by decide : 0 + 0 ≤ _), (by decide : 0 + 0 ≤ _)⟩)
  dsimp only [Pt.U, Pt.locs, Pt.cells, Pt.slots] at X1 l1 y1 z1 st1 hQ1
  subst l1 y1 z1
  obtain ⟨rfl, N1q, e1⟩ := hQ1
  have N1 := Fr.app N0 N1q
  obtain ⟨T2, X2, e2, st2⟩ := getF X1 hx hZ hown (host := "") (Or.inl (hw _ (own_m 22 rfl))) Via.refl e1 F_ops (g := (mkF m 6 #[rv a, rv on, iv fn, iv sn] [(.ref a)])) rfl rfl (hb hby own_d7_6)
  obtain ⟨T3, X3, e3, st3⟩ := getF X2 hx hZ hown (host := "") (Or.inl (hw _ (own_m 67 rfl))) Via.refl e2 F_size (g := (mkF m 10 #[rv a, rv on, iv fn, iv sn] [(.ref a), (.ref bo)])) rfl rfl (hb hby own_d7_10)
  obtain ⟨c4, c4A, c4q, c4S, c4N, c4H, c4G⟩ := id V_bo
  have c4in : ¬ ((1 : Int32) < 0 ∨ c4.slots.size ≤ ((1 : Int32)).toNatClampNeg) := inb_of c4S ⟨by decide, by decide⟩
  obtain ⟨T5, h5, X5, e5, W5, st5⟩ := stR X3 hx hZ e3 c4A (j := (1 : Int32)) c4in rfl (Sto.ofV c4A c4q O_bo (Ins.self E_on)) (g := (mkF m 14 #[rv a, rv on, iv fn, iv sn] [(.ref on), (.int 1), (.ref bo)])) rfl rfl (hb hby own_d7_14)
  have V5 : Arv Z h5 bo ko (.object "com/example/quillgraph/quillgraph/sparql/RegexProgram$Op") (16 : Int32) [(.ref o0), (.ref on), .null, .null, .null, .null, .null, .null, .null, .null, .null, .null, .null, .null, .null, .null] .null := Arv.set c4A c4q c4S c4N c4H c4G rfl W5 1 rfl (Nat.le_of_ble_eq_true rfl)
  have O6 := O0.wr W5 g_bo
  have kp7 := kp0.wr W5 (Or.inl (own_m 1 rfl))
  have N5 := Fr.snoc X5 N1 g_bo
  have f8 := (F_first.other W5 (Or.inl (Ne.symm n_bo_a)))
  obtain ⟨T9, X9, e9, st9⟩ := getF X5 hx hZ hown (host := "") (Or.inl (hw _ (own_m 25 rfl))) Via.refl e5 f8 (g := (mkF m 16 #[rv a, rv on, iv fn, iv sn] [(.ref a)])) rfl rfl (hb hby own_d7_16)
  have f10 := (F_size.other W5 (Or.inl (Ne.symm n_bo_a)))
  obtain ⟨T11, X11, e11, st11⟩ := getF X9 hx hZ hown (host := "") (Or.inl (hw _ (own_m 67 rfl))) Via.refl e9 f10 (g := (mkF m 20 #[rv a, rv on, iv fn, iv sn] [(.ref a), (.ref bf)])) rfl rfl (hb hby own_d7_20)
  have f12 := (V_bf.other W5 (Ne.symm n_bo_bf))
  obtain ⟨c13, c13A, c13q, c13S, c13N, c13H, c13G⟩ := id f12
  have c13in : ¬ ((1 : Int32) < 0 ∨ c13.slots.size ≤ ((1 : Int32)).toNatClampNeg) := inb_of c13S ⟨by decide, by decide⟩
  obtain ⟨T14, h14, X14, e14, W14, st14⟩ := stI X11 hx hZ e11 c13A (j := (1 : Int32)) c13in (g := (mkF m 24 #[rv a, rv on, iv fn, iv sn] [(.int fn), (.int 1), (.ref bf)])) rfl rfl (hb hby own_d7_24)
  have V14 : Arv Z h14 bf kf .int (16 : Int32) [(.int f0), (.int fn), (.int 0), (.int 0), (.int 0), (.int 0), (.int 0), (.int 0), (.int 0), (.int 0), (.int 0), (.int 0), (.int 0), (.int 0), (.int 0), (.int 0)] (.int 0) := Arv.set c13A c13q c13S c13N c13H c13G rfl W14 1 rfl (Nat.le_of_ble_eq_true rfl)
  have O15 := O6.wr W14 g_bf
  have kp16 := kp7.wr W14 (Or.inl (own_m 2 rfl))
  have N14 := Fr.snoc X14 N5 g_bf
  have f17 := ((F_second.other W5 (Or.inl (Ne.symm n_bo_a))).other W14 (Or.inl (Ne.symm n_bf_a)))
  obtain ⟨T18, X18, e18, st18⟩ := getF X14 hx hZ hown (host := "") (Or.inl (hw _ (own_m 27 rfl))) Via.refl e14 f17 (g := (mkF m 26 #[rv a, rv on, iv fn, iv sn] [(.ref a)])) rfl rfl (hb hby own_d7_26)
  have f19 := (f10.other W14 (Or.inl (Ne.symm n_bf_a)))
  obtain ⟨T20, X20, e20, st20⟩ := getF X18 hx hZ hown (host := "") (Or.inl (hw _ (own_m 67 rfl))) Via.refl e18 f19 (g := (mkF m 30 #[rv a, rv on, iv fn, iv sn] [(.ref a), (.ref bs)])) rfl rfl (hb hby own_d7_30)
  have f21 := ((V_bs.other W5 (Ne.symm n_bo_bs)).other W14 (Ne.symm n_bf_bs))
  obtain ⟨c22, c22A, c22q, c22S, c22N, c22H, c22G⟩ := id f21
  have c22in : ¬ ((1 : Int32) < 0 ∨ c22.slots.size ≤ ((1 : Int32)).toNatClampNeg) := inb_of c22S ⟨by decide, by decide⟩
  obtain ⟨T23, h23, X23, e23, W23, st23⟩ := stI X20 hx hZ e20 c22A (j := (1 : Int32)) c22in (g := (mkF m 34 #[rv a, rv on, iv fn, iv sn] [(.int sn), (.int 1), (.ref bs)])) rfl rfl (hb hby own_d7_34)
  have V23 : Arv Z h23 bs ks .int (16 : Int32) [(.int s0), (.int sn), (.int 0), (.int 0), (.int 0), (.int 0), (.int 0), (.int 0), (.int 0), (.int 0), (.int 0), (.int 0), (.int 0), (.int 0), (.int 0), (.int 0)] (.int 0) := Arv.set c22A c22q c22S c22N c22H c22G rfl W23 1 rfl (Nat.le_of_ble_eq_true rfl)
  have O24 := O15.wr W23 g_bs
  have kp25 := kp16.wr W23 (Or.inl (own_m 3 rfl))
  have N23 := Fr.snoc X23 N14 g_bs
  have f26 := (f19.other W23 (Or.inl (Ne.symm n_bs_a)))
  obtain ⟨T27, X27, e27, st27⟩ := getF X23 hx hZ hown (host := "") (Or.inl (hw _ (own_m 67 rfl))) Via.refl e23 f26 (g := (mkF m 37 #[rv a, rv on, iv fn, iv sn] [(.ref a), (.ref a)])) rfl rfl (hb hby own_d7_37)
  have f28 := (((E_a.wr W5).wr W14).wr W23)
  obtain ⟨T29, h29, X29, e29, W29, st29⟩ := putF X27 hx hZ hown (host := "") (Or.inl (hw _ (own_m 67 rfl))) Via.refl e27 f26 f28 (Or.inl (hw _ (own_m 68 rfl))) (hw _ (own_m 12 rfl)) (ty := .int) (by decide) rfl rfl (g := (mkF m 43 #[rv a, rv on, iv fn, iv sn] [(.int 2), (.ref a), (.int 1)])) rfl rfl (hb hby own_d7_43)
  have Fw29 := f26.same W29
  have O30 := O24.wr W29 g_a
  have kp31 := kp25.wr W29 (Or.inl (own_m 0 rfl))
  have N29 := Fr.snoc X29 N23 g_a
  have f32 := (((V5.other W14 n_bo_bf).other W23 n_bo_bs).other W29 n_bo_a)
  have f33 := ((V14.other W23 n_bf_bs).other W29 n_bf_a)
  have f34 := (V23.other W29 n_bs_a)
  have f35 := (f28.wr W29)
  have f36 := ((((F_ops.other W5 (Or.inl (Ne.symm n_bo_a))).other W14 (Or.inl (Ne.symm n_bf_a))).other W23 (Or.inl (Ne.symm n_bs_a))).other W29 (Or.inr (slot_ne (Or.inl (hw _ (own_m 23 rfl))) (Or.inl (hw _ (own_m 68 rfl))) (by decide) (t := (.array (.object "com/example/quillgraph/quillgraph/sparql/RegexProgram$Op"))) (t' := .int) (by decide) (by decide))))
  have f37 := (((f8.other W14 (Or.inl (Ne.symm n_bf_a))).other W23 (Or.inl (Ne.symm n_bs_a))).other W29 (Or.inr (slot_ne (Or.inl (hw _ (own_m 26 rfl))) (Or.inl (hw _ (own_m 68 rfl))) (by decide) (t := (.array .int)) (t' := .int) (by decide) (by decide))))
  have f38 := ((f17.other W23 (Or.inl (Ne.symm n_bs_a))).other W29 (Or.inr (slot_ne (Or.inl (hw _ (own_m 28 rfl))) (Or.inl (hw _ (own_m 68 rfl))) (by decide) (t := (.array .int)) (t' := .int) (by decide) (by decide))))
  have f39 := ((((F_classes.other W5 (Or.inl (Ne.symm n_bo_a))).other W14 (Or.inl (Ne.symm n_bf_a))).other W23 (Or.inl (Ne.symm n_bs_a))).other W29 (Or.inr (slot_ne (Or.inr (hw _ (own_m 54 rfl))) (Or.inl (hw _ (own_m 68 rfl))) (by decide) (t := (.object "java/util/List")) (t' := .int) (by decide) (by decide))))
  have f40 := ((((F_limit.other W5 (Or.inl (Ne.symm n_bo_a))).other W14 (Or.inl (Ne.symm n_bf_a))).other W23 (Or.inl (Ne.symm n_bs_a))).other W29 (Or.inr (slot_ne (Or.inr (hw _ (own_m 56 rfl))) (Or.inl (hw _ (own_m 68 rfl))) (by decide) (t := .int) (t' := .int) (by decide) (by decide))))
  have f41 := ((((F_registers.other W5 (Or.inl (Ne.symm n_bo_a))).other W14 (Or.inl (Ne.symm n_bf_a))).other W23 (Or.inl (Ne.symm n_bs_a))).other W29 (Or.inr (slot_ne (Or.inl (hw _ (own_m 126 rfl))) (Or.inl (hw _ (own_m 68 rfl))) (by decide) (t := .int) (t' := .int) (by decide) (by decide))))
  obtain ⟨fs, hr, hrun, hended, hW, hsame⟩ := X29.leave (v := some (.int 1)) (fun h => by rw [Bd.returns] at h; cases h)
  refine ⟨_, _, pre0 _ ?_, hrun, hended, _, _, rfl, ?_, ⟨_, rfl⟩, hW, hsame.mono (by decide) (by decide)⟩
  · show Steps p.tables e below (s₁.setTop (mkF m 0 #[rv a, rv on, iv fn, iv sn] [])) _
    refine XS.aloadN X0.here hx rfl (hb hby own_d7_0) rfl rfl ?_
    show Steps p.tables e below (s₁.setTop (mkF m 1 #[rv a, rv on, iv fn, iv sn] [(.ref a)])) _
    refine XS.lconst X0.here hx rfl (hb hby own_d7_1) ?_
    show Steps p.tables e below (s₁.setTop (mkF m 2 #[rv a, rv on, iv fn, iv sn] [(.long 1), (.ref a)])) _
    refine st1.trans ?_
    show Steps p.tables e below (T1.setTop (mkF m 5 #[rv a, rv on, iv fn, iv sn] [])) _
    refine XS.aloadN X1.here hx rfl (hb hby own_d7_5) rfl rfl ?_
    show Steps p.tables e below (T1.setTop (mkF m 6 #[rv a, rv on, iv fn, iv sn] [(.ref a)])) _
    refine st2 _ ?_
    show Steps p.tables e below (T2.setTop (mkF m 9 #[rv a, rv on, iv fn, iv sn] [(.ref bo)])) _
    refine XS.aloadN X2.here hx rfl (hb hby own_d7_9) rfl rfl ?_
    show Steps p.tables e below (T2.setTop (mkF m 10 #[rv a, rv on, iv fn, iv sn] [(.ref a), (.ref bo)])) _
    refine st3 _ ?_
    show Steps p.tables e below (T3.setTop (mkF m 13 #[rv a, rv on, iv fn, iv sn] [(.int 1), (.ref bo)])) _
    refine XS.aloadN X3.here hx rfl (hb hby own_d7_13) rfl rfl ?_
    show Steps p.tables e below (T3.setTop (mkF m 14 #[rv a, rv on, iv fn, iv sn] [(.ref on), (.int 1), (.ref bo)])) _
    refine st5 _ ?_
    show Steps p.tables e below (T5.setTop (mkF m 15 #[rv a, rv on, iv fn, iv sn] [])) _
    refine XS.aloadN X5.here hx rfl (hb hby own_d7_15) rfl rfl ?_
    show Steps p.tables e below (T5.setTop (mkF m 16 #[rv a, rv on, iv fn, iv sn] [(.ref a)])) _
    refine st9 _ ?_
    show Steps p.tables e below (T9.setTop (mkF m 19 #[rv a, rv on, iv fn, iv sn] [(.ref bf)])) _
    refine XS.aloadN X9.here hx rfl (hb hby own_d7_19) rfl rfl ?_
    show Steps p.tables e below (T9.setTop (mkF m 20 #[rv a, rv on, iv fn, iv sn] [(.ref a), (.ref bf)])) _
    refine st11 _ ?_
    show Steps p.tables e below (T11.setTop (mkF m 23 #[rv a, rv on, iv fn, iv sn] [(.int 1), (.ref bf)])) _
    refine XS.iloadN X11.here hx rfl (hb hby own_d7_23) rfl ?_
    show Steps p.tables e below (T11.setTop (mkF m 24 #[rv a, rv on, iv fn, iv sn] [(.int fn), (.int 1), (.ref bf)])) _
    refine st14 _ ?_
    show Steps p.tables e below (T14.setTop (mkF m 25 #[rv a, rv on, iv fn, iv sn] [])) _
    refine XS.aloadN X14.here hx rfl (hb hby own_d7_25) rfl rfl ?_
    show Steps p.tables e below (T14.setTop (mkF m 26 #[rv a, rv on, iv fn, iv sn] [(.ref a)])) _
    refine st18 _ ?_
    show Steps p.tables e below (T18.setTop (mkF m 29 #[rv a, rv on, iv fn, iv sn] [(.ref bs)])) _
    refine XS.aloadN X18.here hx rfl (hb hby own_d7_29) rfl rfl ?_
    show Steps p.tables e below (T18.setTop (mkF m 30 #[rv a, rv on, iv fn, iv sn] [(.ref a), (.ref bs)])) _
    refine st20 _ ?_
    show Steps p.tables e below (T20.setTop (mkF m 33 #[rv a, rv on, iv fn, iv sn] [(.int 1), (.ref bs)])) _
    refine XS.iloadN X20.here hx rfl (hb hby own_d7_33) rfl ?_
    show Steps p.tables e below (T20.setTop (mkF m 34 #[rv a, rv on, iv fn, iv sn] [(.int sn), (.int 1), (.ref bs)])) _
    refine st23 _ ?_
    show Steps p.tables e below (T23.setTop (mkF m 35 #[rv a, rv on, iv fn, iv sn] [])) _
    refine XS.aloadN X23.here hx rfl (hb hby own_d7_35) rfl rfl ?_
    show Steps p.tables e below (T23.setTop (mkF m 36 #[rv a, rv on, iv fn, iv sn] [(.ref a)])) _
    refine XS.dup X23.here hx rfl (hb hby own_d7_36) rfl rfl ?_
    show Steps p.tables e below (T23.setTop (mkF m 37 #[rv a, rv on, iv fn, iv sn] [(.ref a), (.ref a)])) _
    refine st27 _ ?_
    show Steps p.tables e below (T27.setTop (mkF m 40 #[rv a, rv on, iv fn, iv sn] [(.int 1), (.ref a)])) _
    refine XS.dupX1 X27.here hx rfl (hb hby own_d7_40) rfl rfl rfl ?_
    show Steps p.tables e below (T27.setTop (mkF m 41 #[rv a, rv on, iv fn, iv sn] [(.int 1), (.ref a), (.int 1)])) _
    refine XS.iconst X27.here hx rfl (hb hby own_d7_41) ?_
    show Steps p.tables e below (T27.setTop (mkF m 42 #[rv a, rv on, iv fn, iv sn] [(.int 1), (.int 1), (.ref a), (.int 1)])) _
    refine XS.iadd X27.here hx rfl (hb hby own_d7_42) rfl ?_
    show Steps p.tables e below (T27.setTop (mkF m 43 #[rv a, rv on, iv fn, iv sn] [(.int ((1 : Int32) + (1 : Int32))), (.ref a), (.int 1)])) _
    refine own_top (v' := (.int 2)) (congrArg Value.int (by decide)) ?_
    show Steps p.tables e below (T27.setTop (mkF m 43 #[rv a, rv on, iv fn, iv sn] [(.int 2), (.ref a), (.int 1)])) _
    refine st29 _ ?_
    show Steps p.tables e below (T29.setTop (mkF m 46 #[rv a, rv on, iv fn, iv sn] [(.int 1)])) _
    exact retI X29 hx Bd.returns (hb hby own_d7_46) hr
  · show own_add1_Q Z w_CHARACTER w_SPLIT w_JUMP w_TEXT_START w_LINE_START w_TEXT_END w_LINE_END w_SAVE w_BACK_REFERENCE w_MARK w_PROGRESS w_MATCH w_NOTHING w_DE k_DE a bo bf bs ll ko kf ks o0 f0 s0 on fn sn h0 n0 _ T29.heap _
    rw [e29]
    exact ⟨rfl, N29, kp31, f32, f33, f34, f35, f36, f37, f38, f39, f40, Fw29, f41⟩
theorem own_res2_ef (m : MethodId) (a : Addr) : entryFrame m #[(.ref a), (.long 1)] 4 = mkF m 0 #[rv a, .val (.long 1), .second, .unset] [] := by first | (simp [entryFrame, mkF, argsToLocals, Value.category]; done) | rfl
def own_res2_Q (Z : State) (w_CHARACTER : Addr) (w_SPLIT : Addr) (w_JUMP : Addr) (w_TEXT_START : Addr) (w_LINE_START : Addr) (w_TEXT_END : Addr) (w_LINE_END : Addr) (w_SAVE : Addr) (w_BACK_REFERENCE : Addr) (w_MARK : Addr) (w_PROGRESS : Addr) (w_MATCH : Addr) (w_NOTHING : Addr) (w_DE : Addr) (k_DE : ClassId) (a : Addr) (bo : Addr) (bf : Addr) (bs : Addr) (ll : Addr) (ko : ClassId) (kf : ClassId) (ks : ClassId) (o0 : Addr) (f0 : Int32) (s0 : Int32) (o1 : Addr) (f1 : Int32) (s1 : Int32) (h0 : Heap) (n0 : Nat) (v : Option Value) (h : Heap) (L : List Loc) : Prop := v = none ∧ Fr n0 L ∧ h = h0
set_option maxRecDepth 65536 in
set_option maxHeartbeats 40000000 in
theorem own_res2 (l : Launch) (Z : State) (a0 : Array Value) (hw : ∀ d ∈ tables_1, d.before a0 Z = true) (ws : List Jvm.Cond) (w_CHARACTER : Addr) (w_SPLIT : Addr) (w_JUMP : Addr) (w_TEXT_START : Addr) (w_LINE_START : Addr) (w_TEXT_END : Addr) (w_LINE_END : Addr) (w_SAVE : Addr) (w_BACK_REFERENCE : Addr) (w_MARK : Addr) (w_PROGRESS : Addr) (w_MATCH : Addr) (w_NOTHING : Addr) (w_DE : Addr) (k_DE : ClassId) (a : Addr) (bo : Addr) (bf : Addr) (bs : Addr) (ll : Addr) (ko : ClassId) (kf : ClassId) (ks : ClassId) (o0 : Addr) (f0 : Int32) (s0 : Int32) (o1 : Addr) (f1 : Int32) (s1 : Int32) (h0 : Heap) (n0 : Nat) (O0 : Old Z n0 h0) (U_CHARACTER : own_En Z Z.heap "com/example/quillgraph/quillgraph/sparql/RegexProgram$Op" "CHARACTER" "Lcom/example/quillgraph/quillgraph/sparql/RegexProgram$Op;" w_CHARACTER (0 : Int32)) (U_SPLIT : own_En Z Z.heap "com/example/quillgraph/quillgraph/sparql/RegexProgram$Op" "SPLIT" "Lcom/example/quillgraph/quillgraph/sparql/RegexProgram$Op;" w_SPLIT (1 : Int32)) (U_JUMP : own_En Z Z.heap "com/example/quillgraph/quillgraph/sparql/RegexProgram$Op" "JUMP" "Lcom/example/quillgraph/quillgraph/sparql/RegexProgram$Op;" w_JUMP (2 : Int32)) (U_TEXT_START : own_En Z Z.heap "com/example/quillgraph/quillgraph/sparql/RegexProgram$Op" "TEXT_START" "Lcom/example/quillgraph/quillgraph/sparql/RegexProgram$Op;" w_TEXT_START (3 : Int32)) (U_LINE_START : own_En Z Z.heap "com/example/quillgraph/quillgraph/sparql/RegexProgram$Op" "LINE_START" "Lcom/example/quillgraph/quillgraph/sparql/RegexProgram$Op;" w_LINE_START (4 : Int32)) (U_TEXT_END : own_En Z Z.heap "com/example/quillgraph/quillgraph/sparql/RegexProgram$Op" "TEXT_END" "Lcom/example/quillgraph/quillgraph/sparql/RegexProgram$Op;" w_TEXT_END (5 : Int32)) (U_LINE_END : own_En Z Z.heap "com/example/quillgraph/quillgraph/sparql/RegexProgram$Op" "LINE_END" "Lcom/example/quillgraph/quillgraph/sparql/RegexProgram$Op;" w_LINE_END (6 : Int32)) (U_SAVE : own_En Z Z.heap "com/example/quillgraph/quillgraph/sparql/RegexProgram$Op" "SAVE" "Lcom/example/quillgraph/quillgraph/sparql/RegexProgram$Op;" w_SAVE (7 : Int32)) (U_BACK_REFERENCE : own_En Z Z.heap "com/example/quillgraph/quillgraph/sparql/RegexProgram$Op" "BACK_REFERENCE" "Lcom/example/quillgraph/quillgraph/sparql/RegexProgram$Op;" w_BACK_REFERENCE (8 : Int32)) (U_MARK : own_En Z Z.heap "com/example/quillgraph/quillgraph/sparql/RegexProgram$Op" "MARK" "Lcom/example/quillgraph/quillgraph/sparql/RegexProgram$Op;" w_MARK (9 : Int32)) (U_PROGRESS : own_En Z Z.heap "com/example/quillgraph/quillgraph/sparql/RegexProgram$Op" "PROGRESS" "Lcom/example/quillgraph/quillgraph/sparql/RegexProgram$Op;" w_PROGRESS (10 : Int32)) (U_MATCH : own_En Z Z.heap "com/example/quillgraph/quillgraph/sparql/RegexProgram$Op" "MATCH" "Lcom/example/quillgraph/quillgraph/sparql/RegexProgram$Op;" w_MATCH (11 : Int32)) (U_NOTHING : own_En Z Z.heap "com/example/quillgraph/quillgraph/sparql/RegexProgram$Op" "NOTHING" "Lcom/example/quillgraph/quillgraph/sparql/RegexProgram$Op;" w_NOTHING (12 : Int32)) (S_DE : Sta Z Z.heap "java/util/ArrayList" "DEFAULTCAPACITY_EMPTY_ELEMENTDATA" "[Ljava/lang/Object;" (.ref w_DE)) (V_DE : Arv Z Z.heap w_DE k_DE (.object "java/lang/Object") (0 : Int32) [] .null) (g_a : n0 ≤ a) (E_a : Exa Z h0 a "com/example/quillgraph/quillgraph/sparql/RegexProgram$Builder") (F_ops : Fld Z h0 a "com/example/quillgraph/quillgraph/sparql/RegexProgram$Builder" "ops" "[Lcom/example/quillgraph/quillgraph/sparql/RegexProgram$Op;" (.ref bo)) (F_first : Fld Z h0 a "com/example/quillgraph/quillgraph/sparql/RegexProgram$Builder" "first" "[I" (.ref bf)) (F_second : Fld Z h0 a "com/example/quillgraph/quillgraph/sparql/RegexProgram$Builder" "second" "[I" (.ref bs)) (F_classes : Fld Z h0 a "com/example/quillgraph/quillgraph/sparql/RegexProgram$Builder" "classes" "Ljava/util/List;" (.ref ll)) (F_limit : Fld Z h0 a "com/example/quillgraph/quillgraph/sparql/RegexProgram$Builder" "limit" "I" (.int 16)) (F_size : Fld Z h0 a "com/example/quillgraph/quillgraph/sparql/RegexProgram$Builder" "size" "I" (.int 2)) (F_registers : Fld Z h0 a "com/example/quillgraph/quillgraph/sparql/RegexProgram$Builder" "registers" "I" (.int 0)) (g_bo : n0 ≤ bo) (g_bf : n0 ≤ bf) (g_bs : n0 ≤ bs) (n_bo_a : bo ≠ a) (n_bf_a : bf ≠ a) (n_bs_a : bs ≠ a) (n_ll_a : ll ≠ a) (n_bo_bf : bo ≠ bf) (n_bo_bs : bo ≠ bs) (n_bf_bs : bf ≠ bs) (n_bo_ll : bo ≠ ll) (n_bf_ll : bf ≠ ll) (n_bs_ll : bs ≠ ll) (O_bo : Ovr Z ko "com/example/quillgraph/quillgraph/sparql/RegexProgram$Op") (V_bo : Arv Z h0 bo ko (.object "com/example/quillgraph/quillgraph/sparql/RegexProgram$Op") (16 : Int32) [(.ref o0), (.ref o1), .null, .null, .null, .null, .null, .null, .null, .null, .null, .null, .null, .null, .null, .null] .null) (V_bf : Arv Z h0 bf kf .int (16 : Int32) [(.int f0), (.int f1), (.int 0), (.int 0), (.int 0), (.int 0), (.int 0), (.int 0), (.int 0), (.int 0), (.int 0), (.int 0), (.int 0), (.int 0), (.int 0), (.int 0)] (.int 0)) (V_bs : Arv Z h0 bs ks .int (16 : Int32) [(.int s0), (.int s1), (.int 0), (.int 0), (.int 0), (.int 0), (.int 0), (.int 0), (.int 0), (.int 0), (.int 0), (.int 0), (.int 0), (.int 0), (.int 0), (.int 0)] (.int 0)) :
    MetFree l (⟨"com/example/quillgraph/quillgraph/sparql/RegexProgram$Builder", "reserve", "(J)V"⟩ : MethodName) (head1 (Jvm.Cond.code (⟨"com/example/quillgraph/quillgraph/sparql/RegexProgram$Builder", "reserve", "(J)V"⟩ : MethodName) prog_117_method_9_code 4 none :: ws) ({ frames := 0, cells := 0, slots := 0, locals := 0 } : Room)) (fun ar U => ar = #[(.ref a), (.long 1)] ∧ Z.Warmed39 U.vm ∧ U.heap = h0) (fun _ _ _ _ _ => True) (fun _ U oc U' => ∃ v L, oc = .returned v ∧ own_res2_Q Z w_CHARACTER w_SPLIT w_JUMP w_TEXT_START w_LINE_START w_TEXT_END w_LINE_END w_SAVE w_BACK_REFERENCE w_MARK w_PROGRESS w_MATCH w_NOTHING w_DE k_DE a bo bf bs ll ko kf ks o0 f0 s0 o1 f1 s1 h0 n0 v U'.heap L ∧ FrameEnd U oc U' L ({ frames := 0, cells := 0, slots := 0, locals := 0 } : Room).cells ({ frames := 0, cells := 0, slots := 0, locals := 0 } : Room).slots) := by
  refine MetFree.of_bodySF (plainFor_of_name own_pn4) hisR ?_
  intro p e s m args below meth c s₁ Bd hml0 hP hK
  obtain ⟨rfl, hZ, hh⟩ := hP
  have hx := Bd.exec
  have hby := Bd.bytes
  have hml : c.maxLocals = 4 := hml0
  have hown : s.vm.findClass "com/example/quillgraph/quillgraph/sparql/RegexProgram$Builder" = some m.cls := findClass_of_methodNamed Bd.named
  have hnm := (name_of_methodNamed Bd.named Bd.method).1
  have X0 : Stand p l e ({ frames := 0, cells := 0, slots := 0, locals := 0 } : Room) s m #[(.ref a), (.long 1)] below meth c s₁ [] 0 0 := Stand.of_body Bd
  have e0 : s₁.heap = h0 := by rw [← hh, Bd.state]; rfl
  have N0 := Fr.nil n0
  have pre0 : ∀ t, Steps p.tables e below (s₁.setTop (mkF m 0 #[rv a, .val (.long 1), .second, .unset] [])) t → Steps p.tables e below (s₁.setTop (entryFrame m #[(.ref a), (.long 1)] 4)) t := fun t k => castTop (own_res2_ef m a) k
  obtain ⟨T1, X1, e1, st1⟩ := getF X0 hx hZ hown (host := "") (Or.inl (hw _ (own_m 67 rfl))) Via.refl e0 F_size (g := (mkF m 1 #[rv a, .val (.long 1), .second, .unset] [(.ref a)])) rfl rfl (hb hby own_d8_1)
  obtain ⟨T2, X2, e2, st2⟩ := getF X1 hx hZ hown (host := "") (Or.inl (hw _ (own_m 55 rfl))) Via.refl e1 F_limit (g := (mkF m 8 #[rv a, .val (.long 1), .second, .unset] [(.ref a), (.long 3)])) rfl rfl (hb hby own_d8_8)
  obtain ⟨T3, X3, e3, st3⟩ := getF X2 hx hZ hown (host := "") (Or.inl (hw _ (own_m 67 rfl))) Via.refl e2 F_size (g := (mkF m 34 #[rv a, .val (.long 1), .second, .unset] [(.ref a)])) rfl rfl (hb hby own_d8_34)
  obtain ⟨T4, X4, e4, st4⟩ := getF X3 hx hZ hown (host := "") (Or.inl (hw _ (own_m 22 rfl))) Via.refl e3 F_ops (g := (mkF m 41 #[rv a, .val (.long 1), .second, .unset] [(.ref a), (.long 3)])) rfl rfl (hb hby own_d8_41)
  obtain ⟨c5, c5A, c5q, c5S, c5N, c5H, c5G⟩ := id V_bo
  obtain ⟨fs, hr, hrun, hended, hW, hsame⟩ := X4.leave (v := none) (fun _ => rfl)
  refine ⟨_, _, pre0 _ ?_, hrun, hended, _, _, rfl, ?_, ⟨_, rfl⟩, hW, hsame.mono (by decide) (by decide)⟩
  · show Steps p.tables e below (s₁.setTop (mkF m 0 #[rv a, .val (.long 1), .second, .unset] [])) _
    refine XS.aloadN X0.here hx rfl (hb hby own_d8_0) rfl rfl ?_
    show Steps p.tables e below (s₁.setTop (mkF m 1 #[rv a, .val (.long 1), .second, .unset] [(.ref a)])) _
    refine st1 _ ?_
    show Steps p.tables e below (T1.setTop (mkF m 4 #[rv a, .val (.long 1), .second, .unset] [(.int 2)])) _
    refine XS.i2l X1.here hx rfl (hb hby own_d8_4) rfl ?_
    show Steps p.tables e below (T1.setTop (mkF m 5 #[rv a, .val (.long 1), .second, .unset] [(.long ((2 : Int32).toInt64))])) _
    refine own_top (v' := (.long 2)) (congrArg Value.long (by decide)) ?_
    show Steps p.tables e below (T1.setTop (mkF m 5 #[rv a, .val (.long 1), .second, .unset] [(.long 2)])) _
    refine XS.lloadN X1.here hx rfl (hb hby own_d8_5) rfl ?_
    show Steps p.tables e below (T1.setTop (mkF m 6 #[rv a, .val (.long 1), .second, .unset] [(.long 1), (.long 2)])) _
    refine XS.ladd X1.here hx rfl (hb hby own_d8_6) rfl ?_
    show Steps p.tables e below (T1.setTop (mkF m 7 #[rv a, .val (.long 1), .second, .unset] [(.long ((2 : Int64) + (1 : Int64)))])) _
    refine own_top (v' := (.long 3)) (congrArg Value.long (by decide)) ?_
    show Steps p.tables e below (T1.setTop (mkF m 7 #[rv a, .val (.long 1), .second, .unset] [(.long 3)])) _
    refine XS.aloadN X1.here hx rfl (hb hby own_d8_7) rfl rfl ?_
    show Steps p.tables e below (T1.setTop (mkF m 8 #[rv a, .val (.long 1), .second, .unset] [(.ref a), (.long 3)])) _
    refine st2 _ ?_
    show Steps p.tables e below (T2.setTop (mkF m 11 #[rv a, .val (.long 1), .second, .unset] [(.int 16), (.long 3)])) _
    refine XS.i2l X2.here hx rfl (hb hby own_d8_11) rfl ?_
    show Steps p.tables e below (T2.setTop (mkF m 12 #[rv a, .val (.long 1), .second, .unset] [(.long ((16 : Int32).toInt64)), (.long 3)])) _
    refine own_top (v' := (.long 16)) (congrArg Value.long (by decide)) ?_
    show Steps p.tables e below (T2.setTop (mkF m 12 #[rv a, .val (.long 1), .second, .unset] [(.long 16), (.long 3)])) _
    refine XS.lcmp X2.here hx rfl (hb hby own_d8_12) rfl ?_
    show Steps p.tables e below (T2.setTop (mkF m 13 #[rv a, .val (.long 1), .second, .unset] [(.int (lcmpW (3 : Int64) (16 : Int64)))])) _
    refine XS.ifYes X2.here hx rfl (pc0 := 13) (pc' := 33) rfl (hb hby own_d8_13) rfl ((if0 _ _).trans (flt (fun q => (show ¬ ((16 : Int64) < (3 : Int64)) from by decide) ((lw_gt _ _).mp q))).2.2.2) (by decide) (by decide) ?_
    show Steps p.tables e below (T2.setTop (mkF m 33 #[rv a, .val (.long 1), .second, .unset] [])) _
    refine XS.aloadN X2.here hx rfl (hb hby own_d8_33) rfl rfl ?_
    show Steps p.tables e below (T2.setTop (mkF m 34 #[rv a, .val (.long 1), .second, .unset] [(.ref a)])) _
    refine st3 _ ?_
    show Steps p.tables e below (T3.setTop (mkF m 37 #[rv a, .val (.long 1), .second, .unset] [(.int 2)])) _
    refine XS.i2l X3.here hx rfl (hb hby own_d8_37) rfl ?_
    show Steps p.tables e below (T3.setTop (mkF m 38 #[rv a, .val (.long 1), .second, .unset] [(.long ((2 : Int32).toInt64))])) _
    refine own_top (v' := (.long 2)) (congrArg Value.long (by decide)) ?_
    show Steps p.tables e below (T3.setTop (mkF m 38 #[rv a, .val (.long 1), .second, .unset] [(.long 2)])) _
    refine XS.lloadN X3.here hx rfl (hb hby own_d8_38) rfl ?_
    show Steps p.tables e below (T3.setTop (mkF m 39 #[rv a, .val (.long 1), .second, .unset] [(.long 1), (.long 2)])) _
    refine XS.ladd X3.here hx rfl (hb hby own_d8_39) rfl ?_
    show Steps p.tables e below (T3.setTop (mkF m 40 #[rv a, .val (.long 1), .second, .unset] [(.long ((2 : Int64) + (1 : Int64)))])) _
    refine own_top (v' := (.long 3)) (congrArg Value.long (by decide)) ?_
    show Steps p.tables e below (T3.setTop (mkF m 40 #[rv a, .val (.long 1), .second, .unset] [(.long 3)])) _
    refine XS.aloadN X3.here hx rfl (hb hby own_d8_40) rfl rfl ?_
    show Steps p.tables e below (T3.setTop (mkF m 41 #[rv a, .val (.long 1), .second, .unset] [(.ref a), (.long 3)])) _
    refine st4 _ ?_
    show Steps p.tables e below (T4.setTop (mkF m 44 #[rv a, .val (.long 1), .second, .unset] [(.ref bo), (.long 3)])) _
    refine X4.arraylength hx (by rw [e4]; exact c5A.1) (State.isArrayOf_alike hZ.alike c5A.2.1) (g := (mkF m 44 #[rv a, .val (.long 1), .second, .unset] [(.ref bo), (.long 3)])) rfl rfl (hb hby own_d8_44) _ ?_
    rw [len_of c5S c5N]
    show Steps p.tables e below (T4.setTop (mkF m 45 #[rv a, .val (.long 1), .second, .unset] [(.int 16), (.long 3)])) _
    refine XS.i2l X4.here hx rfl (hb hby own_d8_45) rfl ?_
    show Steps p.tables e below (T4.setTop (mkF m 46 #[rv a, .val (.long 1), .second, .unset] [(.long ((16 : Int32).toInt64)), (.long 3)])) _
    refine own_top (v' := (.long 16)) (congrArg Value.long (by decide)) ?_
    show Steps p.tables e below (T4.setTop (mkF m 46 #[rv a, .val (.long 1), .second, .unset] [(.long 16), (.long 3)])) _
    refine XS.lcmp X4.here hx rfl (hb hby own_d8_46) rfl ?_
    show Steps p.tables e below (T4.setTop (mkF m 47 #[rv a, .val (.long 1), .second, .unset] [(.int (lcmpW (3 : Int64) (16 : Int64)))])) _
    refine XS.ifYes X4.here hx rfl (pc0 := 47) (pc' := 119) rfl (hb hby own_d8_47) rfl ((if0 _ _).trans (flt (fun q => (show ¬ ((16 : Int64) < (3 : Int64)) from by decide) ((lw_gt _ _).mp q))).2.2.2) (by decide) (by decide) ?_
    show Steps p.tables e below (T4.setTop (mkF m 119 #[rv a, .val (.long 1), .second, .unset] [])) _
    exact X4.returnOut hx Bd.returns (hb hby own_d8_119) hr
  · show own_res2_Q Z w_CHARACTER w_SPLIT w_JUMP w_TEXT_START w_LINE_START w_TEXT_END w_LINE_END w_SAVE w_BACK_REFERENCE w_MARK w_PROGRESS w_MATCH w_NOTHING w_DE k_DE a bo bf bs ll ko kf ks o0 f0 s0 o1 f1 s1 h0 n0 _ T4.heap _
    rw [e4]
    exact ⟨rfl, N0, rfl⟩
theorem own_add2_ef (m : MethodId) (a : Addr) (on : Addr) (fn : Int32) (sn : Int32) : entryFrame m #[(.ref a), (.ref on), (.int fn), (.int sn)] 4 = mkF m 0 #[rv a, rv on, iv fn, iv sn] [] := by first | (simp [entryFrame, mkF, argsToLocals, Value.category]; done) | rfl
def own_add2_Q (Z : State) (w_CHARACTER : Addr) (w_SPLIT : Addr) (w_JUMP : Addr) (w_TEXT_START : Addr) (w_LINE_START : Addr) (w_TEXT_END : Addr) (w_LINE_END : Addr) (w_SAVE : Addr) (w_BACK_REFERENCE : Addr) (w_MARK : Addr) (w_PROGRESS : Addr) (w_MATCH : Addr) (w_NOTHING : Addr) (w_DE : Addr) (k_DE : ClassId) (a : Addr) (bo : Addr) (bf : Addr) (bs : Addr) (ll : Addr) (ko : ClassId) (kf : ClassId) (ks : ClassId) (o0 : Addr) (f0 : Int32) (s0 : Int32) (o1 : Addr) (f1 : Int32) (s1 : Int32) (on : Addr) (fn : Int32) (sn : Int32) (h0 : Heap) (n0 : Nat) (v : Option Value) (h : Heap) (L : List Loc) : Prop := v = some (.int 2) ∧ Fr n0 L ∧ Keep h0 h [a, bo, bf, bs] ∧ Arv Z h bo ko (.object "com/example/quillgraph/quillgraph/sparql/RegexProgram$Op") (16 : Int32) [(.ref o0), (.ref o1), (.ref on), .null, .null, .null, .null, .null, .null, .null, .null, .null, .null, .null, .null, .null] .null ∧ Arv Z h bf kf .int (16 : Int32) [(.int f0), (.int f1), (.int fn), (.int 0), (.int 0), (.int 0), (.int 0), (.int 0), (.int 0), (.int 0), (.int 0), (.int 0), (.int 0), (.int 0), (.int 0), (.int 0)] (.int 0) ∧ Arv Z h bs ks .int (16 : Int32) [(.int s0), (.int s1), (.int sn), (.int 0), (.int 0), (.int 0), (.int 0), (.int 0), (.int 0), (.int 0), (.int 0), (.int 0), (.int 0), (.int 0), (.int 0), (.int 0)] (.int 0) ∧ Exa Z h a "com/example/quillgraph/quillgraph/sparql/RegexProgram$Builder" ∧ Fld Z h a "com/example/quillgraph/quillgraph/sparql/RegexProgram$Builder" "ops" "[Lcom/example/quillgraph/quillgraph/sparql/RegexProgram$Op;" (.ref bo) ∧ Fld Z h a "com/example/quillgraph/quillgraph/sparql/RegexProgram$Builder" "first" "[I" (.ref bf) ∧ Fld Z h a "com/example/quillgraph/quillgraph/sparql/RegexProgram$Builder" "second" "[I" (.ref bs) ∧ Fld Z h a "com/example/quillgraph/quillgraph/sparql/RegexProgram$Builder" "classes" "Ljava/util/List;" (.ref ll) ∧ Fld Z h a "com/example/quillgraph/quillgraph/sparql/RegexProgram$Builder" "limit" "I" (.int 16) ∧ Fld Z h a "com/example/quillgraph/quillgraph/sparql/RegexProgram$Builder" "size" "I" (.int 3) ∧ Fld Z h a "com/example/quillgraph/quillgraph/sparql/RegexProgram$Builder" "registers" "I" (.int 0)
set_option maxRecDepth 65536 in
set_option maxHeartbeats 40000000 in
theorem own_add2 (l : Launch) (Z : State) (a0 : Array Value) (hw : ∀ d ∈ tables_1, d.before a0 Z = true) (ws : List Jvm.Cond) (w_CHARACTER : Addr) (w_SPLIT : Addr) (w_JUMP : Addr) (w_TEXT_START : Addr) (w_LINE_START : Addr) (w_TEXT_END : Addr) (w_LINE_END : Addr) (w_SAVE : Addr) (w_BACK_REFERENCE : Addr) (w_MARK : Addr) (w_PROGRESS : Addr) (w_MATCH : Addr) (w_NOTHING : Addr) (w_DE : Addr) (k_DE : ClassId) (a : Addr) (bo : Addr) (bf : Addr) (bs : Addr) (ll : Addr) (ko : ClassId) (kf : ClassId) (ks : ClassId) (o0 : Addr) (f0 : Int32) (s0 : Int32) (o1 : Addr) (f1 : Int32) (s1 : Int32) (on : Addr) (fn : Int32) (sn : Int32) (h0 : Heap) (n0 : Nat) (O0 : Old Z n0 h0) (U_CHARACTER : own_En Z Z.heap "com/example/quillgraph/quillgraph/sparql/RegexProgram$Op" "CHARACTER" "Lcom/example/quillgraph/quillgraph/sparql/RegexProgram$Op;" w_CHARACTER (0 : Int32)) (U_SPLIT : own_En Z Z.heap "com/example/quillgraph/quillgraph/sparql/RegexProgram$Op" "SPLIT" "Lcom/example/quillgraph/quillgraph/sparql/RegexProgram$Op;" w_SPLIT (1 : Int32)) (U_JUMP : own_En Z Z.heap "com/example/quillgraph/quillgraph/sparql/RegexProgram$Op" "JUMP" "Lcom/example/quillgraph/quillgraph/sparql/RegexProgram$Op;" w_JUMP (2 : Int32)) (U_TEXT_START : own_En Z Z.heap "com/example/quillgraph/quillgraph/sparql/RegexProgram$Op" "TEXT_START" "Lcom/example/quillgraph/quillgraph/sparql/RegexProgram$Op;" w_TEXT_START (3 : Int32)) (U_LINE_START : own_En Z Z.heap "com/example/quillgraph/quillgraph/sparql/RegexProgram$Op" "LINE_START" "Lcom/example/quillgraph/quillgraph/sparql/RegexProgram$Op;" w_LINE_START (4 : Int32)) (U_TEXT_END : own_En Z Z.heap "com/example/quillgraph/quillgraph/sparql/RegexProgram$Op" "TEXT_END" "Lcom/example/quillgraph/quillgraph/sparql/RegexProgram$Op;" w_TEXT_END (5 : Int32)) (U_LINE_END : own_En Z Z.heap "com/example/quillgraph/quillgraph/sparql/RegexProgram$Op" "LINE_END" "Lcom/example/quillgraph/quillgraph/sparql/RegexProgram$Op;" w_LINE_END (6 : Int32)) (U_SAVE : own_En Z Z.heap "com/example/quillgraph/quillgraph/sparql/RegexProgram$Op" "SAVE" "Lcom/example/quillgraph/quillgraph/sparql/RegexProgram$Op;" w_SAVE (7 : Int32)) (U_BACK_REFERENCE : own_En Z Z.heap "com/example/quillgraph/quillgraph/sparql/RegexProgram$Op" "BACK_REFERENCE" "Lcom/example/quillgraph/quillgraph/sparql/RegexProgram$Op;" w_BACK_REFERENCE (8 : Int32)) (U_MARK : own_En Z Z.heap "com/example/quillgraph/quillgraph/sparql/RegexProgram$Op" "MARK" "Lcom/example/quillgraph/quillgraph/sparql/RegexProgram$Op;" w_MARK (9 : Int32)) (U_PROGRESS : own_En Z Z.heap "com/example/quillgraph/quillgraph/sparql/RegexProgram$Op" "PROGRESS" "Lcom/example/quillgraph/quillgraph/sparql/RegexProgram$Op;" w_PROGRESS (10 : Int32)) (U_MATCH : own_En Z Z.heap "com/example/quillgraph/quillgraph/sparql/RegexProgram$Op" "MATCH" "Lcom/example/quillgraph/quillgraph/sparql/RegexProgram$Op;" w_MATCH (11 : Int32)) (U_NOTHING : own_En Z Z.heap "com/example/quillgraph/quillgraph/sparql/RegexProgram$Op" "NOTHING" "Lcom/example/quillgraph/quillgraph/sparql/RegexProgram$Op;" w_NOTHING (12 : Int32)) (S_DE : Sta Z Z.heap "java/util/ArrayList" "DEFAULTCAPACITY_EMPTY_ELEMENTDATA" "[Ljava/lang/Object;" (.ref w_DE)) (V_DE : Arv Z Z.heap w_DE k_DE (.object "java/lang/Object") (0 : Int32) [] .null) (g_a : n0 ≤ a) (E_a : Exa Z h0 a "com/example/quillgraph/quillgraph/sparql/RegexProgram$Builder") (F_ops : Fld Z h0 a "com/example/quillgraph/quillgraph/sparql/RegexProgram$Builder" "ops" "[Lcom/example/quillgraph/quillgraph/sparql/RegexProgram$Op;" (.ref bo)) (F_first : Fld Z h0 a "com/example/quillgraph/quillgraph/sparql/RegexProgram$Builder" "first" "[I" (.ref bf)) (F_second : Fld Z h0 a "com/example/quillgraph/quillgraph/sparql/RegexProgram$Builder" "second" "[I" (.ref bs)) (F_classes : Fld Z h0 a "com/example/quillgraph/quillgraph/sparql/RegexProgram$Builder" "classes" "Ljava/util/List;" (.ref ll)) (F_limit : Fld Z h0 a "com/example/quillgraph/quillgraph/sparql/RegexProgram$Builder" "limit" "I" (.int 16)) (F_size : Fld Z h0 a "com/example/quillgraph/quillgraph/sparql/RegexProgram$Builder" "size" "I" (.int 2)) (F_registers : Fld Z h0 a "com/example/quillgraph/quillgraph/sparql/RegexProgram$Builder" "registers" "I" (.int 0)) (g_bo : n0 ≤ bo) (g_bf : n0 ≤ bf) (g_bs : n0 ≤ bs) (n_bo_a : bo ≠ a) (n_bf_a : bf ≠ a) (n_bs_a : bs ≠ a) (n_ll_a : ll ≠ a) (n_bo_bf : bo ≠ bf) (n_bo_bs : bo ≠ bs) (n_bf_bs : bf ≠ bs) (n_bo_ll : bo ≠ ll) (n_bf_ll : bf ≠ ll) (n_bs_ll : bs ≠ ll) (O_bo : Ovr Z ko "com/example/quillgraph/quillgraph/sparql/RegexProgram$Op") (V_bo : Arv Z h0 bo ko (.object "com/example/quillgraph/quillgraph/sparql/RegexProgram$Op") (16 : Int32) [(.ref o0), (.ref o1), .null, .null, .null, .null, .null, .null, .null, .null, .null, .null, .null, .null, .null, .null] .null) (V_bf : Arv Z h0 bf kf .int (16 : Int32) [(.int f0), (.int f1), (.int 0), (.int 0), (.int 0), (.int 0), (.int 0), (.int 0), (.int 0), (.int 0), (.int 0), (.int 0), (.int 0), (.int 0), (.int 0), (.int 0)] (.int 0)) (V_bs : Arv Z h0 bs ks .int (16 : Int32) [(.int s0), (.int s1), (.int 0), (.int 0), (.int 0), (.int 0), (.int 0), (.int 0), (.int 0), (.int 0), (.int 0), (.int 0), (.int 0), (.int 0), (.int 0), (.int 0)] (.int 0)) (E_on : Exa Z h0 on "com/example/quillgraph/quillgraph/sparql/RegexProgram$Op") :
    MetFree l (⟨"com/example/quillgraph/quillgraph/sparql/RegexProgram$Builder", "add", "(Lcom/example/quillgraph/quillgraph/sparql/RegexProgram$Op;II)I"⟩ : MethodName) (head1 (Jvm.Cond.code (⟨"com/example/quillgraph/quillgraph/sparql/RegexProgram$Builder", "add", "(Lcom/example/quillgraph/quillgraph/sparql/RegexProgram$Op;II)I"⟩ : MethodName) prog_117_method_3_code 4 (some .int) :: ws) ({ frames := 1, cells := 0, slots := 0, locals := 15 } : Room)) (fun ar U => ar = #[(.ref a), (.ref on), (.int fn), (.int sn)] ∧ Z.Warmed39 U.vm ∧ U.heap = h0) (fun _ _ _ _ _ => True) (fun _ U oc U' => ∃ v L, oc = .returned v ∧ own_add2_Q Z w_CHARACTER w_SPLIT w_JUMP w_TEXT_START w_LINE_START w_TEXT_END w_LINE_END w_SAVE w_BACK_REFERENCE w_MARK w_PROGRESS w_MATCH w_NOTHING w_DE k_DE a bo bf bs ll ko kf ks o0 f0 s0 o1 f1 s1 on fn sn h0 n0 v U'.heap L ∧ FrameEnd U oc U' L ({ frames := 1, cells := 0, slots := 0, locals := 15 } : Room).cells ({ frames := 1, cells := 0, slots := 0, locals := 15 } : Room).slots) := by
  refine MetFree.of_bodySF (plainFor_of_name own_pn4) hisR ?_
  intro p e s m args below meth c s₁ Bd hml0 hP hK
  obtain ⟨rfl, hZ, hh⟩ := hP
  have hx := Bd.exec
  have hby := Bd.bytes
  have hml : c.maxLocals = 4 := hml0
  have hown : s.vm.findClass "com/example/quillgraph/quillgraph/sparql/RegexProgram$Builder" = some m.cls := findClass_of_methodNamed Bd.named
  have hnm := (name_of_methodNamed Bd.named Bd.method).1
  have X0 : Stand p l e ({ frames := 1, cells := 0, slots := 0, locals := 15 } : Room) s m #[(.ref a), (.ref on), (.int fn), (.int sn)] below meth c s₁ [] 0 0 := Stand.of_body Bd
  have e0 : s₁.heap = h0 := by rw [← hh, Bd.state]; rfl
  have N0 := Fr.nil n0
  have pre0 : ∀ t, Steps p.tables e below (s₁.setTop (mkF m 0 #[rv a, rv on, iv fn, iv sn] [])) t → Steps p.tables e below (s₁.setTop (entryFrame m #[(.ref a), (.ref on), (.int fn), (.int sn)] 4)) t := fun t k => castTop (own_add2_ef m a on fn sn) k
  have kp0 := Keep.refl h0 ([a, bo, bf, bs] : List Addr)
  obtain ⟨cq1, kq1, q1a, q1b, q1c⟩ := isOf hZ e0 E_a
  obtain ⟨_, _, ⟨T1, L1, k1, n1⟩, -, X1, ⟨Lc1, hQ1, l1, y1, z1⟩, st1⟩ := X0.virtualBack hx (y := (⟨"com/example/quillgraph/quillgraph/sparql/RegexProgram$Builder", "reserve", "(J)V"⟩ : MethodName)) (z := (⟨"com/example/quillgraph/quillgraph/sparql/RegexProgram$Builder", "reserve", "(J)V"⟩ : MethodName)) hown (mvT hZ (hw _ (own_m 62 rfl))) (mvT hZ (hw _ (own_m 63 rfl))) (notFace_of_selects (args := #[]) (mvT hZ (hw _ (own_m 65 rfl)))) (mvT hZ (hw _ (own_m 65 rfl))) (mvT hZ (hw _ (own_m 64 rfl))) (by decide) (backOf (W := 0) (own_res2 l Z a0 hw [] w_CHARACTER w_SPLIT w_JUMP w_TEXT_START w_LINE_START w_TEXT_END w_LINE_END w_SAVE w_BACK_REFERENCE w_MARK w_PROGRESS w_MATCH w_NOTHING w_DE k_DE a bo bf bs ll ko kf ks o0 f0 s0 o1 f1 s1 h0 n0 O0 U_CHARACTER U_SPLIT U_JUMP U_TEXT_START U_LINE_START U_TEXT_END U_LINE_END U_SAVE U_BACK_REFERENCE U_MARK U_PROGRESS U_MATCH U_NOTHING S_DE V_DE g_a E_a F_ops F_first F_second F_classes F_limit F_size F_registers g_bo g_bf g_bs n_bo_a n_bf_a n_bs_a n_ll_a n_bo_bf n_bo_bs n_bf_bs n_bo_ll n_bf_ll n_bs_ll O_bo V_bo V_bf V_bs) hZ (hw _ (own_m 66 rfl)) (hw _ (own_m 13 rfl)) (by decide) (by decide)) q1a q1c (g := (mkF m 2 #[rv a, rv on, iv fn, iv sn] [(.long 1), (.ref a)])) rfl (by rw [hml]; rfl) (Steps.refl _) (argsL := [(.long 1)]) (rest := []) (lenOf own_pd1 rfl) rfl (by show 2 * 0 + _ ≤ _; exact Nat.le_of_eq rfl) (hb hby own_d7_2) (fun _ _ => ⟨rfl, e0, (by decide : 0 + 0 ≤ _), (by decide : 0 + 0 ≤ _)⟩)
  dsimp only [Pt.U, Pt.locs, Pt.cells, Pt.slots] at X1 l1 y1 z1 st1 hQ1
  subst l1 y1 z1
  obtain ⟨rfl, N1q, e1⟩ := hQ1
  have N1 := Fr.app N0 N1q
  obtain ⟨T2, X2, e2, st2⟩ := getF X1 hx hZ hown (host := "") (Or.inl (hw _ (own_m 22 rfl))) Via.refl e1 F_ops (g := (mkF m 6 #[rv a, rv on, iv fn, iv sn] [(.ref a)])) rfl rfl (hb hby own_d7_6)
  obtain ⟨T3, X3, e3, st3⟩ := getF X2 hx hZ hown (host := "") (Or.inl (hw _ (own_m 67 rfl))) Via.refl e2 F_size (g := (mkF m 10 #[rv a, rv on, iv fn, iv sn] [(.ref a), (.ref bo)])) rfl rfl (hb hby own_d7_10)
  obtain ⟨c4, c4A, c4q, c4S, c4N, c4H, c4G⟩ := id V_bo
  have c4in : ¬ ((2 : Int32) < 0 ∨ c4.slots.size ≤ ((2 : Int32)).toNatClampNeg) := inb_of c4S ⟨by decide, by decide⟩
  obtain ⟨T5, h5, X5, e5, W5, st5⟩ := stR X3 hx hZ e3 c4A (j := (2 : Int32)) c4in rfl (Sto.ofV c4A c4q O_bo (Ins.self E_on)) (g := (mkF m 14 #[rv a, rv on, iv fn, iv sn] [(.ref on), (.int 2), (.ref bo)])) rfl rfl (hb hby own_d7_14)
  have V5 : Arv Z h5 bo ko (.object "com/example/quillgraph/quillgraph/sparql/RegexProgram$Op") (16 : Int32) [(.ref o0), (.ref o1), (.ref on), .null, .null, .null, .null, .null, .null, .null, .null, .null, .null, .null, .null, .null] .null := Arv.set c4A c4q c4S c4N c4H c4G rfl W5 2 rfl (Nat.le_of_ble_eq_true rfl)
  have O6 := O0.wr W5 g_bo
  have kp7 := kp0.wr W5 (Or.inl (own_m 1 rfl))
  have N5 := Fr.snoc X5 N1 g_bo
  have f8 := (F_first.other W5 (Or.inl (Ne.symm n_bo_a)))
  obtain ⟨T9, X9, e9, st9⟩ := getF X5 hx hZ hown (host := "") (Or.inl (hw _ (own_m 25 rfl))) Via.refl e5 f8 (g := (mkF m 16 #[rv a, rv on, iv fn, iv sn] [(.ref a)])) rfl rfl (hb hby own_d7_16)
  have f10 := (F_size.other W5 (Or.inl (Ne.symm n_bo_a)))
  obtain ⟨T11, X11, e11, st11⟩ := getF X9 hx hZ hown (host := "") (Or.inl (hw _ (own_m 67 rfl))) Via.refl e9 f10 (g := (mkF m 20 #[rv a, rv on, iv fn, iv sn] [(.ref a), (.ref bf)])) rfl rfl (hb hby own_d7_20)
  have f12 := (V_bf.other W5 (Ne.symm n_bo_bf))
  obtain ⟨c13, c13A, c13q, c13S, c13N, c13H, c13G⟩ := id f12
  have c13in : ¬ ((2 : Int32) < 0 ∨ c13.slots.size ≤ ((2 : Int32)).toNatClampNeg) := inb_of c13S ⟨by decide, by decide⟩
  obtain ⟨T14, h14, X14, e14, W14, st14⟩ := stI X11 hx hZ e11 c13A (j := (2 : Int32)) c13in (g := (mkF m 24 #[rv a, rv on, iv fn, iv sn] [(.int fn), (.int 2), (.ref bf)])) rfl rfl (hb hby own_d7_24)
  have V14 : Arv Z h14 bf kf .int (16 : Int32) [(.int f0), (.int f1), (.int fn), (.int 0), (.int 0), (.int 0), (.int 0), (.int 0), (.int 0), (.int 0), (.int 0), (.int 0), (.int 0), (.int 0), (.int 0), (.int 0)] (.int 0) := Arv.set c13A c13q c13S c13N c13H c13G rfl W14 2 rfl (Nat.le_of_ble_eq_true rfl)
  have O15 := O6.wr W14 g_bf
  have kp16 := kp7.wr W14 (Or.inl (own_m 2 rfl))
  have N14 := Fr.snoc X14 N5 g_bf
  have f17 := ((F_second.other W5 (Or.inl (Ne.symm n_bo_a))).other W14 (Or.inl (Ne.symm n_bf_a)))
  obtain ⟨T18, X18, e18, st18⟩ := getF X14 hx hZ hown (host := "") (Or.inl (hw _ (own_m 27 rfl))) Via.refl e14 f17 (g := (mkF m 26 #[rv a, rv on, iv fn, iv sn] [(.ref a)])) rfl rfl (hb hby own_d7_26)
  have f19 := (f10.other W14 (Or.inl (Ne.symm n_bf_a)))
  obtain ⟨T20, X20, e20, st20⟩ := getF X18 hx hZ hown (host := "") (Or.inl (hw _ (own_m 67 rfl))) Via.refl e18 f19 (g := (mkF m 30 #[rv a, rv on, iv fn, iv sn] [(.ref a), (.ref bs)])) rfl rfl (hb hby own_d7_30)
  have f21 := ((V_bs.other W5 (Ne.symm n_bo_bs)).other W14 (Ne.symm n_bf_bs))
  obtain ⟨c22, c22A, c22q, c22S, c22N, c22H, c22G⟩ := id f21
  have c22in : ¬ ((2 : Int32) < 0 ∨ c22.slots.size ≤ ((2 : Int32)).toNatClampNeg) := inb_of c22S ⟨by decide, by decide⟩
  obtain ⟨T23, h23, X23, e23, W23, st23⟩ := stI X20 hx hZ e20 c22A (j := (2 : Int32)) c22in (g := (mkF m 34 #[rv a, rv on, iv fn, iv sn] [(.int sn), (.int 2), (.ref bs)])) rfl rfl (hb hby own_d7_34)
  have V23 : Arv Z h23 bs ks .int (16 : Int32) [(.int s0), (.int s1), (.int sn), (.int 0), (.int 0), (.int 0), (.int 0), (.int 0), (.int 0), (.int 0), (.int 0), (.int 0), (.int 0), (.int 0), (.int 0), (.int 0)] (.int 0) := Arv.set c22A c22q c22S c22N c22H c22G rfl W23 2 rfl (Nat.le_of_ble_eq_true rfl)
  have O24 := O15.wr W23 g_bs
  have kp25 := kp16.wr W23 (Or.inl (own_m 3 rfl))
  have N23 := Fr.snoc X23 N14 g_bs
  have f26 := (f19.other W23 (Or.inl (Ne.symm n_bs_a)))
  obtain ⟨T27, X27, e27, st27⟩ := getF X23 hx hZ hown (host := "") (Or.inl (hw _ (own_m 67 rfl))) Via.refl e23 f26 (g := (mkF m 37 #[rv a, rv on, iv fn, iv sn] [(.ref a), (.ref a)])) rfl rfl (hb hby own_d7_37)
  have f28 := (((E_a.wr W5).wr W14).wr W23)
  obtain ⟨T29, h29, X29, e29, W29, st29⟩ := putF X27 hx hZ hown (host := "") (Or.inl (hw _ (own_m 67 rfl))) Via.refl e27 f26 f28 (Or.inl (hw _ (own_m 68 rfl))) (hw _ (own_m 12 rfl)) (ty := .int) (by decide) rfl rfl (g := (mkF m 43 #[rv a, rv on, iv fn, iv sn] [(.int 3), (.ref a), (.int 2)])) rfl rfl (hb hby own_d7_43)
  have Fw29 := f26.same W29
  have O30 := O24.wr W29 g_a
  have kp31 := kp25.wr W29 (Or.inl (own_m 0 rfl))
  have N29 := Fr.snoc X29 N23 g_a
  have f32 := (((V5.other W14 n_bo_bf).other W23 n_bo_bs).other W29 n_bo_a)
  have f33 := ((V14.other W23 n_bf_bs).other W29 n_bf_a)
  have f34 := (V23.other W29 n_bs_a)
  have f35 := (f28.wr W29)
  have f36 := ((((F_ops.other W5 (Or.inl (Ne.symm n_bo_a))).other W14 (Or.inl (Ne.symm n_bf_a))).other W23 (Or.inl (Ne.symm n_bs_a))).other W29 (Or.inr (slot_ne (Or.inl (hw _ (own_m 23 rfl))) (Or.inl (hw _ (own_m 68 rfl))) (by decide) (t := (.array (.object "com/example/quillgraph/quillgraph/sparql/RegexProgram$Op"))) (t' := .int) (by decide) (by decide))))
  have f37 := (((f8.other W14 (Or.inl (Ne.symm n_bf_a))).other W23 (Or.inl (Ne.symm n_bs_a))).other W29 (Or.inr (slot_ne (Or.inl (hw _ (own_m 26 rfl))) (Or.inl (hw _ (own_m 68 rfl))) (by decide) (t := (.array .int)) (t' := .int) (by decide) (by decide))))
  have f38 := ((f17.other W23 (Or.inl (Ne.symm n_bs_a))).other W29 (Or.inr (slot_ne (Or.inl (hw _ (own_m 28 rfl))) (Or.inl (hw _ (own_m 68 rfl))) (by decide) (t := (.array .int)) (t' := .int) (by decide) (by decide))))
  have f39 := ((((F_classes.other W5 (Or.inl (Ne.symm n_bo_a))).other W14 (Or.inl (Ne.symm n_bf_a))).other W23 (Or.inl (Ne.symm n_bs_a))).other W29 (Or.inr (slot_ne (Or.inr (hw _ (own_m 54 rfl))) (Or.inl (hw _ (own_m 68 rfl))) (by decide) (t := (.object "java/util/List")) (t' := .int) (by decide) (by decide))))
  have f40 := ((((F_limit.other W5 (Or.inl (Ne.symm n_bo_a))).other W14 (Or.inl (Ne.symm n_bf_a))).other W23 (Or.inl (Ne.symm n_bs_a))).other W29 (Or.inr (slot_ne (Or.inr (hw _ (own_m 56 rfl))) (Or.inl (hw _ (own_m 68 rfl))) (by decide) (t := .int) (t' := .int) (by decide) (by decide))))
  have f41 := ((((F_registers.other W5 (Or.inl (Ne.symm n_bo_a))).other W14 (Or.inl (Ne.symm n_bf_a))).other W23 (Or.inl (Ne.symm n_bs_a))).other W29 (Or.inr (slot_ne (Or.inl (hw _ (own_m 126 rfl))) (Or.inl (hw _ (own_m 68 rfl))) (by decide) (t := .int) (t' := .int) (by decide) (by decide))))
  obtain ⟨fs, hr, hrun, hended, hW, hsame⟩ := X29.leave (v := some (.int 2)) (fun h => by rw [Bd.returns] at h; cases h)
  refine ⟨_, _, pre0 _ ?_, hrun, hended, _, _, rfl, ?_, ⟨_, rfl⟩, hW, hsame.mono (by decide) (by decide)⟩
  · show Steps p.tables e below (s₁.setTop (mkF m 0 #[rv a, rv on, iv fn, iv sn] [])) _
    refine XS.aloadN X0.here hx rfl (hb hby own_d7_0) rfl rfl ?_
    show Steps p.tables e below (s₁.setTop (mkF m 1 #[rv a, rv on, iv fn, iv sn] [(.ref a)])) _
    refine XS.lconst X0.here hx rfl (hb hby own_d7_1) ?_
    show Steps p.tables e below (s₁.setTop (mkF m 2 #[rv a, rv on, iv fn, iv sn] [(.long 1), (.ref a)])) _
    refine st1.trans ?_
    show Steps p.tables e below (T1.setTop (mkF m 5 #[rv a, rv on, iv fn, iv sn] [])) _
    refine XS.aloadN X1.here hx rfl (hb hby own_d7_5) rfl rfl ?_
    show Steps p.tables e below (T1.setTop (mkF m 6 #[rv a, rv on, iv fn, iv sn] [(.ref a)])) _
    refine st2 _ ?_
    show Steps p.tables e below (T2.setTop (mkF m 9 #[rv a, rv on, iv fn, iv sn] [(.ref bo)])) _
    refine XS.aloadN X2.here hx rfl (hb hby own_d7_9) rfl rfl ?_
    show Steps p.tables e below (T2.setTop (mkF m 10 #[rv a, rv on, iv fn, iv sn] [(.ref a), (.ref bo)])) _
    refine st3 _ ?_
    show Steps p.tables e below (T3.setTop (mkF m 13 #[rv a, rv on, iv fn, iv sn] [(.int 2), (.ref bo)])) _
    refine XS.aloadN X3.here hx rfl (hb hby own_d7_13) rfl rfl ?_
    show Steps p.tables e below (T3.setTop (mkF m 14 #[rv a, rv on, iv fn, iv sn] [(.ref on), (.int 2), (.ref bo)])) _
    refine st5 _ ?_
    show Steps p.tables e below (T5.setTop (mkF m 15 #[rv a, rv on, iv fn, iv sn] [])) _
    refine XS.aloadN X5.here hx rfl (hb hby own_d7_15) rfl rfl ?_
    show Steps p.tables e below (T5.setTop (mkF m 16 #[rv a, rv on, iv fn, iv sn] [(.ref a)])) _
    refine st9 _ ?_
    show Steps p.tables e below (T9.setTop (mkF m 19 #[rv a, rv on, iv fn, iv sn] [(.ref bf)])) _
    refine XS.aloadN X9.here hx rfl (hb hby own_d7_19) rfl rfl ?_
    show Steps p.tables e below (T9.setTop (mkF m 20 #[rv a, rv on, iv fn, iv sn] [(.ref a), (.ref bf)])) _
    refine st11 _ ?_
    show Steps p.tables e below (T11.setTop (mkF m 23 #[rv a, rv on, iv fn, iv sn] [(.int 2), (.ref bf)])) _
    refine XS.iloadN X11.here hx rfl (hb hby own_d7_23) rfl ?_
    show Steps p.tables e below (T11.setTop (mkF m 24 #[rv a, rv on, iv fn, iv sn] [(.int fn), (.int 2), (.ref bf)])) _
    refine st14 _ ?_
    show Steps p.tables e below (T14.setTop (mkF m 25 #[rv a, rv on, iv fn, iv sn] [])) _
    refine XS.aloadN X14.here hx rfl (hb hby own_d7_25) rfl rfl ?_
    show Steps p.tables e below (T14.setTop (mkF m 26 #[rv a, rv on, iv fn, iv sn] [(.ref a)])) _
    refine st18 _ ?_
    show Steps p.tables e below (T18.setTop (mkF m 29 #[rv a, rv on, iv fn, iv sn] [(.ref bs)])) _
    refine XS.aloadN X18.here hx rfl (hb hby own_d7_29) rfl rfl ?_
    show Steps p.tables e below (T18.setTop (mkF m 30 #[rv a, rv on, iv fn, iv sn] [(.ref a), (.ref bs)])) _
    refine st20 _ ?_
    show Steps p.tables e below (T20.setTop (mkF m 33 #[rv a, rv on, iv fn, iv sn] [(.int 2), (.ref bs)])) _
    refine XS.iloadN X20.here hx rfl (hb hby own_d7_33) rfl ?_
    show Steps p.tables e below (T20.setTop (mkF m 34 #[rv a, rv on, iv fn, iv sn] [(.int sn), (.int 2), (.ref bs)])) _
    refine st23 _ ?_
    show Steps p.tables e below (T23.setTop (mkF m 35 #[rv a, rv on, iv fn, iv sn] [])) _
    refine XS.aloadN X23.here hx rfl (hb hby own_d7_35) rfl rfl ?_
    show Steps p.tables e below (T23.setTop (mkF m 36 #[rv a, rv on, iv fn, iv sn] [(.ref a)])) _
    refine XS.dup X23.here hx rfl (hb hby own_d7_36) rfl rfl ?_
    show Steps p.tables e below (T23.setTop (mkF m 37 #[rv a, rv on, iv fn, iv sn] [(.ref a), (.ref a)])) _
    refine st27 _ ?_
    show Steps p.tables e below (T27.setTop (mkF m 40 #[rv a, rv on, iv fn, iv sn] [(.int 2), (.ref a)])) _
    refine XS.dupX1 X27.here hx rfl (hb hby own_d7_40) rfl rfl rfl ?_
    show Steps p.tables e below (T27.setTop (mkF m 41 #[rv a, rv on, iv fn, iv sn] [(.int 2), (.ref a), (.int 2)])) _
    refine XS.iconst X27.here hx rfl (hb hby own_d7_41) ?_
    show Steps p.tables e below (T27.setTop (mkF m 42 #[rv a, rv on, iv fn, iv sn] [(.int 1), (.int 2), (.ref a), (.int 2)])) _
    refine XS.iadd X27.here hx rfl (hb hby own_d7_42) rfl ?_
    show Steps p.tables e below (T27.setTop (mkF m 43 #[rv a, rv on, iv fn, iv sn] [(.int ((2 : Int32) + (1 : Int32))), (.ref a), (.int 2)])) _
    refine own_top (v' := (.int 3)) (congrArg Value.int (by decide)) ?_
    show Steps p.tables e below (T27.setTop (mkF m 43 #[rv a, rv on, iv fn, iv sn] [(.int 3), (.ref a), (.int 2)])) _
    refine st29 _ ?_
    show Steps p.tables e below (T29.setTop (mkF m 46 #[rv a, rv on, iv fn, iv sn] [(.int 2)])) _
    exact retI X29 hx Bd.returns (hb hby own_d7_46) hr
  · show own_add2_Q Z w_CHARACTER w_SPLIT w_JUMP w_TEXT_START w_LINE_START w_TEXT_END w_LINE_END w_SAVE w_BACK_REFERENCE w_MARK w_PROGRESS w_MATCH w_NOTHING w_DE k_DE a bo bf bs ll ko kf ks o0 f0 s0 o1 f1 s1 on fn sn h0 n0 _ T29.heap _
    rw [e29]
    exact ⟨rfl, N29, kp31, f32, f33, f34, f35, f36, f37, f38, f39, f40, Fw29, f41⟩
theorem own_set0_ef (m : MethodId) (a : Addr) (on : Addr) (fn : Int32) (sn : Int32) : entryFrame m #[(.ref a), (.int 0), (.ref on), (.int fn), (.int sn)] 5 = mkF m 0 #[rv a, iv 0, rv on, iv fn, iv sn] [] := by first | (simp [entryFrame, mkF, argsToLocals, Value.category]; done) | rfl
def own_set0_Q (Z : State) (w_CHARACTER : Addr) (w_SPLIT : Addr) (w_JUMP : Addr) (w_TEXT_START : Addr) (w_LINE_START : Addr) (w_TEXT_END : Addr) (w_LINE_END : Addr) (w_SAVE : Addr) (w_BACK_REFERENCE : Addr) (w_MARK : Addr) (w_PROGRESS : Addr) (w_MATCH : Addr) (w_NOTHING : Addr) (w_DE : Addr) (k_DE : ClassId) (a : Addr) (bo : Addr) (bf : Addr) (bs : Addr) (ll : Addr) (ko : ClassId) (kf : ClassId) (ks : ClassId) (o0 : Addr) (f0 : Int32) (s0 : Int32) (o1 : Addr) (f1 : Int32) (s1 : Int32) (on : Addr) (fn : Int32) (sn : Int32) (h0 : Heap) (n0 : Nat) (v : Option Value) (h : Heap) (L : List Loc) : Prop := v = none ∧ Fr n0 L ∧ Keep h0 h [bo, bf, bs] ∧ Arv Z h bo ko (.object "com/example/quillgraph/quillgraph/sparql/RegexProgram$Op") (16 : Int32) [(.ref on), (.ref o1), .null, .null, .null, .null, .null, .null, .null, .null, .null, .null, .null, .null, .null, .null] .null ∧ Arv Z h bf kf .int (16 : Int32) [(.int fn), (.int f1), (.int 0), (.int 0), (.int 0), (.int 0), (.int 0), (.int 0), (.int 0), (.int 0), (.int 0), (.int 0), (.int 0), (.int 0), (.int 0), (.int 0)] (.int 0) ∧ Arv Z h bs ks .int (16 : Int32) [(.int sn), (.int s1), (.int 0), (.int 0), (.int 0), (.int 0), (.int 0), (.int 0), (.int 0), (.int 0), (.int 0), (.int 0), (.int 0), (.int 0), (.int 0), (.int 0)] (.int 0) ∧ Exa Z h a "com/example/quillgraph/quillgraph/sparql/RegexProgram$Builder" ∧ Fld Z h a "com/example/quillgraph/quillgraph/sparql/RegexProgram$Builder" "ops" "[Lcom/example/quillgraph/quillgraph/sparql/RegexProgram$Op;" (.ref bo) ∧ Fld Z h a "com/example/quillgraph/quillgraph/sparql/RegexProgram$Builder" "first" "[I" (.ref bf) ∧ Fld Z h a "com/example/quillgraph/quillgraph/sparql/RegexProgram$Builder" "second" "[I" (.ref bs) ∧ Fld Z h a "com/example/quillgraph/quillgraph/sparql/RegexProgram$Builder" "classes" "Ljava/util/List;" (.ref ll) ∧ Fld Z h a "com/example/quillgraph/quillgraph/sparql/RegexProgram$Builder" "limit" "I" (.int 16) ∧ Fld Z h a "com/example/quillgraph/quillgraph/sparql/RegexProgram$Builder" "size" "I" (.int 2) ∧ Fld Z h a "com/example/quillgraph/quillgraph/sparql/RegexProgram$Builder" "registers" "I" (.int 0)
set_option maxRecDepth 65536 in
set_option maxHeartbeats 40000000 in
theorem own_set0 (l : Launch) (Z : State) (a0 : Array Value) (hw : ∀ d ∈ tables_1, d.before a0 Z = true) (ws : List Jvm.Cond) (w_CHARACTER : Addr) (w_SPLIT : Addr) (w_JUMP : Addr) (w_TEXT_START : Addr) (w_LINE_START : Addr) (w_TEXT_END : Addr) (w_LINE_END : Addr) (w_SAVE : Addr) (w_BACK_REFERENCE : Addr) (w_MARK : Addr) (w_PROGRESS : Addr) (w_MATCH : Addr) (w_NOTHING : Addr) (w_DE : Addr) (k_DE : ClassId) (a : Addr) (bo : Addr) (bf : Addr) (bs : Addr) (ll : Addr) (ko : ClassId) (kf : ClassId) (ks : ClassId) (o0 : Addr) (f0 : Int32) (s0 : Int32) (o1 : Addr) (f1 : Int32) (s1 : Int32) (on : Addr) (fn : Int32) (sn : Int32) (h0 : Heap) (n0 : Nat) (O0 : Old Z n0 h0) (U_CHARACTER : own_En Z Z.heap "com/example/quillgraph/quillgraph/sparql/RegexProgram$Op" "CHARACTER" "Lcom/example/quillgraph/quillgraph/sparql/RegexProgram$Op;" w_CHARACTER (0 : Int32)) (U_SPLIT : own_En Z Z.heap "com/example/quillgraph/quillgraph/sparql/RegexProgram$Op" "SPLIT" "Lcom/example/quillgraph/quillgraph/sparql/RegexProgram$Op;" w_SPLIT (1 : Int32)) (U_JUMP : own_En Z Z.heap "com/example/quillgraph/quillgraph/sparql/RegexProgram$Op" "JUMP" "Lcom/example/quillgraph/quillgraph/sparql/RegexProgram$Op;" w_JUMP (2 : Int32)) (U_TEXT_START : own_En Z Z.heap "com/example/quillgraph/quillgraph/sparql/RegexProgram$Op" "TEXT_START" "Lcom/example/quillgraph/quillgraph/sparql/RegexProgram$Op;" w_TEXT_START (3 : Int32)) (U_LINE_START : own_En Z Z.heap "com/example/quillgraph/quillgraph/sparql/RegexProgram$Op" "LINE_START" "Lcom/example/quillgraph/quillgraph/sparql/RegexProgram$Op;" w_LINE_START (4 : Int32)) (U_TEXT_END : own_En Z Z.heap "com/example/quillgraph/quillgraph/sparql/RegexProgram$Op" "TEXT_END" "Lcom/example/quillgraph/quillgraph/sparql/RegexProgram$Op;" w_TEXT_END (5 : Int32)) (U_LINE_END : own_En Z Z.heap "com/example/quillgraph/quillgraph/sparql/RegexProgram$Op" "LINE_END" "Lcom/example/quillgraph/quillgraph/sparql/RegexProgram$Op;" w_LINE_END (6 : Int32)) (U_SAVE : own_En Z Z.heap "com/example/quillgraph/quillgraph/sparql/RegexProgram$Op" "SAVE" "Lcom/example/quillgraph/quillgraph/sparql/RegexProgram$Op;" w_SAVE (7 : Int32)) (U_BACK_REFERENCE : own_En Z Z.heap "com/example/quillgraph/quillgraph/sparql/RegexProgram$Op" "BACK_REFERENCE" "Lcom/example/quillgraph/quillgraph/sparql/RegexProgram$Op;" w_BACK_REFERENCE (8 : Int32)) (U_MARK : own_En Z Z.heap "com/example/quillgraph/quillgraph/sparql/RegexProgram$Op" "MARK" "Lcom/example/quillgraph/quillgraph/sparql/RegexProgram$Op;" w_MARK (9 : Int32)) (U_PROGRESS : own_En Z Z.heap "com/example/quillgraph/quillgraph/sparql/RegexProgram$Op" "PROGRESS" "Lcom/example/quillgraph/quillgraph/sparql/RegexProgram$Op;" w_PROGRESS (10 : Int32)) (U_MATCH : own_En Z Z.heap "com/example/quillgraph/quillgraph/sparql/RegexProgram$Op" "MATCH" "Lcom/example/quillgraph/quillgraph/sparql/RegexProgram$Op;" w_MATCH (11 : Int32)) (U_NOTHING : own_En Z Z.heap "com/example/quillgraph/quillgraph/sparql/RegexProgram$Op" "NOTHING" "Lcom/example/quillgraph/quillgraph/sparql/RegexProgram$Op;" w_NOTHING (12 : Int32)) (S_DE : Sta Z Z.heap "java/util/ArrayList" "DEFAULTCAPACITY_EMPTY_ELEMENTDATA" "[Ljava/lang/Object;" (.ref w_DE)) (V_DE : Arv Z Z.heap w_DE k_DE (.object "java/lang/Object") (0 : Int32) [] .null) (g_a : n0 ≤ a) (E_a : Exa Z h0 a "com/example/quillgraph/quillgraph/sparql/RegexProgram$Builder") (F_ops : Fld Z h0 a "com/example/quillgraph/quillgraph/sparql/RegexProgram$Builder" "ops" "[Lcom/example/quillgraph/quillgraph/sparql/RegexProgram$Op;" (.ref bo)) (F_first : Fld Z h0 a "com/example/quillgraph/quillgraph/sparql/RegexProgram$Builder" "first" "[I" (.ref bf)) (F_second : Fld Z h0 a "com/example/quillgraph/quillgraph/sparql/RegexProgram$Builder" "second" "[I" (.ref bs)) (F_classes : Fld Z h0 a "com/example/quillgraph/quillgraph/sparql/RegexProgram$Builder" "classes" "Ljava/util/List;" (.ref ll)) (F_limit : Fld Z h0 a "com/example/quillgraph/quillgraph/sparql/RegexProgram$Builder" "limit" "I" (.int 16)) (F_size : Fld Z h0 a "com/example/quillgraph/quillgraph/sparql/RegexProgram$Builder" "size" "I" (.int 2)) (F_registers : Fld Z h0 a "com/example/quillgraph/quillgraph/sparql/RegexProgram$Builder" "registers" "I" (.int 0)) (g_bo : n0 ≤ bo) (g_bf : n0 ≤ bf) (g_bs : n0 ≤ bs) (n_bo_a : bo ≠ a) (n_bf_a : bf ≠ a) (n_bs_a : bs ≠ a) (n_ll_a : ll ≠ a) (n_bo_bf : bo ≠ bf) (n_bo_bs : bo ≠ bs) (n_bf_bs : bf ≠ bs) (n_bo_ll : bo ≠ ll) (n_bf_ll : bf ≠ ll) (n_bs_ll : bs ≠ ll) (O_bo : Ovr Z ko "com/example/quillgraph/quillgraph/sparql/RegexProgram$Op") (V_bo : Arv Z h0 bo ko (.object "com/example/quillgraph/quillgraph/sparql/RegexProgram$Op") (16 : Int32) [(.ref o0), (.ref o1), .null, .null, .null, .null, .null, .null, .null, .null, .null, .null, .null, .null, .null, .null] .null) (V_bf : Arv Z h0 bf kf .int (16 : Int32) [(.int f0), (.int f1), (.int 0), (.int 0), (.int 0), (.int 0), (.int 0), (.int 0), (.int 0), (.int 0), (.int 0), (.int 0), (.int 0), (.int 0), (.int 0), (.int 0)] (.int 0)) (V_bs : Arv Z h0 bs ks .int (16 : Int32) [(.int s0), (.int s1), (.int 0), (.int 0), (.int 0), (.int 0), (.int 0), (.int 0), (.int 0), (.int 0), (.int 0), (.int 0), (.int 0), (.int 0), (.int 0), (.int 0)] (.int 0)) (E_on : Exa Z h0 on "com/example/quillgraph/quillgraph/sparql/RegexProgram$Op") :
    MetFree l (⟨"com/example/quillgraph/quillgraph/sparql/RegexProgram$Builder", "set", "(ILcom/example/quillgraph/quillgraph/sparql/RegexProgram$Op;II)V"⟩ : MethodName) (head1 (Jvm.Cond.code (⟨"com/example/quillgraph/quillgraph/sparql/RegexProgram$Builder", "set", "(ILcom/example/quillgraph/quillgraph/sparql/RegexProgram$Op;II)V"⟩ : MethodName) prog_117_method_5_code 5 none :: ws) ({ frames := 0, cells := 0, slots := 0, locals := 0 } : Room)) (fun ar U => ar = #[(.ref a), (.int 0), (.ref on), (.int fn), (.int sn)] ∧ Z.Warmed39 U.vm ∧ U.heap = h0) (fun _ _ _ _ _ => True) (fun _ U oc U' => ∃ v L, oc = .returned v ∧ own_set0_Q Z w_CHARACTER w_SPLIT w_JUMP w_TEXT_START w_LINE_START w_TEXT_END w_LINE_END w_SAVE w_BACK_REFERENCE w_MARK w_PROGRESS w_MATCH w_NOTHING w_DE k_DE a bo bf bs ll ko kf ks o0 f0 s0 o1 f1 s1 on fn sn h0 n0 v U'.heap L ∧ FrameEnd U oc U' L ({ frames := 0, cells := 0, slots := 0, locals := 0 } : Room).cells ({ frames := 0, cells := 0, slots := 0, locals := 0 } : Room).slots) := by
  refine MetFree.of_bodySF (plainFor_of_name own_pn4) hisR ?_
  intro p e s m args below meth c s₁ Bd hml0 hP hK
  obtain ⟨rfl, hZ, hh⟩ := hP
  have hx := Bd.exec
  have hby := Bd.bytes
  have hml : c.maxLocals = 5 := hml0
  have hown : s.vm.findClass "com/example/quillgraph/quillgraph/sparql/RegexProgram$Builder" = some m.cls := findClass_of_methodNamed Bd.named
  have hnm := (name_of_methodNamed Bd.named Bd.method).1
  have X0 : Stand p l e ({ frames := 0, cells := 0, slots := 0, locals := 0 } : Room) s m #[(.ref a), (.int 0), (.ref on), (.int fn), (.int sn)] below meth c s₁ [] 0 0 := Stand.of_body Bd
  have e0 : s₁.heap = h0 := by rw [← hh, Bd.state]; rfl
  have N0 := Fr.nil n0
  have pre0 : ∀ t, Steps p.tables e below (s₁.setTop (mkF m 0 #[rv a, iv 0, rv on, iv fn, iv sn] [])) t → Steps p.tables e below (s₁.setTop (entryFrame m #[(.ref a), (.int 0), (.ref on), (.int fn), (.int sn)] 5)) t := fun t k => castTop (own_set0_ef m a on fn sn) k
  have kp0 := Keep.refl h0 ([bo, bf, bs] : List Addr)
  obtain ⟨T1, X1, e1, st1⟩ := getF X0 hx hZ hown (host := "") (Or.inl (hw _ (own_m 22 rfl))) Via.refl e0 F_ops (g := (mkF m 1 #[rv a, iv 0, rv on, iv fn, iv sn] [(.ref a)])) rfl rfl (hb hby own_d9_1)
  obtain ⟨c2, c2A, c2q, c2S, c2N, c2H, c2G⟩ := id V_bo
  have c2in : ¬ ((0 : Int32) < 0 ∨ c2.slots.size ≤ ((0 : Int32)).toNatClampNeg) := inb_of c2S ⟨by decide, by decide⟩
  obtain ⟨T3, h3, X3, e3, W3, st3⟩ := stR X1 hx hZ e1 c2A (j := (0 : Int32)) c2in rfl (Sto.ofV c2A c2q O_bo (Ins.self E_on)) (g := (mkF m 6 #[rv a, iv 0, rv on, iv fn, iv sn] [(.ref on), (.int 0), (.ref bo)])) rfl rfl (hb hby own_d9_6)
  have V3 : Arv Z h3 bo ko (.object "com/example/quillgraph/quillgraph/sparql/RegexProgram$Op") (16 : Int32) [(.ref on), (.ref o1), .null, .null, .null, .null, .null, .null, .null, .null, .null, .null, .null, .null, .null, .null] .null := Arv.set c2A c2q c2S c2N c2H c2G rfl W3 0 rfl (Nat.le_of_ble_eq_true rfl)
  have O4 := O0.wr W3 g_bo
  have kp5 := kp0.wr W3 (Or.inl (own_m 0 rfl))
  have N3 := Fr.snoc X3 N0 g_bo
  have f6 := (F_first.other W3 (Or.inl (Ne.symm n_bo_a)))
  obtain ⟨T7, X7, e7, st7⟩ := getF X3 hx hZ hown (host := "") (Or.inl (hw _ (own_m 25 rfl))) Via.refl e3 f6 (g := (mkF m 8 #[rv a, iv 0, rv on, iv fn, iv sn] [(.ref a)])) rfl rfl (hb hby own_d9_8)
  have f8 := (V_bf.other W3 (Ne.symm n_bo_bf))
  obtain ⟨c9, c9A, c9q, c9S, c9N, c9H, c9G⟩ := id f8
  have c9in : ¬ ((0 : Int32) < 0 ∨ c9.slots.size ≤ ((0 : Int32)).toNatClampNeg) := inb_of c9S ⟨by decide, by decide⟩
  obtain ⟨T10, h10, X10, e10, W10, st10⟩ := stI X7 hx hZ e7 c9A (j := (0 : Int32)) c9in (g := (mkF m 13 #[rv a, iv 0, rv on, iv fn, iv sn] [(.int fn), (.int 0), (.ref bf)])) rfl rfl (hb hby own_d9_13)
  have V10 : Arv Z h10 bf kf .int (16 : Int32) [(.int fn), (.int f1), (.int 0), (.int 0), (.int 0), (.int 0), (.int 0), (.int 0), (.int 0), (.int 0), (.int 0), (.int 0), (.int 0), (.int 0), (.int 0), (.int 0)] (.int 0) := Arv.set c9A c9q c9S c9N c9H c9G rfl W10 0 rfl (Nat.le_of_ble_eq_true rfl)
  have O11 := O4.wr W10 g_bf
  have kp12 := kp5.wr W10 (Or.inl (own_m 1 rfl))
  have N10 := Fr.snoc X10 N3 g_bf
  have f13 := ((F_second.other W3 (Or.inl (Ne.symm n_bo_a))).other W10 (Or.inl (Ne.symm n_bf_a)))
  obtain ⟨T14, X14, e14, st14⟩ := getF X10 hx hZ hown (host := "") (Or.inl (hw _ (own_m 27 rfl))) Via.refl e10 f13 (g := (mkF m 15 #[rv a, iv 0, rv on, iv fn, iv sn] [(.ref a)])) rfl rfl (hb hby own_d9_15)
  have f15 := ((V_bs.other W3 (Ne.symm n_bo_bs)).other W10 (Ne.symm n_bf_bs))
  obtain ⟨c16, c16A, c16q, c16S, c16N, c16H, c16G⟩ := id f15
  have c16in : ¬ ((0 : Int32) < 0 ∨ c16.slots.size ≤ ((0 : Int32)).toNatClampNeg) := inb_of c16S ⟨by decide, by decide⟩
  obtain ⟨T17, h17, X17, e17, W17, st17⟩ := stI X14 hx hZ e14 c16A (j := (0 : Int32)) c16in (g := (mkF m 21 #[rv a, iv 0, rv on, iv fn, iv sn] [(.int sn), (.int 0), (.ref bs)])) rfl rfl (hb hby own_d9_21)
  have V17 : Arv Z h17 bs ks .int (16 : Int32) [(.int sn), (.int s1), (.int 0), (.int 0), (.int 0), (.int 0), (.int 0), (.int 0), (.int 0), (.int 0), (.int 0), (.int 0), (.int 0), (.int 0), (.int 0), (.int 0)] (.int 0) := Arv.set c16A c16q c16S c16N c16H c16G rfl W17 0 rfl (Nat.le_of_ble_eq_true rfl)
  have O18 := O11.wr W17 g_bs
  have kp19 := kp12.wr W17 (Or.inl (own_m 2 rfl))
  have N17 := Fr.snoc X17 N10 g_bs
  have f20 := ((V3.other W10 n_bo_bf).other W17 n_bo_bs)
  have f21 := (V10.other W17 n_bf_bs)
  have f22 := (((E_a.wr W3).wr W10).wr W17)
  have f23 := (((F_ops.other W3 (Or.inl (Ne.symm n_bo_a))).other W10 (Or.inl (Ne.symm n_bf_a))).other W17 (Or.inl (Ne.symm n_bs_a)))
  have f24 := ((f6.other W10 (Or.inl (Ne.symm n_bf_a))).other W17 (Or.inl (Ne.symm n_bs_a)))
  have f25 := (f13.other W17 (Or.inl (Ne.symm n_bs_a)))
  have f26 := (((F_classes.other W3 (Or.inl (Ne.symm n_bo_a))).other W10 (Or.inl (Ne.symm n_bf_a))).other W17 (Or.inl (Ne.symm n_bs_a)))
  have f27 := (((F_limit.other W3 (Or.inl (Ne.symm n_bo_a))).other W10 (Or.inl (Ne.symm n_bf_a))).other W17 (Or.inl (Ne.symm n_bs_a)))
  have f28 := (((F_size.other W3 (Or.inl (Ne.symm n_bo_a))).other W10 (Or.inl (Ne.symm n_bf_a))).other W17 (Or.inl (Ne.symm n_bs_a)))
  have f29 := (((F_registers.other W3 (Or.inl (Ne.symm n_bo_a))).other W10 (Or.inl (Ne.symm n_bf_a))).other W17 (Or.inl (Ne.symm n_bs_a)))
  obtain ⟨fs, hr, hrun, hended, hW, hsame⟩ := X17.leave (v := none) (fun _ => rfl)
  refine ⟨_, _, pre0 _ ?_, hrun, hended, _, _, rfl, ?_, ⟨_, rfl⟩, hW, hsame.mono (by decide) (by decide)⟩
  · show Steps p.tables e below (s₁.setTop (mkF m 0 #[rv a, iv 0, rv on, iv fn, iv sn] [])) _
    refine XS.aloadN X0.here hx rfl (hb hby own_d9_0) rfl rfl ?_
    show Steps p.tables e below (s₁.setTop (mkF m 1 #[rv a, iv 0, rv on, iv fn, iv sn] [(.ref a)])) _
    refine st1 _ ?_
    show Steps p.tables e below (T1.setTop (mkF m 4 #[rv a, iv 0, rv on, iv fn, iv sn] [(.ref bo)])) _
    refine XS.iloadN X1.here hx rfl (hb hby own_d9_4) rfl ?_
    show Steps p.tables e below (T1.setTop (mkF m 5 #[rv a, iv 0, rv on, iv fn, iv sn] [(.int 0), (.ref bo)])) _
    refine XS.aloadN X1.here hx rfl (hb hby own_d9_5) rfl rfl ?_
    show Steps p.tables e below (T1.setTop (mkF m 6 #[rv a, iv 0, rv on, iv fn, iv sn] [(.ref on), (.int 0), (.ref bo)])) _
    refine st3 _ ?_
    show Steps p.tables e below (T3.setTop (mkF m 7 #[rv a, iv 0, rv on, iv fn, iv sn] [])) _
    refine XS.aloadN X3.here hx rfl (hb hby own_d9_7) rfl rfl ?_
    show Steps p.tables e below (T3.setTop (mkF m 8 #[rv a, iv 0, rv on, iv fn, iv sn] [(.ref a)])) _
    refine st7 _ ?_
    show Steps p.tables e below (T7.setTop (mkF m 11 #[rv a, iv 0, rv on, iv fn, iv sn] [(.ref bf)])) _
    refine XS.iloadN X7.here hx rfl (hb hby own_d9_11) rfl ?_
    show Steps p.tables e below (T7.setTop (mkF m 12 #[rv a, iv 0, rv on, iv fn, iv sn] [(.int 0), (.ref bf)])) _
    refine XS.iloadN X7.here hx rfl (hb hby own_d9_12) rfl ?_
    show Steps p.tables e below (T7.setTop (mkF m 13 #[rv a, iv 0, rv on, iv fn, iv sn] [(.int fn), (.int 0), (.ref bf)])) _
    refine st10 _ ?_
    show Steps p.tables e below (T10.setTop (mkF m 14 #[rv a, iv 0, rv on, iv fn, iv sn] [])) _
    refine XS.aloadN X10.here hx rfl (hb hby own_d9_14) rfl rfl ?_
    show Steps p.tables e below (T10.setTop (mkF m 15 #[rv a, iv 0, rv on, iv fn, iv sn] [(.ref a)])) _
    refine st14 _ ?_
    show Steps p.tables e below (T14.setTop (mkF m 18 #[rv a, iv 0, rv on, iv fn, iv sn] [(.ref bs)])) _
    refine XS.iloadN X14.here hx rfl (hb hby own_d9_18) rfl ?_
    show Steps p.tables e below (T14.setTop (mkF m 19 #[rv a, iv 0, rv on, iv fn, iv sn] [(.int 0), (.ref bs)])) _
    refine XS.iload X14.here hx rfl (hb hby own_d9_19) rfl ?_
    show Steps p.tables e below (T14.setTop (mkF m 21 #[rv a, iv 0, rv on, iv fn, iv sn] [(.int sn), (.int 0), (.ref bs)])) _
    refine st17 _ ?_
    show Steps p.tables e below (T17.setTop (mkF m 22 #[rv a, iv 0, rv on, iv fn, iv sn] [])) _
    exact X17.returnOut hx Bd.returns (hb hby own_d9_22) hr
  · show own_set0_Q Z w_CHARACTER w_SPLIT w_JUMP w_TEXT_START w_LINE_START w_TEXT_END w_LINE_END w_SAVE w_BACK_REFERENCE w_MARK w_PROGRESS w_MATCH w_NOTHING w_DE k_DE a bo bf bs ll ko kf ks o0 f0 s0 o1 f1 s1 on fn sn h0 n0 _ T17.heap _
    rw [e17]
    exact ⟨rfl, N17, kp19, f20, f21, V17, f22, f23, f24, f25, f26, f27, f28, f29⟩
theorem own_set1_ef (m : MethodId) (a : Addr) (on : Addr) (fn : Int32) (sn : Int32) : entryFrame m #[(.ref a), (.int 1), (.ref on), (.int fn), (.int sn)] 5 = mkF m 0 #[rv a, iv 1, rv on, iv fn, iv sn] [] := by first | (simp [entryFrame, mkF, argsToLocals, Value.category]; done) | rfl
def own_set1_Q (Z : State) (w_CHARACTER : Addr) (w_SPLIT : Addr) (w_JUMP : Addr) (w_TEXT_START : Addr) (w_LINE_START : Addr) (w_TEXT_END : Addr) (w_LINE_END : Addr) (w_SAVE : Addr) (w_BACK_REFERENCE : Addr) (w_MARK : Addr) (w_PROGRESS : Addr) (w_MATCH : Addr) (w_NOTHING : Addr) (w_DE : Addr) (k_DE : ClassId) (a : Addr) (bo : Addr) (bf : Addr) (bs : Addr) (ll : Addr) (ko : ClassId) (kf : ClassId) (ks : ClassId) (o0 : Addr) (f0 : Int32) (s0 : Int32) (o1 : Addr) (f1 : Int32) (s1 : Int32) (on : Addr) (fn : Int32) (sn : Int32) (h0 : Heap) (n0 : Nat) (v : Option Value) (h : Heap) (L : List Loc) : Prop := v = none ∧ Fr n0 L ∧ Keep h0 h [bo, bf, bs] ∧ Arv Z h bo ko (.object "com/example/quillgraph/quillgraph/sparql/RegexProgram$Op") (16 : Int32) [(.ref o0), (.ref on), .null, .null, .null, .null, .null, .null, .null, .null, .null, .null, .null, .null, .null, .null] .null ∧ Arv Z h bf kf .int (16 : Int32) [(.int f0), (.int fn), (.int 0), (.int 0), (.int 0), (.int 0), (.int 0), (.int 0), (.int 0), (.int 0), (.int 0), (.int 0), (.int 0), (.int 0), (.int 0), (.int 0)] (.int 0) ∧ Arv Z h bs ks .int (16 : Int32) [(.int s0), (.int sn), (.int 0), (.int 0), (.int 0), (.int 0), (.int 0), (.int 0), (.int 0), (.int 0), (.int 0), (.int 0), (.int 0), (.int 0), (.int 0), (.int 0)] (.int 0) ∧ Exa Z h a "com/example/quillgraph/quillgraph/sparql/RegexProgram$Builder" ∧ Fld Z h a "com/example/quillgraph/quillgraph/sparql/RegexProgram$Builder" "ops" "[Lcom/example/quillgraph/quillgraph/sparql/RegexProgram$Op;" (.ref bo) ∧ Fld Z h a "com/example/quillgraph/quillgraph/sparql/RegexProgram$Builder" "first" "[I" (.ref bf) ∧ Fld Z h a "com/example/quillgraph/quillgraph/sparql/RegexProgram$Builder" "second" "[I" (.ref bs) ∧ Fld Z h a "com/example/quillgraph/quillgraph/sparql/RegexProgram$Builder" "classes" "Ljava/util/List;" (.ref ll) ∧ Fld Z h a "com/example/quillgraph/quillgraph/sparql/RegexProgram$Builder" "limit" "I" (.int 16) ∧ Fld Z h a "com/example/quillgraph/quillgraph/sparql/RegexProgram$Builder" "size" "I" (.int 2) ∧ Fld Z h a "com/example/quillgraph/quillgraph/sparql/RegexProgram$Builder" "registers" "I" (.int 0)
set_option maxRecDepth 65536 in
set_option maxHeartbeats 40000000 in
theorem own_set1 (l : Launch) (Z : State) (a0 : Array Value) (hw : ∀ d ∈ tables_1, d.before a0 Z = true) (ws : List Jvm.Cond) (w_CHARACTER : Addr) (w_SPLIT : Addr) (w_JUMP : Addr) (w_TEXT_START : Addr) (w_LINE_START : Addr) (w_TEXT_END : Addr) (w_LINE_END : Addr) (w_SAVE : Addr) (w_BACK_REFERENCE : Addr) (w_MARK : Addr) (w_PROGRESS : Addr) (w_MATCH : Addr) (w_NOTHING : Addr) (w_DE : Addr) (k_DE : ClassId) (a : Addr) (bo : Addr) (bf : Addr) (bs : Addr) (ll : Addr) (ko : ClassId) (kf : ClassId) (ks : ClassId) (o0 : Addr) (f0 : Int32) (s0 : Int32) (o1 : Addr) (f1 : Int32) (s1 : Int32) (on : Addr) (fn : Int32) (sn : Int32) (h0 : Heap) (n0 : Nat) (O0 : Old Z n0 h0) (U_CHARACTER : own_En Z Z.heap "com/example/quillgraph/quillgraph/sparql/RegexProgram$Op" "CHARACTER" "Lcom/example/quillgraph/quillgraph/sparql/RegexProgram$Op;" w_CHARACTER (0 : Int32)) (U_SPLIT : own_En Z Z.heap "com/example/quillgraph/quillgraph/sparql/RegexProgram$Op" "SPLIT" "Lcom/example/quillgraph/quillgraph/sparql/RegexProgram$Op;" w_SPLIT (1 : Int32)) (U_JUMP : own_En Z Z.heap "com/example/quillgraph/quillgraph/sparql/RegexProgram$Op" "JUMP" "Lcom/example/quillgraph/quillgraph/sparql/RegexProgram$Op;" w_JUMP (2 : Int32)) (U_TEXT_START : own_En Z Z.heap "com/example/quillgraph/quillgraph/sparql/RegexProgram$Op" "TEXT_START" "Lcom/example/quillgraph/quillgraph/sparql/RegexProgram$Op;" w_TEXT_START (3 : Int32)) (U_LINE_START : own_En Z Z.heap "com/example/quillgraph/quillgraph/sparql/RegexProgram$Op" "LINE_START" "Lcom/example/quillgraph/quillgraph/sparql/RegexProgram$Op;" w_LINE_START (4 : Int32)) (U_TEXT_END : own_En Z Z.heap "com/example/quillgraph/quillgraph/sparql/RegexProgram$Op" "TEXT_END" "Lcom/example/quillgraph/quillgraph/sparql/RegexProgram$Op;" w_TEXT_END (5 : Int32)) (U_LINE_END : own_En Z Z.heap "com/example/quillgraph/quillgraph/sparql/RegexProgram$Op" "LINE_END" "Lcom/example/quillgraph/quillgraph/sparql/RegexProgram$Op;" w_LINE_END (6 : Int32)) (U_SAVE : own_En Z Z.heap "com/example/quillgraph/quillgraph/sparql/RegexProgram$Op" "SAVE" "Lcom/example/quillgraph/quillgraph/sparql/RegexProgram$Op;" w_SAVE (7 : Int32)) (U_BACK_REFERENCE : own_En Z Z.heap "com/example/quillgraph/quillgraph/sparql/RegexProgram$Op" "BACK_REFERENCE" "Lcom/example/quillgraph/quillgraph/sparql/RegexProgram$Op;" w_BACK_REFERENCE (8 : Int32)) (U_MARK : own_En Z Z.heap "com/example/quillgraph/quillgraph/sparql/RegexProgram$Op" "MARK" "Lcom/example/quillgraph/quillgraph/sparql/RegexProgram$Op;" w_MARK (9 : Int32)) (U_PROGRESS : own_En Z Z.heap "com/example/quillgraph/quillgraph/sparql/RegexProgram$Op" "PROGRESS" "Lcom/example/quillgraph/quillgraph/sparql/RegexProgram$Op;" w_PROGRESS (10 : Int32)) (U_MATCH : own_En Z Z.heap "com/example/quillgraph/quillgraph/sparql/RegexProgram$Op" "MATCH" "Lcom/example/quillgraph/quillgraph/sparql/RegexProgram$Op;" w_MATCH (11 : Int32)) (U_NOTHING : own_En Z Z.heap "com/example/quillgraph/quillgraph/sparql/RegexProgram$Op" "NOTHING" "Lcom/example/quillgraph/quillgraph/sparql/RegexProgram$Op;" w_NOTHING (12 : Int32)) (S_DE : Sta Z Z.heap "java/util/ArrayList" "DEFAULTCAPACITY_EMPTY_ELEMENTDATA" "[Ljava/lang/Object;" (.ref w_DE)) (V_DE : Arv Z Z.heap w_DE k_DE (.object "java/lang/Object") (0 : Int32) [] .null) (g_a : n0 ≤ a) (E_a : Exa Z h0 a "com/example/quillgraph/quillgraph/sparql/RegexProgram$Builder") (F_ops : Fld Z h0 a "com/example/quillgraph/quillgraph/sparql/RegexProgram$Builder" "ops" "[Lcom/example/quillgraph/quillgraph/sparql/RegexProgram$Op;" (.ref bo)) (F_first : Fld Z h0 a "com/example/quillgraph/quillgraph/sparql/RegexProgram$Builder" "first" "[I" (.ref bf)) (F_second : Fld Z h0 a "com/example/quillgraph/quillgraph/sparql/RegexProgram$Builder" "second" "[I" (.ref bs)) (F_classes : Fld Z h0 a "com/example/quillgraph/quillgraph/sparql/RegexProgram$Builder" "classes" "Ljava/util/List;" (.ref ll)) (F_limit : Fld Z h0 a "com/example/quillgraph/quillgraph/sparql/RegexProgram$Builder" "limit" "I" (.int 16)) (F_size : Fld Z h0 a "com/example/quillgraph/quillgraph/sparql/RegexProgram$Builder" "size" "I" (.int 2)) (F_registers : Fld Z h0 a "com/example/quillgraph/quillgraph/sparql/RegexProgram$Builder" "registers" "I" (.int 0)) (g_bo : n0 ≤ bo) (g_bf : n0 ≤ bf) (g_bs : n0 ≤ bs) (n_bo_a : bo ≠ a) (n_bf_a : bf ≠ a) (n_bs_a : bs ≠ a) (n_ll_a : ll ≠ a) (n_bo_bf : bo ≠ bf) (n_bo_bs : bo ≠ bs) (n_bf_bs : bf ≠ bs) (n_bo_ll : bo ≠ ll) (n_bf_ll : bf ≠ ll) (n_bs_ll : bs ≠ ll) (O_bo : Ovr Z ko "com/example/quillgraph/quillgraph/sparql/RegexProgram$Op") (V_bo : Arv Z h0 bo ko (.object "com/example/quillgraph/quillgraph/sparql/RegexProgram$Op") (16 : Int32) [(.ref o0), (.ref o1), .null, .null, .null, .null, .null, .null, .null, .null, .null, .null, .null, .null, .null, .null] .null) (V_bf : Arv Z h0 bf kf .int (16 : Int32) [(.int f0), (.int f1), (.int 0), (.int 0), (.int 0), (.int 0), (.int 0), (.int 0), (.int 0), (.int 0), (.int 0), (.int 0), (.int 0), (.int 0), (.int 0), (.int 0)] (.int 0)) (V_bs : Arv Z h0 bs ks .int (16 : Int32) [(.int s0), (.int s1), (.int 0), (.int 0), (.int 0), (.int 0), (.int 0), (.int 0), (.int 0), (.int 0), (.int 0), (.int 0), (.int 0), (.int 0), (.int 0), (.int 0)] (.int 0)) (E_on : Exa Z h0 on "com/example/quillgraph/quillgraph/sparql/RegexProgram$Op") :
    MetFree l (⟨"com/example/quillgraph/quillgraph/sparql/RegexProgram$Builder", "set", "(ILcom/example/quillgraph/quillgraph/sparql/RegexProgram$Op;II)V"⟩ : MethodName) (head1 (Jvm.Cond.code (⟨"com/example/quillgraph/quillgraph/sparql/RegexProgram$Builder", "set", "(ILcom/example/quillgraph/quillgraph/sparql/RegexProgram$Op;II)V"⟩ : MethodName) prog_117_method_5_code 5 none :: ws) ({ frames := 0, cells := 0, slots := 0, locals := 0 } : Room)) (fun ar U => ar = #[(.ref a), (.int 1), (.ref on), (.int fn), (.int sn)] ∧ Z.Warmed39 U.vm ∧ U.heap = h0) (fun _ _ _ _ _ => True) (fun _ U oc U' => ∃ v L, oc = .returned v ∧ own_set1_Q Z w_CHARACTER w_SPLIT w_JUMP w_TEXT_START w_LINE_START w_TEXT_END w_LINE_END w_SAVE w_BACK_REFERENCE w_MARK w_PROGRESS w_MATCH w_NOTHING w_DE k_DE a bo bf bs ll ko kf ks o0 f0 s0 o1 f1 s1 on fn sn h0 n0 v U'.heap L ∧ FrameEnd U oc U' L ({ frames := 0, cells := 0, slots := 0, locals := 0 } : Room).cells ({ frames := 0, cells := 0, slots := 0, locals := 0 } : Room).slots) := by
  refine MetFree.of_bodySF (plainFor_of_name own_pn4) hisR ?_
  intro p e s m args below meth c s₁ Bd hml0 hP hK
  obtain ⟨rfl, hZ, hh⟩ := hP
  have hx := Bd.exec
  have hby := Bd.bytes
  have hml : c.maxLocals = 5 := hml0
  have hown : s.vm.findClass "com/example/quillgraph/quillgraph/sparql/RegexProgram$Builder" = some m.cls := findClass_of_methodNamed Bd.named
  have hnm := (name_of_methodNamed Bd.named Bd.method).1
  have X0 : Stand p l e ({ frames := 0, cells := 0, slots := 0, locals := 0 } : Room) s m #[(.ref a), (.int 1), (.ref on), (.int fn), (.int sn)] below meth c s₁ [] 0 0 := Stand.of_body Bd
  have e0 : s₁.heap = h0 := by rw [← hh, Bd.state]; rfl
  have N0 := Fr.nil n0
  have pre0 : ∀ t, Steps p.tables e below (s₁.setTop (mkF m 0 #[rv a, iv 1, rv on, iv fn, iv sn] [])) t → Steps p.tables e below (s₁.setTop (entryFrame m #[(.ref a), (.int 1), (.ref on), (.int fn), (.int sn)] 5)) t := fun t k => castTop (own_set1_ef m a on fn sn) k
  have kp0 := Keep.refl h0 ([bo, bf, bs] : List Addr)
  obtain ⟨T1, X1, e1, st1⟩ := getF X0 hx hZ hown (host := "") (Or.inl (hw _ (own_m 22 rfl))) Via.refl e0 F_ops (g := (mkF m 1 #[rv a, iv 1, rv on, iv fn, iv sn] [(.ref a)])) rfl rfl (hb hby own_d9_1)
  obtain ⟨c2, c2A, c2q, c2S, c2N, c2H, c2G⟩ := id V_bo
  have c2in : ¬ ((1 : Int32) < 0 ∨ c2.slots.size ≤ ((1 : Int32)).toNatClampNeg) := inb_of c2S ⟨by decide, by decide⟩
  obtain ⟨T3, h3, X3, e3, W3, st3⟩ := stR X1 hx hZ e1 c2A (j := (1 : Int32)) c2in rfl (Sto.ofV c2A c2q O_bo (Ins.self E_on)) (g := (mkF m 6 #[rv a, iv 1, rv on, iv fn, iv sn] [(.ref on), (.int 1), (.ref bo)])) rfl rfl (hb hby own_d9_6)
  have V3 : Arv Z h3 bo ko (.object "com/example/quillgraph/quillgraph/sparql/RegexProgram$Op") (16 : Int32) [(.ref o0), (.ref on), .null, .null, .null, .null, .null, .null, .null, .null, .null, .null, .null, .null, .null, .null] .null := Arv.set c2A c2q c2S c2N c2H c2G rfl W3 1 rfl (Nat.le_of_ble_eq_true rfl)
  have O4 := O0.wr W3 g_bo
  have kp5 := kp0.wr W3 (Or.inl (own_m 0 rfl))
  have N3 := Fr.snoc X3 N0 g_bo
  have f6 := (F_first.other W3 (Or.inl (Ne.symm n_bo_a)))
  obtain ⟨T7, X7, e7, st7⟩ := getF X3 hx hZ hown (host := "") (Or.inl (hw _ (own_m 25 rfl))) Via.refl e3 f6 (g := (mkF m 8 #[rv a, iv 1, rv on, iv fn, iv sn] [(.ref a)])) rfl rfl (hb hby own_d9_8)
  have f8 := (V_bf.other W3 (Ne.symm n_bo_bf))
  obtain ⟨c9, c9A, c9q, c9S, c9N, c9H, c9G⟩ := id f8
  have c9in : ¬ ((1 : Int32) < 0 ∨ c9.slots.size ≤ ((1 : Int32)).toNatClampNeg) := inb_of c9S ⟨by decide, by decide⟩
  obtain ⟨T10, h10, X10, e10, W10, st10⟩ := stI X7 hx hZ e7 c9A (j := (1 : Int32)) c9in (g := (mkF m 13 #[rv a, iv 1, rv on, iv fn, iv sn] [(.int fn), (.int 1), (.ref bf)])) rfl rfl (hb hby own_d9_13)
  have V10 : Arv Z h10 bf kf .int (16 : Int32) [(.int f0), (.int fn), (.int 0), (.int 0), (.int 0), (.int 0), (.int 0), (.int 0), (.int 0), (.int 0), (.int 0), (.int 0), (.int 0), (.int 0), (.int 0), (.int 0)] (.int 0) := Arv.set c9A c9q c9S c9N c9H c9G rfl W10 1 rfl (Nat.le_of_ble_eq_true rfl)
  have O11 := O4.wr W10 g_bf
  have kp12 := kp5.wr W10 (Or.inl (own_m 1 rfl))
  have N10 := Fr.snoc X10 N3 g_bf
  have f13 := ((F_second.other W3 (Or.inl (Ne.symm n_bo_a))).other W10 (Or.inl (Ne.symm n_bf_a)))
  obtain ⟨T14, X14, e14, st14⟩ := getF X10 hx hZ hown (host := "") (Or.inl (hw _ (own_m 27 rfl))) Via.refl e10 f13 (g := (mkF m 15 #[rv a, iv 1, rv on, iv fn, iv sn] [(.ref a)])) rfl rfl (hb hby own_d9_15)
  have f15 := ((V_bs.other W3 (Ne.symm n_bo_bs)).other W10 (Ne.symm n_bf_bs))
  obtain ⟨c16, c16A, c16q, c16S, c16N, c16H, c16G⟩ := id f15
  have c16in : ¬ ((1 : Int32) < 0 ∨ c16.slots.size ≤ ((1 : Int32)).toNatClampNeg) := inb_of c16S ⟨by decide, by decide⟩
  obtain ⟨T17, h17, X17, e17, W17, st17⟩ := stI X14 hx hZ e14 c16A (j := (1 : Int32)) c16in (g := (mkF m 21 #[rv a, iv 1, rv on, iv fn, iv sn] [(.int sn), (.int 1), (.ref bs)])) rfl rfl (hb hby own_d9_21)
  have V17 : Arv Z h17 bs ks .int (16 : Int32) [(.int s0), (.int sn), (.int 0), (.int 0), (.int 0), (.int 0), (.int 0), (.int 0), (.int 0), (.int 0), (.int 0), (.int 0), (.int 0), (.int 0), (.int 0), (.int 0)] (.int 0) := Arv.set c16A c16q c16S c16N c16H c16G rfl W17 1 rfl (Nat.le_of_ble_eq_true rfl)
  have O18 := O11.wr W17 g_bs
  have kp19 := kp12.wr W17 (Or.inl (own_m 2 rfl))
  have N17 := Fr.snoc X17 N10 g_bs
  have f20 := ((V3.other W10 n_bo_bf).other W17 n_bo_bs)
  have f21 := (V10.other W17 n_bf_bs)
  have f22 := (((E_a.wr W3).wr W10).wr W17)
  have f23 := (((F_ops.other W3 (Or.inl (Ne.symm n_bo_a))).other W10 (Or.inl (Ne.symm n_bf_a))).other W17 (Or.inl (Ne.symm n_bs_a)))
  have f24 := ((f6.other W10 (Or.inl (Ne.symm n_bf_a))).other W17 (Or.inl (Ne.symm n_bs_a)))
  have f25 := (f13.other W17 (Or.inl (Ne.symm n_bs_a)))
  have f26 := (((F_classes.other W3 (Or.inl (Ne.symm n_bo_a))).other W10 (Or.inl (Ne.symm n_bf_a))).other W17 (Or.inl (Ne.symm n_bs_a)))
  have f27 := (((F_limit.other W3 (Or.inl (Ne.symm n_bo_a))).other W10 (Or.inl (Ne.symm n_bf_a))).other W17 (Or.inl (Ne.symm n_bs_a)))
  have f28 := (((F_size.other W3 (Or.inl (Ne.symm n_bo_a))).other W10 (Or.inl (Ne.symm n_bf_a))).other W17 (Or.inl (Ne.symm n_bs_a)))
  have f29 := (((F_registers.other W3 (Or.inl (Ne.symm n_bo_a))).other W10 (Or.inl (Ne.symm n_bf_a))).other W17 (Or.inl (Ne.symm n_bs_a)))
  obtain ⟨fs, hr, hrun, hended, hW, hsame⟩ := X17.leave (v := none) (fun _ => rfl)
  refine ⟨_, _, pre0 _ ?_, hrun, hended, _, _, rfl, ?_, ⟨_, rfl⟩, hW, hsame.mono (by decide) (by decide)⟩
  · show Steps p.tables e below (s₁.setTop (mkF m 0 #[rv a, iv 1, rv on, iv fn, iv sn] [])) _
    refine XS.aloadN X0.here hx rfl (hb hby own_d9_0) rfl rfl ?_
    show Steps p.tables e below (s₁.setTop (mkF m 1 #[rv a, iv 1, rv on, iv fn, iv sn] [(.ref a)])) _
    refine st1 _ ?_
    show Steps p.tables e below (T1.setTop (mkF m 4 #[rv a, iv 1, rv on, iv fn, iv sn] [(.ref bo)])) _
    refine XS.iloadN X1.here hx rfl (hb hby own_d9_4) rfl ?_
    show Steps p.tables e below (T1.setTop (mkF m 5 #[rv a, iv 1, rv on, iv fn, iv sn] [(.int 1), (.ref bo)])) _
    refine XS.aloadN X1.here hx rfl (hb hby own_d9_5) rfl rfl ?_
    show Steps p.tables e below (T1.setTop (mkF m 6 #[rv a, iv 1, rv on, iv fn, iv sn] [(.ref on), (.int 1), (.ref bo)])) _
    refine st3 _ ?_
    show Steps p.tables e below (T3.setTop (mkF m 7 #[rv a, iv 1, rv on, iv fn, iv sn] [])) _
    refine XS.aloadN X3.here hx rfl (hb hby own_d9_7) rfl rfl ?_
    show Steps p.tables e below (T3.setTop (mkF m 8 #[rv a, iv 1, rv on, iv fn, iv sn] [(.ref a)])) _
    refine st7 _ ?_
    show Steps p.tables e below (T7.setTop (mkF m 11 #[rv a, iv 1, rv on, iv fn, iv sn] [(.ref bf)])) _
    refine XS.iloadN X7.here hx rfl (hb hby own_d9_11) rfl ?_
    show Steps p.tables e below (T7.setTop (mkF m 12 #[rv a, iv 1, rv on, iv fn, iv sn] [(.int 1), (.ref bf)])) _
    refine XS.iloadN X7.here hx rfl (hb hby own_d9_12) rfl ?_
    show Steps p.tables e below (T7.setTop (mkF m 13 #[rv a, iv 1, rv on, iv fn, iv sn] [(.int fn), (.int 1), (.ref bf)])) _
    refine st10 _ ?_
    show Steps p.tables e below (T10.setTop (mkF m 14 #[rv a, iv 1, rv on, iv fn, iv sn] [])) _
    refine XS.aloadN X10.here hx rfl (hb hby own_d9_14) rfl rfl ?_
    show Steps p.tables e below (T10.setTop (mkF m 15 #[rv a, iv 1, rv on, iv fn, iv sn] [(.ref a)])) _
    refine st14 _ ?_
    show Steps p.tables e below (T14.setTop (mkF m 18 #[rv a, iv 1, rv on, iv fn, iv sn] [(.ref bs)])) _
    refine XS.iloadN X14.here hx rfl (hb hby own_d9_18) rfl ?_
    show Steps p.tables e below (T14.setTop (mkF m 19 #[rv a, iv 1, rv on, iv fn, iv sn] [(.int 1), (.ref bs)])) _
    refine XS.iload X14.here hx rfl (hb hby own_d9_19) rfl ?_
    show Steps p.tables e below (T14.setTop (mkF m 21 #[rv a, iv 1, rv on, iv fn, iv sn] [(.int sn), (.int 1), (.ref bs)])) _
    refine st17 _ ?_
    show Steps p.tables e below (T17.setTop (mkF m 22 #[rv a, iv 1, rv on, iv fn, iv sn] [])) _
    exact X17.returnOut hx Bd.returns (hb hby own_d9_22) hr
  · show own_set1_Q Z w_CHARACTER w_SPLIT w_JUMP w_TEXT_START w_LINE_START w_TEXT_END w_LINE_END w_SAVE w_BACK_REFERENCE w_MARK w_PROGRESS w_MATCH w_NOTHING w_DE k_DE a bo bf bs ll ko kf ks o0 f0 s0 o1 f1 s1 on fn sn h0 n0 _ T17.heap _
    rw [e17]
    exact ⟨rfl, N17, kp19, f20, f21, V17, f22, f23, f24, f25, f26, f27, f28, f29⟩
theorem own_drop_ef (m : MethodId) (o : Addr) (fl : Int32) : entryFrame m #[(.ref o), (.int fl)] 2 = mkF m 0 #[rv o, iv fl] [] := by first | (simp [entryFrame, mkF, argsToLocals, Value.category]; done) | rfl
def own_drop_Q (Z : State) (w_CHARACTER : Addr) (w_SPLIT : Addr) (w_JUMP : Addr) (w_TEXT_START : Addr) (w_LINE_START : Addr) (w_TEXT_END : Addr) (w_LINE_END : Addr) (w_SAVE : Addr) (w_BACK_REFERENCE : Addr) (w_MARK : Addr) (w_PROGRESS : Addr) (w_MATCH : Addr) (w_NOTHING : Addr) (w_DE : Addr) (k_DE : ClassId) (o : Addr) (fl : Int32) (h0 : Heap) (n0 : Nat) (v : Option Value) (h : Heap) (L : List Loc) : Prop := v = some (.int 0) ∧ Fr n0 L ∧ h = h0
set_option maxRecDepth 65536 in
set_option maxHeartbeats 40000000 in
theorem own_drop (l : Launch) (Z : State) (a0 : Array Value) (hw : ∀ d ∈ tables_1, d.before a0 Z = true) (ws : List Jvm.Cond) (w_CHARACTER : Addr) (w_SPLIT : Addr) (w_JUMP : Addr) (w_TEXT_START : Addr) (w_LINE_START : Addr) (w_TEXT_END : Addr) (w_LINE_END : Addr) (w_SAVE : Addr) (w_BACK_REFERENCE : Addr) (w_MARK : Addr) (w_PROGRESS : Addr) (w_MATCH : Addr) (w_NOTHING : Addr) (w_DE : Addr) (k_DE : ClassId) (o : Addr) (fl : Int32) (h0 : Heap) (n0 : Nat) (O0 : Old Z n0 h0) (U_CHARACTER : own_En Z Z.heap "com/example/quillgraph/quillgraph/sparql/RegexProgram$Op" "CHARACTER" "Lcom/example/quillgraph/quillgraph/sparql/RegexProgram$Op;" w_CHARACTER (0 : Int32)) (U_SPLIT : own_En Z Z.heap "com/example/quillgraph/quillgraph/sparql/RegexProgram$Op" "SPLIT" "Lcom/example/quillgraph/quillgraph/sparql/RegexProgram$Op;" w_SPLIT (1 : Int32)) (U_JUMP : own_En Z Z.heap "com/example/quillgraph/quillgraph/sparql/RegexProgram$Op" "JUMP" "Lcom/example/quillgraph/quillgraph/sparql/RegexProgram$Op;" w_JUMP (2 : Int32)) (U_TEXT_START : own_En Z Z.heap "com/example/quillgraph/quillgraph/sparql/RegexProgram$Op" "TEXT_START" "Lcom/example/quillgraph/quillgraph/sparql/RegexProgram$Op;" w_TEXT_START (3 : Int32)) (U_LINE_START : own_En Z Z.heap "com/example/quillgraph/quillgraph/sparql/RegexProgram$Op" "LINE_START" "Lcom/example/quillgraph/quillgraph/sparql/RegexProgram$Op;" w_LINE_START (4 : Int32)) (U_TEXT_END : own_En Z Z.heap "com/example/quillgraph/quillgraph/sparql/RegexProgram$Op" "TEXT_END" "Lcom/example/quillgraph/quillgraph/sparql/RegexProgram$Op;" w_TEXT_END (5 : Int32)) (U_LINE_END : own_En Z Z.heap "com/example/quillgraph/quillgraph/sparql/RegexProgram$Op" "LINE_END" "Lcom/example/quillgraph/quillgraph/sparql/RegexProgram$Op;" w_LINE_END (6 : Int32)) (U_SAVE : own_En Z Z.heap "com/example/quillgraph/quillgraph/sparql/RegexProgram$Op" "SAVE" "Lcom/example/quillgraph/quillgraph/sparql/RegexProgram$Op;" w_SAVE (7 : Int32)) (U_BACK_REFERENCE : own_En Z Z.heap "com/example/quillgraph/quillgraph/sparql/RegexProgram$Op" "BACK_REFERENCE" "Lcom/example/quillgraph/quillgraph/sparql/RegexProgram$Op;" w_BACK_REFERENCE (8 : Int32)) (U_MARK : own_En Z Z.heap "com/example/quillgraph/quillgraph/sparql/RegexProgram$Op" "MARK" "Lcom/example/quillgraph/quillgraph/sparql/RegexProgram$Op;" w_MARK (9 : Int32)) (U_PROGRESS : own_En Z Z.heap "com/example/quillgraph/quillgraph/sparql/RegexProgram$Op" "PROGRESS" "Lcom/example/quillgraph/quillgraph/sparql/RegexProgram$Op;" w_PROGRESS (10 : Int32)) (U_MATCH : own_En Z Z.heap "com/example/quillgraph/quillgraph/sparql/RegexProgram$Op" "MATCH" "Lcom/example/quillgraph/quillgraph/sparql/RegexProgram$Op;" w_MATCH (11 : Int32)) (U_NOTHING : own_En Z Z.heap "com/example/quillgraph/quillgraph/sparql/RegexProgram$Op" "NOTHING" "Lcom/example/quillgraph/quillgraph/sparql/RegexProgram$Op;" w_NOTHING (12 : Int32)) (S_DE : Sta Z Z.heap "java/util/ArrayList" "DEFAULTCAPACITY_EMPTY_ELEMENTDATA" "[Ljava/lang/Object;" (.ref w_DE)) (V_DE : Arv Z Z.heap w_DE k_DE (.object "java/lang/Object") (0 : Int32) [] .null) (G_o : Exa Z Z.heap o "com/example/quillgraph/quillgraph/sparql/RegexProgram$Op" ∧ o ≠ w_NOTHING ∧ o ≠ w_SAVE ∧ o ≠ w_MARK ∧ o ≠ w_PROGRESS) :
    MetFree l (⟨"com/example/quillgraph/quillgraph/sparql/RegexProgram$Builder", "isDropped", "(Lcom/example/quillgraph/quillgraph/sparql/RegexProgram$Op;Z)Z"⟩ : MethodName) (head1 (Jvm.Cond.code (⟨"com/example/quillgraph/quillgraph/sparql/RegexProgram$Builder", "isDropped", "(Lcom/example/quillgraph/quillgraph/sparql/RegexProgram$Op;Z)Z"⟩ : MethodName) prog_117_method_12_code 2 (some .boolean) :: ws) ({ frames := 0, cells := 0, slots := 0, locals := 0 } : Room)) (fun ar U => ar = #[(.ref o), (.int fl)] ∧ Z.Warmed39 U.vm ∧ U.heap = h0) (fun _ _ _ _ _ => True) (fun _ U oc U' => ∃ v L, oc = .returned v ∧ own_drop_Q Z w_CHARACTER w_SPLIT w_JUMP w_TEXT_START w_LINE_START w_TEXT_END w_LINE_END w_SAVE w_BACK_REFERENCE w_MARK w_PROGRESS w_MATCH w_NOTHING w_DE k_DE o fl h0 n0 v U'.heap L ∧ FrameEnd U oc U' L ({ frames := 0, cells := 0, slots := 0, locals := 0 } : Room).cells ({ frames := 0, cells := 0, slots := 0, locals := 0 } : Room).slots) := by
  refine MetFree.of_bodySF (plainFor_of_name own_pn4) hisR ?_
  intro p e s m args below meth c s₁ Bd hml0 hP hK
  obtain ⟨rfl, hZ, hh⟩ := hP
  have hx := Bd.exec
  have hby := Bd.bytes
  have hml : c.maxLocals = 2 := hml0
  have hown : s.vm.findClass "com/example/quillgraph/quillgraph/sparql/RegexProgram$Builder" = some m.cls := findClass_of_methodNamed Bd.named
  have hnm := (name_of_methodNamed Bd.named Bd.method).1
  have X0 : Stand p l e ({ frames := 0, cells := 0, slots := 0, locals := 0 } : Room) s m #[(.ref o), (.int fl)] below meth c s₁ [] 0 0 := Stand.of_body Bd
  have e0 : s₁.heap = h0 := by rw [← hh, Bd.state]; rfl
  have N0 := Fr.nil n0
  have pre0 : ∀ t, Steps p.tables e below (s₁.setTop (mkF m 0 #[rv o, iv fl] [])) t → Steps p.tables e below (s₁.setTop (entryFrame m #[(.ref o), (.int fl)] 2)) t := fun t k => castTop (own_drop_ef m o fl) k
  obtain ⟨T1, X1, e1, st1⟩ := getS2 X0 hx hZ hown (host := "") (Or.inl (hw _ (own_m 90 rfl))) Via.refl e0 (U_NOTHING.1.ext O0.2) (g := (mkF m 1 #[rv o, iv fl] [(.ref o)])) rfl (hb hby own_d11_1)
  have pre3 : ∀ t, Steps p.tables e below (T1.setTop (mkF m 7 #[rv o, iv fl] [])) t → Steps p.tables e below (s₁.setTop (entryFrame m #[(.ref o), (.int fl)] 2)) t := fun t kt => by
    refine pre0 _ ?_
    show Steps p.tables e below (s₁.setTop (mkF m 0 #[rv o, iv fl] [])) _
    refine XS.aloadN X0.here hx rfl (hb hby own_d11_0) rfl rfl ?_
    show Steps p.tables e below (s₁.setTop (mkF m 1 #[rv o, iv fl] [(.ref o)])) _
    refine st1 _ ?_
    show Steps p.tables e below (T1.setTop (mkF m 4 #[rv o, iv fl] [(.ref w_NOTHING), (.ref o)])) _
    refine Jvm.RoadKit.acmp (g := (mkF m 4 #[rv o, iv fl] [(.ref w_NOTHING), (.ref o)])) X1 hx rfl rfl rfl (pc0 := 4) (pc' := 7) (same := false) rfl (hb hby own_d11_4) rfl (decide_eq_false fun q => G_o.2.1 (Value.ref.inj q)) (by decide) (by decide) ?_
    show Steps p.tables e below (T1.setTop (mkF m 7 #[rv o, iv fl] [])) _
    exact kt
  by_cases hc2 : fl = (0 : Int32)
  · obtain ⟨T4, X4, e4, st4⟩ := getS2 X1 hx hZ hown (host := "") (Or.inl (hw _ (own_m 92 rfl))) Via.refl e1 (U_SAVE.1.ext O0.2) (g := (mkF m 12 #[rv o, iv fl] [(.ref o)])) rfl (hb hby own_d11_12)
    obtain ⟨T5, X5, e5, st5⟩ := getS2 X4 hx hZ hown (host := "") (Or.inl (hw _ (own_m 94 rfl))) Via.refl e4 (U_MARK.1.ext O0.2) (g := (mkF m 19 #[rv o, iv fl] [(.ref o)])) rfl (hb hby own_d11_19)
    obtain ⟨T6, X6, e6, st6⟩ := getS2 X5 hx hZ hown (host := "") (Or.inl (hw _ (own_m 96 rfl))) Via.refl e5 (U_PROGRESS.1.ext O0.2) (g := (mkF m 26 #[rv o, iv fl] [(.ref o)])) rfl (hb hby own_d11_26)
    obtain ⟨fs, hr, hrun, hended, hW, hsame⟩ := X6.leave (v := some (.int 0)) (fun h => by rw [Bd.returns] at h; cases h)
    refine ⟨_, _, pre3 _ ?_, hrun, hended, _, _, rfl, ?_, ⟨_, rfl⟩, hW, hsame.mono (by decide) (by decide)⟩
    · show Steps p.tables e below (T1.setTop (mkF m 7 #[rv o, iv fl] [])) _
      refine XS.iloadN X1.here hx rfl (hb hby own_d11_7) rfl ?_
      show Steps p.tables e below (T1.setTop (mkF m 8 #[rv o, iv fl] [(.int fl)])) _
      refine XS.ifNo X1.here hx rfl (hb hby own_d11_8) rfl ((if0 _ _).trans (teq hc2).2) ?_
      show Steps p.tables e below (T1.setTop (mkF m 11 #[rv o, iv fl] [])) _
      refine XS.aloadN X1.here hx rfl (hb hby own_d11_11) rfl rfl ?_
      show Steps p.tables e below (T1.setTop (mkF m 12 #[rv o, iv fl] [(.ref o)])) _
      refine st4 _ ?_
      show Steps p.tables e below (T4.setTop (mkF m 15 #[rv o, iv fl] [(.ref w_SAVE), (.ref o)])) _
      refine Jvm.RoadKit.acmp (g := (mkF m 15 #[rv o, iv fl] [(.ref w_SAVE), (.ref o)])) X4 hx rfl rfl rfl (pc0 := 15) (pc' := 18) (same := false) rfl (hb hby own_d11_15) rfl (decide_eq_false fun q => G_o.2.2.1 (Value.ref.inj q)) (by decide) (by decide) ?_
      show Steps p.tables e below (T4.setTop (mkF m 18 #[rv o, iv fl] [])) _
      refine XS.aloadN X4.here hx rfl (hb hby own_d11_18) rfl rfl ?_
      show Steps p.tables e below (T4.setTop (mkF m 19 #[rv o, iv fl] [(.ref o)])) _
      refine st5 _ ?_
      show Steps p.tables e below (T5.setTop (mkF m 22 #[rv o, iv fl] [(.ref w_MARK), (.ref o)])) _
      refine Jvm.RoadKit.acmp (g := (mkF m 22 #[rv o, iv fl] [(.ref w_MARK), (.ref o)])) X5 hx rfl rfl rfl (pc0 := 22) (pc' := 25) (same := false) rfl (hb hby own_d11_22) rfl (decide_eq_false fun q => G_o.2.2.2.1 (Value.ref.inj q)) (by decide) (by decide) ?_
      show Steps p.tables e below (T5.setTop (mkF m 25 #[rv o, iv fl] [])) _
      refine XS.aloadN X5.here hx rfl (hb hby own_d11_25) rfl rfl ?_
      show Steps p.tables e below (T5.setTop (mkF m 26 #[rv o, iv fl] [(.ref o)])) _
      refine st6 _ ?_
      show Steps p.tables e below (T6.setTop (mkF m 29 #[rv o, iv fl] [(.ref w_PROGRESS), (.ref o)])) _
      refine Jvm.RoadKit.acmp (g := (mkF m 29 #[rv o, iv fl] [(.ref w_PROGRESS), (.ref o)])) X6 hx rfl rfl rfl (pc0 := 29) (pc' := 36) (same := false) rfl (hb hby own_d11_29) rfl (decide_eq_false fun q => G_o.2.2.2.2 (Value.ref.inj q)) (by decide) (by decide) ?_
      show Steps p.tables e below (T6.setTop (mkF m 36 #[rv o, iv fl] [])) _
      refine XS.iconst X6.here hx rfl (hb hby own_d11_36) ?_
      show Steps p.tables e below (T6.setTop (mkF m 37 #[rv o, iv fl] [(.int 0)])) _
      exact retN X6 hx (t := .boolean) Bd.returns (by simp) (hb hby own_d11_37) hr
    · show own_drop_Q Z w_CHARACTER w_SPLIT w_JUMP w_TEXT_START w_LINE_START w_TEXT_END w_LINE_END w_SAVE w_BACK_REFERENCE w_MARK w_PROGRESS w_MATCH w_NOTHING w_DE k_DE o fl h0 n0 _ T6.heap _
      rw [e6]
      exact ⟨rfl, N0, rfl⟩
  · obtain ⟨fs, hr, hrun, hended, hW, hsame⟩ := X1.leave (v := some (.int 0)) (fun h => by rw [Bd.returns] at h; cases h)
    refine ⟨_, _, pre3 _ ?_, hrun, hended, _, _, rfl, ?_, ⟨_, rfl⟩, hW, hsame.mono (by decide) (by decide)⟩
    · show Steps p.tables e below (T1.setTop (mkF m 7 #[rv o, iv fl] [])) _
      refine XS.iloadN X1.here hx rfl (hb hby own_d11_7) rfl ?_
      show Steps p.tables e below (T1.setTop (mkF m 8 #[rv o, iv fl] [(.int fl)])) _
      refine XS.ifYes X1.here hx rfl (pc0 := 8) (pc' := 36) rfl (hb hby own_d11_8) rfl ((if0 _ _).trans (feq hc2).2) (by decide) (by decide) ?_
      show Steps p.tables e below (T1.setTop (mkF m 36 #[rv o, iv fl] [])) _
      refine XS.iconst X1.here hx rfl (hb hby own_d11_36) ?_
      show Steps p.tables e below (T1.setTop (mkF m 37 #[rv o, iv fl] [(.int 0)])) _
      exact retN X1 hx (t := .boolean) Bd.returns (by simp) (hb hby own_d11_37) hr
    · show own_drop_Q Z w_CHARACTER w_SPLIT w_JUMP w_TEXT_START w_LINE_START w_TEXT_END w_LINE_END w_SAVE w_BACK_REFERENCE w_MARK w_PROGRESS w_MATCH w_NOTHING w_DE k_DE o fl h0 n0 _ T1.heap _
      rw [e1]
      exact ⟨rfl, N0, rfl⟩
theorem own_isj_ef (m : MethodId) (o : Addr) : entryFrame m #[(.ref o)] 1 = mkF m 0 #[rv o] [] := by first | (simp [entryFrame, mkF, argsToLocals, Value.category]; done) | rfl
def own_isj_Q (Z : State) (w_CHARACTER : Addr) (w_SPLIT : Addr) (w_JUMP : Addr) (w_TEXT_START : Addr) (w_LINE_START : Addr) (w_TEXT_END : Addr) (w_LINE_END : Addr) (w_SAVE : Addr) (w_BACK_REFERENCE : Addr) (w_MARK : Addr) (w_PROGRESS : Addr) (w_MATCH : Addr) (w_NOTHING : Addr) (w_DE : Addr) (k_DE : ClassId) (o : Addr) (h0 : Heap) (n0 : Nat) (v : Option Value) (h : Heap) (L : List Loc) : Prop := ∃ r : Int32, v = some (.int r) ∧ ((r = (1 : Int32) ∧ (o = w_SPLIT ∨ o = w_JUMP)) ∨ (r = (0 : Int32) ∧ ¬ (o = w_SPLIT ∨ o = w_JUMP))) ∧ Fr n0 L ∧ h = h0
set_option maxRecDepth 65536 in
set_option maxHeartbeats 40000000 in
theorem own_isj (l : Launch) (Z : State) (a0 : Array Value) (hw : ∀ d ∈ tables_1, d.before a0 Z = true) (ws : List Jvm.Cond) (w_CHARACTER : Addr) (w_SPLIT : Addr) (w_JUMP : Addr) (w_TEXT_START : Addr) (w_LINE_START : Addr) (w_TEXT_END : Addr) (w_LINE_END : Addr) (w_SAVE : Addr) (w_BACK_REFERENCE : Addr) (w_MARK : Addr) (w_PROGRESS : Addr) (w_MATCH : Addr) (w_NOTHING : Addr) (w_DE : Addr) (k_DE : ClassId) (o : Addr) (h0 : Heap) (n0 : Nat) (O0 : Old Z n0 h0) (U_CHARACTER : own_En Z Z.heap "com/example/quillgraph/quillgraph/sparql/RegexProgram$Op" "CHARACTER" "Lcom/example/quillgraph/quillgraph/sparql/RegexProgram$Op;" w_CHARACTER (0 : Int32)) (U_SPLIT : own_En Z Z.heap "com/example/quillgraph/quillgraph/sparql/RegexProgram$Op" "SPLIT" "Lcom/example/quillgraph/quillgraph/sparql/RegexProgram$Op;" w_SPLIT (1 : Int32)) (U_JUMP : own_En Z Z.heap "com/example/quillgraph/quillgraph/sparql/RegexProgram$Op" "JUMP" "Lcom/example/quillgraph/quillgraph/sparql/RegexProgram$Op;" w_JUMP (2 : Int32)) (U_TEXT_START : own_En Z Z.heap "com/example/quillgraph/quillgraph/sparql/RegexProgram$Op" "TEXT_START" "Lcom/example/quillgraph/quillgraph/sparql/RegexProgram$Op;" w_TEXT_START (3 : Int32)) (U_LINE_START : own_En Z Z.heap "com/example/quillgraph/quillgraph/sparql/RegexProgram$Op" "LINE_START" "Lcom/example/quillgraph/quillgraph/sparql/RegexProgram$Op;" w_LINE_START (4 : Int32)) (U_TEXT_END : own_En Z Z.heap "com/example/quillgraph/quillgraph/sparql/RegexProgram$Op" "TEXT_END" "Lcom/example/quillgraph/quillgraph/sparql/RegexProgram$Op;" w_TEXT_END (5 : Int32)) (U_LINE_END : own_En Z Z.heap "com/example/quillgraph/quillgraph/sparql/RegexProgram$Op" "LINE_END" "Lcom/example/quillgraph/quillgraph/sparql/RegexProgram$Op;" w_LINE_END (6 : Int32)) (U_SAVE : own_En Z Z.heap "com/example/quillgraph/quillgraph/sparql/RegexProgram$Op" "SAVE" "Lcom/example/quillgraph/quillgraph/sparql/RegexProgram$Op;" w_SAVE (7 : Int32)) (U_BACK_REFERENCE : own_En Z Z.heap "com/example/quillgraph/quillgraph/sparql/RegexProgram$Op" "BACK_REFERENCE" "Lcom/example/quillgraph/quillgraph/sparql/RegexProgram$Op;" w_BACK_REFERENCE (8 : Int32)) (U_MARK : own_En Z Z.heap "com/example/quillgraph/quillgraph/sparql/RegexProgram$Op" "MARK" "Lcom/example/quillgraph/quillgraph/sparql/RegexProgram$Op;" w_MARK (9 : Int32)) (U_PROGRESS : own_En Z Z.heap "com/example/quillgraph/quillgraph/sparql/RegexProgram$Op" "PROGRESS" "Lcom/example/quillgraph/quillgraph/sparql/RegexProgram$Op;" w_PROGRESS (10 : Int32)) (U_MATCH : own_En Z Z.heap "com/example/quillgraph/quillgraph/sparql/RegexProgram$Op" "MATCH" "Lcom/example/quillgraph/quillgraph/sparql/RegexProgram$Op;" w_MATCH (11 : Int32)) (U_NOTHING : own_En Z Z.heap "com/example/quillgraph/quillgraph/sparql/RegexProgram$Op" "NOTHING" "Lcom/example/quillgraph/quillgraph/sparql/RegexProgram$Op;" w_NOTHING (12 : Int32)) (S_DE : Sta Z Z.heap "java/util/ArrayList" "DEFAULTCAPACITY_EMPTY_ELEMENTDATA" "[Ljava/lang/Object;" (.ref w_DE)) (V_DE : Arv Z Z.heap w_DE k_DE (.object "java/lang/Object") (0 : Int32) [] .null) :
    MetFree l (⟨"com/example/quillgraph/quillgraph/sparql/RegexProgram$Builder", "isJump", "(Lcom/example/quillgraph/quillgraph/sparql/RegexProgram$Op;)Z"⟩ : MethodName) (head1 (Jvm.Cond.code (⟨"com/example/quillgraph/quillgraph/sparql/RegexProgram$Builder", "isJump", "(Lcom/example/quillgraph/quillgraph/sparql/RegexProgram$Op;)Z"⟩ : MethodName) prog_117_method_11_code 1 (some .boolean) :: ws) ({ frames := 0, cells := 0, slots := 0, locals := 0 } : Room)) (fun ar U => ar = #[(.ref o)] ∧ Z.Warmed39 U.vm ∧ U.heap = h0) (fun _ _ _ _ _ => True) (fun _ U oc U' => ∃ v L, oc = .returned v ∧ own_isj_Q Z w_CHARACTER w_SPLIT w_JUMP w_TEXT_START w_LINE_START w_TEXT_END w_LINE_END w_SAVE w_BACK_REFERENCE w_MARK w_PROGRESS w_MATCH w_NOTHING w_DE k_DE o h0 n0 v U'.heap L ∧ FrameEnd U oc U' L ({ frames := 0, cells := 0, slots := 0, locals := 0 } : Room).cells ({ frames := 0, cells := 0, slots := 0, locals := 0 } : Room).slots) := by
  refine MetFree.of_bodySF (plainFor_of_name own_pn4) hisR ?_
  intro p e s m args below meth c s₁ Bd hml0 hP hK
  obtain ⟨rfl, hZ, hh⟩ := hP
  have hx := Bd.exec
  have hby := Bd.bytes
  have hml : c.maxLocals = 1 := hml0
  have hown : s.vm.findClass "com/example/quillgraph/quillgraph/sparql/RegexProgram$Builder" = some m.cls := findClass_of_methodNamed Bd.named
  have hnm := (name_of_methodNamed Bd.named Bd.method).1
  have X0 : Stand p l e ({ frames := 0, cells := 0, slots := 0, locals := 0 } : Room) s m #[(.ref o)] below meth c s₁ [] 0 0 := Stand.of_body Bd
  have e0 : s₁.heap = h0 := by rw [← hh, Bd.state]; rfl
  have N0 := Fr.nil n0
  have pre0 : ∀ t, Steps p.tables e below (s₁.setTop (mkF m 0 #[rv o] [])) t → Steps p.tables e below (s₁.setTop (entryFrame m #[(.ref o)] 1)) t := fun t k => castTop (own_isj_ef m o) k
  obtain ⟨T1, X1, e1, st1⟩ := getS2 X0 hx hZ hown (host := "") (Or.inl (hw _ (own_m 101 rfl))) Via.refl e0 (U_SPLIT.1.ext O0.2) (g := (mkF m 1 #[rv o] [(.ref o)])) rfl (hb hby own_d12_1)
  by_cases ha2 : o = w_SPLIT
  · obtain ⟨fs, hr, hrun, hended, hW, hsame⟩ := X1.leave (v := some (.int 1)) (fun h => by rw [Bd.returns] at h; cases h)
    refine ⟨_, _, pre0 _ ?_, hrun, hended, _, _, rfl, ?_, ⟨_, rfl⟩, hW, hsame.mono (by decide) (by decide)⟩
    · show Steps p.tables e below (s₁.setTop (mkF m 0 #[rv o] [])) _
      refine XS.aloadN X0.here hx rfl (hb hby own_d12_0) rfl rfl ?_
      show Steps p.tables e below (s₁.setTop (mkF m 1 #[rv o] [(.ref o)])) _
      refine st1 _ ?_
      show Steps p.tables e below (T1.setTop (mkF m 4 #[rv o] [(.ref w_SPLIT), (.ref o)])) _
      refine Jvm.RoadKit.acmp (g := (mkF m 4 #[rv o] [(.ref w_SPLIT), (.ref o)])) X1 hx rfl rfl rfl (pc0 := 4) (pc' := 14) (same := true) rfl (hb hby own_d12_4) rfl (decide_eq_true (congrArg Value.ref ha2)) (by decide) (by decide) ?_
      show Steps p.tables e below (T1.setTop (mkF m 14 #[rv o] [])) _
      refine XS.iconst X1.here hx rfl (hb hby own_d12_14) ?_
      show Steps p.tables e below (T1.setTop (mkF m 15 #[rv o] [(.int 1)])) _
      refine XS.goto X1.here hx rfl (pc0 := 15) (pc' := 19) rfl (hb hby own_d12_15) (by decide) (by decide) ?_
      show Steps p.tables e below (T1.setTop (mkF m 19 #[rv o] [(.int 1)])) _
      exact retN X1 hx (t := .boolean) Bd.returns (by simp) (hb hby own_d12_19) hr
    · show own_isj_Q Z w_CHARACTER w_SPLIT w_JUMP w_TEXT_START w_LINE_START w_TEXT_END w_LINE_END w_SAVE w_BACK_REFERENCE w_MARK w_PROGRESS w_MATCH w_NOTHING w_DE k_DE o h0 n0 _ T1.heap _
      rw [e1]
      exact ⟨_, rfl, Or.inl ⟨rfl, Or.inl ha2⟩, N0, rfl⟩
  · obtain ⟨T3, X3, e3, st3⟩ := getS2 X1 hx hZ hown (host := "") (Or.inl (hw _ (own_m 102 rfl))) Via.refl e1 (U_JUMP.1.ext O0.2) (g := (mkF m 8 #[rv o] [(.ref o)])) rfl (hb hby own_d12_8)
    have pre5 : ∀ t, Steps p.tables e below (T1.setTop (mkF m 8 #[rv o] [(.ref o)])) t → Steps p.tables e below (s₁.setTop (entryFrame m #[(.ref o)] 1)) t := fun t kt => by
      refine pre0 _ ?_
      show Steps p.tables e below (s₁.setTop (mkF m 0 #[rv o] [])) _
      refine XS.aloadN X0.here hx rfl (hb hby own_d12_0) rfl rfl ?_
      show Steps p.tables e below (s₁.setTop (mkF m 1 #[rv o] [(.ref o)])) _
      refine st1 _ ?_
      show Steps p.tables e below (T1.setTop (mkF m 4 #[rv o] [(.ref w_SPLIT), (.ref o)])) _
      refine Jvm.RoadKit.acmp (g := (mkF m 4 #[rv o] [(.ref w_SPLIT), (.ref o)])) X1 hx rfl rfl rfl (pc0 := 4) (pc' := 7) (same := false) rfl (hb hby own_d12_4) rfl (decide_eq_false fun q => ha2 (Value.ref.inj q)) (by decide) (by decide) ?_
      show Steps p.tables e below (T1.setTop (mkF m 7 #[rv o] [])) _
      refine XS.aloadN X1.here hx rfl (hb hby own_d12_7) rfl rfl ?_
      show Steps p.tables e below (T1.setTop (mkF m 8 #[rv o] [(.ref o)])) _
      exact kt
    by_cases ha4 : o = w_JUMP
    · obtain ⟨fs, hr, hrun, hended, hW, hsame⟩ := X3.leave (v := some (.int 1)) (fun h => by rw [Bd.returns] at h; cases h)
      refine ⟨_, _, pre5 _ ?_, hrun, hended, _, _, rfl, ?_, ⟨_, rfl⟩, hW, hsame.mono (by decide) (by decide)⟩
      · show Steps p.tables e below (T1.setTop (mkF m 8 #[rv o] [(.ref o)])) _
        refine st3 _ ?_
        show Steps p.tables e below (T3.setTop (mkF m 11 #[rv o] [(.ref w_JUMP), (.ref o)])) _
        refine Jvm.RoadKit.acmp (g := (mkF m 11 #[rv o] [(.ref w_JUMP), (.ref o)])) X3 hx rfl rfl rfl (pc0 := 11) (pc' := 14) (same := true) rfl (hb hby own_d12_11) rfl (decide_eq_true (congrArg Value.ref ha4)) (by decide) (by decide) ?_
        show Steps p.tables e below (T3.setTop (mkF m 14 #[rv o] [])) _
        refine XS.iconst X3.here hx rfl (hb hby own_d12_14) ?_
        show Steps p.tables e below (T3.setTop (mkF m 15 #[rv o] [(.int 1)])) _
        refine XS.goto X3.here hx rfl (pc0 := 15) (pc' := 19) rfl (hb hby own_d12_15) (by decide) (by decide) ?_
        show Steps p.tables e below (T3.setTop (mkF m 19 #[rv o] [(.int 1)])) _
        exact retN X3 hx (t := .boolean) Bd.returns (by simp) (hb hby own_d12_19) hr
      · show own_isj_Q Z w_CHARACTER w_SPLIT w_JUMP w_TEXT_START w_LINE_START w_TEXT_END w_LINE_END w_SAVE w_BACK_REFERENCE w_MARK w_PROGRESS w_MATCH w_NOTHING w_DE k_DE o h0 n0 _ T3.heap _
        rw [e3]
        exact ⟨_, rfl, Or.inl ⟨rfl, Or.inr ha4⟩, N0, rfl⟩
    · obtain ⟨fs, hr, hrun, hended, hW, hsame⟩ := X3.leave (v := some (.int 0)) (fun h => by rw [Bd.returns] at h; cases h)
      refine ⟨_, _, pre5 _ ?_, hrun, hended, _, _, rfl, ?_, ⟨_, rfl⟩, hW, hsame.mono (by decide) (by decide)⟩
      · show Steps p.tables e below (T1.setTop (mkF m 8 #[rv o] [(.ref o)])) _
        refine st3 _ ?_
        show Steps p.tables e below (T3.setTop (mkF m 11 #[rv o] [(.ref w_JUMP), (.ref o)])) _
        refine Jvm.RoadKit.acmp (g := (mkF m 11 #[rv o] [(.ref w_JUMP), (.ref o)])) X3 hx rfl rfl rfl (pc0 := 11) (pc' := 18) (same := false) rfl (hb hby own_d12_11) rfl (decide_eq_false fun q => ha4 (Value.ref.inj q)) (by decide) (by decide) ?_
        show Steps p.tables e below (T3.setTop (mkF m 18 #[rv o] [])) _
        refine XS.iconst X3.here hx rfl (hb hby own_d12_18) ?_
        show Steps p.tables e below (T3.setTop (mkF m 19 #[rv o] [(.int 0)])) _
        exact retN X3 hx (t := .boolean) Bd.returns (by simp) (hb hby own_d12_19) hr
      · show own_isj_Q Z w_CHARACTER w_SPLIT w_JUMP w_TEXT_START w_LINE_START w_TEXT_END w_LINE_END w_SAVE w_BACK_REFERENCE w_MARK w_PROGRESS w_MATCH w_NOTHING w_DE k_DE o h0 n0 _ T3.heap _
        rw [e3]
        exact ⟨_, rfl, Or.inr ⟨rfl, fun q => q.elim ha2 ha4⟩, N0, rfl⟩
theorem own_toa_ef (m : MethodId) (a : Addr) (b : Addr) : entryFrame m #[(.ref a), (.ref b)] 2 = mkF m 0 #[rv a, rv b] [] := by first | (simp [entryFrame, mkF, argsToLocals, Value.category]; done) | rfl
def own_toa_Q (Z : State) (w_CHARACTER : Addr) (w_SPLIT : Addr) (w_JUMP : Addr) (w_TEXT_START : Addr) (w_LINE_START : Addr) (w_TEXT_END : Addr) (w_LINE_END : Addr) (w_SAVE : Addr) (w_BACK_REFERENCE : Addr) (w_MARK : Addr) (w_PROGRESS : Addr) (w_MATCH : Addr) (w_NOTHING : Addr) (w_DE : Addr) (k_DE : ClassId) (a : Addr) (b : Addr) (kb : ClassId) (h0 : Heap) (n0 : Nat) (v : Option Value) (h : Heap) (L : List Loc) : Prop := v = some (.ref b) ∧ Fr n0 L ∧ Keep h0 h [b]
set_option maxRecDepth 65536 in
set_option maxHeartbeats 40000000 in
theorem own_toa (l : Launch) (Z : State) (a0 : Array Value) (hw : ∀ d ∈ tables_1, d.before a0 Z = true) (ws : List Jvm.Cond) (w_CHARACTER : Addr) (w_SPLIT : Addr) (w_JUMP : Addr) (w_TEXT_START : Addr) (w_LINE_START : Addr) (w_TEXT_END : Addr) (w_LINE_END : Addr) (w_SAVE : Addr) (w_BACK_REFERENCE : Addr) (w_MARK : Addr) (w_PROGRESS : Addr) (w_MATCH : Addr) (w_NOTHING : Addr) (w_DE : Addr) (k_DE : ClassId) (a : Addr) (b : Addr) (kb : ClassId) (h0 : Heap) (n0 : Nat) (O0 : Old Z n0 h0) (U_CHARACTER : own_En Z Z.heap "com/example/quillgraph/quillgraph/sparql/RegexProgram$Op" "CHARACTER" "Lcom/example/quillgraph/quillgraph/sparql/RegexProgram$Op;" w_CHARACTER (0 : Int32)) (U_SPLIT : own_En Z Z.heap "com/example/quillgraph/quillgraph/sparql/RegexProgram$Op" "SPLIT" "Lcom/example/quillgraph/quillgraph/sparql/RegexProgram$Op;" w_SPLIT (1 : Int32)) (U_JUMP : own_En Z Z.heap "com/example/quillgraph/quillgraph/sparql/RegexProgram$Op" "JUMP" "Lcom/example/quillgraph/quillgraph/sparql/RegexProgram$Op;" w_JUMP (2 : Int32)) (U_TEXT_START : own_En Z Z.heap "com/example/quillgraph/quillgraph/sparql/RegexProgram$Op" "TEXT_START" "Lcom/example/quillgraph/quillgraph/sparql/RegexProgram$Op;" w_TEXT_START (3 : Int32)) (U_LINE_START : own_En Z Z.heap "com/example/quillgraph/quillgraph/sparql/RegexProgram$Op" "LINE_START" "Lcom/example/quillgraph/quillgraph/sparql/RegexProgram$Op;" w_LINE_START (4 : Int32)) (U_TEXT_END : own_En Z Z.heap "com/example/quillgraph/quillgraph/sparql/RegexProgram$Op" "TEXT_END" "Lcom/example/quillgraph/quillgraph/sparql/RegexProgram$Op;" w_TEXT_END (5 : Int32)) (U_LINE_END : own_En Z Z.heap "com/example/quillgraph/quillgraph/sparql/RegexProgram$Op" "LINE_END" "Lcom/example/quillgraph/quillgraph/sparql/RegexProgram$Op;" w_LINE_END (6 : Int32)) (U_SAVE : own_En Z Z.heap "com/example/quillgraph/quillgraph/sparql/RegexProgram$Op" "SAVE" "Lcom/example/quillgraph/quillgraph/sparql/RegexProgram$Op;" w_SAVE (7 : Int32)) (U_BACK_REFERENCE : own_En Z Z.heap "com/example/quillgraph/quillgraph/sparql/RegexProgram$Op" "BACK_REFERENCE" "Lcom/example/quillgraph/quillgraph/sparql/RegexProgram$Op;" w_BACK_REFERENCE (8 : Int32)) (U_MARK : own_En Z Z.heap "com/example/quillgraph/quillgraph/sparql/RegexProgram$Op" "MARK" "Lcom/example/quillgraph/quillgraph/sparql/RegexProgram$Op;" w_MARK (9 : Int32)) (U_PROGRESS : own_En Z Z.heap "com/example/quillgraph/quillgraph/sparql/RegexProgram$Op" "PROGRESS" "Lcom/example/quillgraph/quillgraph/sparql/RegexProgram$Op;" w_PROGRESS (10 : Int32)) (U_MATCH : own_En Z Z.heap "com/example/quillgraph/quillgraph/sparql/RegexProgram$Op" "MATCH" "Lcom/example/quillgraph/quillgraph/sparql/RegexProgram$Op;" w_MATCH (11 : Int32)) (U_NOTHING : own_En Z Z.heap "com/example/quillgraph/quillgraph/sparql/RegexProgram$Op" "NOTHING" "Lcom/example/quillgraph/quillgraph/sparql/RegexProgram$Op;" w_NOTHING (12 : Int32)) (S_DE : Sta Z Z.heap "java/util/ArrayList" "DEFAULTCAPACITY_EMPTY_ELEMENTDATA" "[Ljava/lang/Object;" (.ref w_DE)) (V_DE : Arv Z Z.heap w_DE k_DE (.object "java/lang/Object") (0 : Int32) [] .null) (g_a : n0 ≤ a) (E_a : Exa Z h0 a "java/util/ArrayList") (F_elementData : Fld Z h0 a "java/util/ArrayList" "elementData" "[Ljava/lang/Object;" (.ref w_DE)) (F_size : Fld Z h0 a "java/util/ArrayList" "size" "I" (.int 0)) (F_modCount : Fld Z h0 a "java/util/AbstractList" "modCount" "I" (.int 0)) (g_b : n0 ≤ b) (nba : b ≠ a) (V_b : Arv Z h0 b kb (.object "com/example/quillgraph/quillgraph/sparql/CodePointSet") (0 : Int32) [] .null) :
    MetFree l (⟨"java/util/ArrayList", "toArray", "([Ljava/lang/Object;)[Ljava/lang/Object;"⟩ : MethodName) (head1 (Jvm.Cond.code (⟨"java/util/ArrayList", "toArray", "([Ljava/lang/Object;)[Ljava/lang/Object;"⟩ : MethodName) jdk_38_method_17_code 2 (some (.array (.object "java/lang/Object"))) :: ws) ({ frames := 1, cells := 0, slots := 0, locals := 24 } : Room)) (fun ar U => ar = #[(.ref a), (.ref b)] ∧ Z.Warmed39 U.vm ∧ U.heap = h0) (fun _ _ _ _ _ => True) (fun _ U oc U' => ∃ v L, oc = .returned v ∧ own_toa_Q Z w_CHARACTER w_SPLIT w_JUMP w_TEXT_START w_LINE_START w_TEXT_END w_LINE_END w_SAVE w_BACK_REFERENCE w_MARK w_PROGRESS w_MATCH w_NOTHING w_DE k_DE a b kb h0 n0 v U'.heap L ∧ FrameEnd U oc U' L ({ frames := 1, cells := 0, slots := 0, locals := 24 } : Room).cells ({ frames := 1, cells := 0, slots := 0, locals := 24 } : Room).slots) := by
  refine MetFree.of_bodySF (plainFor_of_name own_pn3) hisR ?_
  intro p e s m args below meth c s₁ Bd hml0 hP hK
  obtain ⟨rfl, hZ, hh⟩ := hP
  have hx := Bd.exec
  have hby := Bd.bytes
  have hml : c.maxLocals = 2 := hml0
  have hown : s.vm.findClass "java/util/ArrayList" = some m.cls := findClass_of_methodNamed Bd.named
  have hnm := (name_of_methodNamed Bd.named Bd.method).1
  have X0 : Stand p l e ({ frames := 1, cells := 0, slots := 0, locals := 24 } : Room) s m #[(.ref a), (.ref b)] below meth c s₁ [] 0 0 := Stand.of_body Bd
  have e0 : s₁.heap = h0 := by rw [← hh, Bd.state]; rfl
  have N0 := Fr.nil n0
  have pre0 : ∀ t, Steps p.tables e below (s₁.setTop (mkF m 0 #[rv a, rv b] [])) t → Steps p.tables e below (s₁.setTop (entryFrame m #[(.ref a), (.ref b)] 2)) t := fun t k => castTop (own_toa_ef m a b) k
  have kp0 := Keep.refl h0 ([b] : List Addr)
  obtain ⟨c1, c1A, c1q, c1S, c1N, c1H, c1G⟩ := id V_b
  obtain ⟨T2, X2, e2, st2⟩ := getF X0 hx hZ hown (host := "") (Or.inl (hw _ (own_m 117 rfl))) Via.refl e0 F_size (g := (mkF m 3 #[rv a, rv b] [(.ref a), (.int 0)])) rfl rfl (hb hby own_d13_3)
  obtain ⟨T3, X3, e3, st3⟩ := getF X2 hx hZ hown (host := "") (Or.inl (hw _ (own_m 51 rfl))) Via.refl e2 F_elementData (g := (mkF m 26 #[rv a, rv b] [(.ref a)])) rfl rfl (hb hby own_d13_26)
  obtain ⟨T4, X4, e4, st4⟩ := getF X3 hx hZ hown (host := "") (Or.inl (hw _ (own_m 117 rfl))) Via.refl e3 F_size (g := (mkF m 33 #[rv a, rv b] [(.ref a), (.int 0), (.ref b), (.int 0), (.ref w_DE)])) rfl rfl (hb hby own_d13_33)
  obtain ⟨T5, h5, L5, X5, e5, N5, K5, V5, st5⟩ := cpA X4 hx hZ hown (hw _ (own_m 119 rfl)) (hw _ (own_m 122 rfl)) (hw _ (own_m 120 rfl)) (hw _ (own_m 121 rfl)) e4 (V_DE.ext O0.2) V_b (us := []) (Or.inr ⟨rfl, rfl, trivial⟩) (by decide) (by decide) (by decide) (by decide) (by decide) rfl (by decide) N0 g_b (g := (mkF m 36 #[rv a, rv b] [(.int 0), (.int 0), (.ref b), (.int 0), (.ref w_DE)])) rfl (by rw [hml]; rfl) rfl (hb hby own_d13_36) (by decide) (W := 0) (by show 2 * 0 + _ ≤ _; exact Nat.le_of_eq rfl) (by decide)
  have O6 := O0.keep K5 (allS g_b all0)
  have kp7 := kp0.trans K5 ((allS (P := fun x => x ∈ ([b] : List Addr) ∨ h0.size ≤ x) (Or.inl (own_m 0 rfl)) all0))
  have Va5 : Arv Z h5 b kb (.object "com/example/quillgraph/quillgraph/sparql/CodePointSet") (0 : Int32) [] .null := V5
  obtain ⟨c8, c8A, c8q, c8S, c8N, c8H, c8G⟩ := id Va5
  have f9 := (F_size.keep K5 (ninS (Ne.symm nba) nin0))
  obtain ⟨T10, X10, e10, st10⟩ := getF X5 hx hZ hown (host := "") (Or.inl (hw _ (own_m 117 rfl))) Via.refl e5 f9 (g := (mkF m 42 #[rv a, rv b] [(.ref a), (.int 0)])) rfl rfl (hb hby own_d13_42)
  obtain ⟨fs, hr, hrun, hended, hW, hsame⟩ := X10.leave (v := some (.ref b)) (fun h => by rw [Bd.returns] at h; cases h)
  refine ⟨_, _, pre0 _ ?_, hrun, hended, _, _, rfl, ?_, ⟨_, rfl⟩, hW, hsame.mono (by decide) (by decide)⟩
  · show Steps p.tables e below (s₁.setTop (mkF m 0 #[rv a, rv b] [])) _
    refine XS.aloadN X0.here hx rfl (hb hby own_d13_0) rfl rfl ?_
    show Steps p.tables e below (s₁.setTop (mkF m 1 #[rv a, rv b] [(.ref b)])) _
    refine X0.arraylength hx (by rw [e0]; exact c1A.1) (State.isArrayOf_alike hZ.alike c1A.2.1) (g := (mkF m 1 #[rv a, rv b] [(.ref b)])) rfl rfl (hb hby own_d13_1) _ ?_
    rw [len_of c1S c1N]
    show Steps p.tables e below (s₁.setTop (mkF m 2 #[rv a, rv b] [(.int 0)])) _
    refine XS.aloadN X0.here hx rfl (hb hby own_d13_2) rfl rfl ?_
    show Steps p.tables e below (s₁.setTop (mkF m 3 #[rv a, rv b] [(.ref a), (.int 0)])) _
    refine st2 _ ?_
    show Steps p.tables e below (T2.setTop (mkF m 6 #[rv a, rv b] [(.int 0), (.int 0)])) _
    refine XS.icmpYes X2.here hx rfl (pc0 := 6) (pc' := 25) rfl (hb hby own_d13_6) rfl (flt (by decide)).2.1 (by decide) (by decide) ?_
    show Steps p.tables e below (T2.setTop (mkF m 25 #[rv a, rv b] [])) _
    refine XS.aloadN X2.here hx rfl (hb hby own_d13_25) rfl rfl ?_
    show Steps p.tables e below (T2.setTop (mkF m 26 #[rv a, rv b] [(.ref a)])) _
    refine st3 _ ?_
    show Steps p.tables e below (T3.setTop (mkF m 29 #[rv a, rv b] [(.ref w_DE)])) _
    refine XS.iconst X3.here hx rfl (hb hby own_d13_29) ?_
    show Steps p.tables e below (T3.setTop (mkF m 30 #[rv a, rv b] [(.int 0), (.ref w_DE)])) _
    refine XS.aloadN X3.here hx rfl (hb hby own_d13_30) rfl rfl ?_
    show Steps p.tables e below (T3.setTop (mkF m 31 #[rv a, rv b] [(.ref b), (.int 0), (.ref w_DE)])) _
    refine XS.iconst X3.here hx rfl (hb hby own_d13_31) ?_
    show Steps p.tables e below (T3.setTop (mkF m 32 #[rv a, rv b] [(.int 0), (.ref b), (.int 0), (.ref w_DE)])) _
    refine XS.aloadN X3.here hx rfl (hb hby own_d13_32) rfl rfl ?_
    show Steps p.tables e below (T3.setTop (mkF m 33 #[rv a, rv b] [(.ref a), (.int 0), (.ref b), (.int 0), (.ref w_DE)])) _
    refine st4 _ ?_
    show Steps p.tables e below (T4.setTop (mkF m 36 #[rv a, rv b] [(.int 0), (.int 0), (.ref b), (.int 0), (.ref w_DE)])) _
    refine st5 _ ?_
    show Steps p.tables e below (T5.setTop (mkF m 39 #[rv a, rv b] [])) _
    refine XS.aloadN X5.here hx rfl (hb hby own_d13_39) rfl rfl ?_
    show Steps p.tables e below (T5.setTop (mkF m 40 #[rv a, rv b] [(.ref b)])) _
    refine X5.arraylength hx (by rw [e5]; exact c8A.1) (State.isArrayOf_alike hZ.alike c8A.2.1) (g := (mkF m 40 #[rv a, rv b] [(.ref b)])) rfl rfl (hb hby own_d13_40) _ ?_
    rw [len_of c8S c8N]
    show Steps p.tables e below (T5.setTop (mkF m 41 #[rv a, rv b] [(.int 0)])) _
    refine XS.aloadN X5.here hx rfl (hb hby own_d13_41) rfl rfl ?_
    show Steps p.tables e below (T5.setTop (mkF m 42 #[rv a, rv b] [(.ref a), (.int 0)])) _
    refine st10 _ ?_
    show Steps p.tables e below (T10.setTop (mkF m 45 #[rv a, rv b] [(.int 0), (.int 0)])) _
    refine XS.icmpYes X10.here hx rfl (pc0 := 45) (pc' := 55) rfl (hb hby own_d13_45) rfl (flt (by decide)).2.2.2 (by decide) (by decide) ?_
    show Steps p.tables e below (T10.setTop (mkF m 55 #[rv a, rv b] [])) _
    refine XS.aloadN X10.here hx rfl (hb hby own_d13_55) rfl rfl ?_
    show Steps p.tables e below (T10.setTop (mkF m 56 #[rv a, rv b] [(.ref b)])) _
    jvm_step X10.here [X10.here.top, hx, (hb hby own_d13_56), X10.method', Bd.returns, Value.isRef, FieldType.isReference]
    first | (intro acts; rw [hr _ acts rfl rfl rfl]) | rw [hr _ _ rfl rfl rfl]
    exact Steps.refl _
  · show own_toa_Q Z w_CHARACTER w_SPLIT w_JUMP w_TEXT_START w_LINE_START w_TEXT_END w_LINE_END w_SAVE w_BACK_REFERENCE w_MARK w_PROGRESS w_MATCH w_NOTHING w_DE k_DE a b kb h0 n0 _ T10.heap _
    rw [e10]
    exact ⟨rfl, N5, kp7⟩
theorem own_prg_ef (m : MethodId) (a : Addr) (xo : Addr) (xf : Addr) (xs : Addr) (xc : Addr) (rg : Int32) (fl : Int32) : entryFrame m #[(.ref a), (.ref xo), (.ref xf), (.ref xs), (.ref xc), (.int rg), (.int fl)] 7 = mkF m 0 #[rv a, rv xo, rv xf, rv xs, rv xc, iv rg, iv fl] [] := by first | (simp [entryFrame, mkF, argsToLocals, Value.category]; done) | rfl
def own_prg_Q (Z : State) (w_CHARACTER : Addr) (w_SPLIT : Addr) (w_JUMP : Addr) (w_TEXT_START : Addr) (w_LINE_START : Addr) (w_TEXT_END : Addr) (w_LINE_END : Addr) (w_SAVE : Addr) (w_BACK_REFERENCE : Addr) (w_MARK : Addr) (w_PROGRESS : Addr) (w_MATCH : Addr) (w_NOTHING : Addr) (w_DE : Addr) (k_DE : ClassId) (a : Addr) (xo : Addr) (xf : Addr) (xs : Addr) (xc : Addr) (rg : Int32) (fl : Int32) (h0 : Heap) (n0 : Nat) (v : Option Value) (h : Heap) (L : List Loc) : Prop := v = none ∧ Fr n0 L ∧ Keep h0 h [a] ∧ Exa Z h a "com/example/quillgraph/quillgraph/sparql/RegexProgram" ∧ Fld Z h a "com/example/quillgraph/quillgraph/sparql/RegexProgram" "ops" "[Lcom/example/quillgraph/quillgraph/sparql/RegexProgram$Op;" (.ref xo) ∧ Fld Z h a "com/example/quillgraph/quillgraph/sparql/RegexProgram" "first" "[I" (.ref xf) ∧ Fld Z h a "com/example/quillgraph/quillgraph/sparql/RegexProgram" "second" "[I" (.ref xs)
set_option maxRecDepth 65536 in
set_option maxHeartbeats 40000000 in
theorem own_prg (l : Launch) (Z : State) (a0 : Array Value) (hw : ∀ d ∈ tables_1, d.before a0 Z = true) (ws : List Jvm.Cond) (w_CHARACTER : Addr) (w_SPLIT : Addr) (w_JUMP : Addr) (w_TEXT_START : Addr) (w_LINE_START : Addr) (w_TEXT_END : Addr) (w_LINE_END : Addr) (w_SAVE : Addr) (w_BACK_REFERENCE : Addr) (w_MARK : Addr) (w_PROGRESS : Addr) (w_MATCH : Addr) (w_NOTHING : Addr) (w_DE : Addr) (k_DE : ClassId) (a : Addr) (xo : Addr) (xf : Addr) (xs : Addr) (xc : Addr) (rg : Int32) (fl : Int32) (h0 : Heap) (n0 : Nat) (O0 : Old Z n0 h0) (U_CHARACTER : own_En Z Z.heap "com/example/quillgraph/quillgraph/sparql/RegexProgram$Op" "CHARACTER" "Lcom/example/quillgraph/quillgraph/sparql/RegexProgram$Op;" w_CHARACTER (0 : Int32)) (U_SPLIT : own_En Z Z.heap "com/example/quillgraph/quillgraph/sparql/RegexProgram$Op" "SPLIT" "Lcom/example/quillgraph/quillgraph/sparql/RegexProgram$Op;" w_SPLIT (1 : Int32)) (U_JUMP : own_En Z Z.heap "com/example/quillgraph/quillgraph/sparql/RegexProgram$Op" "JUMP" "Lcom/example/quillgraph/quillgraph/sparql/RegexProgram$Op;" w_JUMP (2 : Int32)) (U_TEXT_START : own_En Z Z.heap "com/example/quillgraph/quillgraph/sparql/RegexProgram$Op" "TEXT_START" "Lcom/example/quillgraph/quillgraph/sparql/RegexProgram$Op;" w_TEXT_START (3 : Int32)) (U_LINE_START : own_En Z Z.heap "com/example/quillgraph/quillgraph/sparql/RegexProgram$Op" "LINE_START" "Lcom/example/quillgraph/quillgraph/sparql/RegexProgram$Op;" w_LINE_START (4 : Int32)) (U_TEXT_END : own_En Z Z.heap "com/example/quillgraph/quillgraph/sparql/RegexProgram$Op" "TEXT_END" "Lcom/example/quillgraph/quillgraph/sparql/RegexProgram$Op;" w_TEXT_END (5 : Int32)) (U_LINE_END : own_En Z Z.heap "com/example/quillgraph/quillgraph/sparql/RegexProgram$Op" "LINE_END" "Lcom/example/quillgraph/quillgraph/sparql/RegexProgram$Op;" w_LINE_END (6 : Int32)) (U_SAVE : own_En Z Z.heap "com/example/quillgraph/quillgraph/sparql/RegexProgram$Op" "SAVE" "Lcom/example/quillgraph/quillgraph/sparql/RegexProgram$Op;" w_SAVE (7 : Int32)) (U_BACK_REFERENCE : own_En Z Z.heap "com/example/quillgraph/quillgraph/sparql/RegexProgram$Op" "BACK_REFERENCE" "Lcom/example/quillgraph/quillgraph/sparql/RegexProgram$Op;" w_BACK_REFERENCE (8 : Int32)) (U_MARK : own_En Z Z.heap "com/example/quillgraph/quillgraph/sparql/RegexProgram$Op" "MARK" "Lcom/example/quillgraph/quillgraph/sparql/RegexProgram$Op;" w_MARK (9 : Int32)) (U_PROGRESS : own_En Z Z.heap "com/example/quillgraph/quillgraph/sparql/RegexProgram$Op" "PROGRESS" "Lcom/example/quillgraph/quillgraph/sparql/RegexProgram$Op;" w_PROGRESS (10 : Int32)) (U_MATCH : own_En Z Z.heap "com/example/quillgraph/quillgraph/sparql/RegexProgram$Op" "MATCH" "Lcom/example/quillgraph/quillgraph/sparql/RegexProgram$Op;" w_MATCH (11 : Int32)) (U_NOTHING : own_En Z Z.heap "com/example/quillgraph/quillgraph/sparql/RegexProgram$Op" "NOTHING" "Lcom/example/quillgraph/quillgraph/sparql/RegexProgram$Op;" w_NOTHING (12 : Int32)) (S_DE : Sta Z Z.heap "java/util/ArrayList" "DEFAULTCAPACITY_EMPTY_ELEMENTDATA" "[Ljava/lang/Object;" (.ref w_DE)) (V_DE : Arv Z Z.heap w_DE k_DE (.object "java/lang/Object") (0 : Int32) [] .null) (g_a : n0 ≤ a) (E_a : Exa Z h0 a "com/example/quillgraph/quillgraph/sparql/RegexProgram") (F_ops : Fld Z h0 a "com/example/quillgraph/quillgraph/sparql/RegexProgram" "ops" "[Lcom/example/quillgraph/quillgraph/sparql/RegexProgram$Op;" .null) (F_first : Fld Z h0 a "com/example/quillgraph/quillgraph/sparql/RegexProgram" "first" "[I" .null) (F_second : Fld Z h0 a "com/example/quillgraph/quillgraph/sparql/RegexProgram" "second" "[I" .null) (F_classes : Fld Z h0 a "com/example/quillgraph/quillgraph/sparql/RegexProgram" "classes" "[Lcom/example/quillgraph/quillgraph/sparql/CodePointSet;" .null) (F_registers : Fld Z h0 a "com/example/quillgraph/quillgraph/sparql/RegexProgram" "registers" "I" (.int 0)) (F_backReferences : Fld Z h0 a "com/example/quillgraph/quillgraph/sparql/RegexProgram" "backReferences" "Z" (.int 0)) (hfb : fl = (0 : Int32) ∨ fl = (1 : Int32)) :
    MetFree l (⟨"com/example/quillgraph/quillgraph/sparql/RegexProgram", "<init>", "([Lcom/example/quillgraph/quillgraph/sparql/RegexProgram$Op;[I[I[Lcom/example/quillgraph/quillgraph/sparql/CodePointSet;IZ)V"⟩ : MethodName) (head1 (Jvm.Cond.code (⟨"com/example/quillgraph/quillgraph/sparql/RegexProgram", "<init>", "([Lcom/example/quillgraph/quillgraph/sparql/RegexProgram$Op;[I[I[Lcom/example/quillgraph/quillgraph/sparql/CodePointSet;IZ)V"⟩ : MethodName) prog_116_method_1_code 7 none :: ws) ({ frames := 1, cells := 0, slots := 0, locals := 12 } : Room)) (fun ar U => ar = #[(.ref a), (.ref xo), (.ref xf), (.ref xs), (.ref xc), (.int rg), (.int fl)] ∧ Z.Warmed39 U.vm ∧ U.heap = h0) (fun _ _ _ _ _ => True) (fun _ U oc U' => ∃ v L, oc = .returned v ∧ own_prg_Q Z w_CHARACTER w_SPLIT w_JUMP w_TEXT_START w_LINE_START w_TEXT_END w_LINE_END w_SAVE w_BACK_REFERENCE w_MARK w_PROGRESS w_MATCH w_NOTHING w_DE k_DE a xo xf xs xc rg fl h0 n0 v U'.heap L ∧ FrameEnd U oc U' L ({ frames := 1, cells := 0, slots := 0, locals := 12 } : Room).cells ({ frames := 1, cells := 0, slots := 0, locals := 12 } : Room).slots) := by
  refine MetFree.of_bodySF (plainFor_of_name own_pn5) hisR ?_
  intro p e s m args below meth c s₁ Bd hml0 hP hK
  obtain ⟨rfl, hZ, hh⟩ := hP
  have hx := Bd.exec
  have hby := Bd.bytes
  have hml : c.maxLocals = 7 := hml0
  have hown : s.vm.findClass "com/example/quillgraph/quillgraph/sparql/RegexProgram" = some m.cls := findClass_of_methodNamed Bd.named
  have hnm := (name_of_methodNamed Bd.named Bd.method).1
  have X0 : Stand p l e ({ frames := 1, cells := 0, slots := 0, locals := 12 } : Room) s m #[(.ref a), (.ref xo), (.ref xf), (.ref xs), (.ref xc), (.int rg), (.int fl)] below meth c s₁ [] 0 0 := Stand.of_body Bd
  have e0 : s₁.heap = h0 := by rw [← hh, Bd.state]; rfl
  have N0 := Fr.nil n0
  have pre0 : ∀ t, Steps p.tables e below (s₁.setTop (mkF m 0 #[rv a, rv xo, rv xf, rv xs, rv xc, iv rg, iv fl] [])) t → Steps p.tables e below (s₁.setTop (entryFrame m #[(.ref a), (.ref xo), (.ref xf), (.ref xs), (.ref xc), (.int rg), (.int fl)] 7)) t := fun t k => castTop (own_prg_ef m a xo xf xs xc rg fl) k
  have kp0 := Keep.refl h0 ([a] : List Addr)
  obtain ⟨T1, X1, e1, st1⟩ := initO X0 hx hZ hown (hw _ (own_m 130 rfl)) (hw _ (own_m 18 rfl)) (hw _ (own_m 19 rfl)) e0 (g := (mkF m 1 #[rv a, rv xo, rv xf, rv xs, rv xc, iv rg, iv fl] [(.ref a)])) rfl (by rw [hml]; rfl) rfl (hb hby own_d14_1) (by decide) (W := 0) (by show 2 * 0 + _ ≤ _; exact Nat.le_of_eq rfl) (by decide)
  obtain ⟨T2, h2, X2, e2, W2, st2⟩ := putF X1 hx hZ hown (host := "") (Or.inl (hw _ (own_m 131 rfl))) Via.refl e1 F_ops E_a (Or.inr ⟨(hw _ (own_m 132 rfl)), rfl, hnm⟩) (hw _ (own_m 104 rfl)) (ty := (.array (.object "com/example/quillgraph/quillgraph/sparql/RegexProgram$Op"))) (by decide) rfl rfl (g := (mkF m 6 #[rv a, rv xo, rv xf, rv xs, rv xc, iv rg, iv fl] [(.ref xo), (.ref a)])) rfl rfl (hb hby own_d14_6)
  have Fw2 := F_ops.same W2
  have O3 := O0.wr W2 g_a
  have kp4 := kp0.wr W2 (Or.inl (own_m 0 rfl))
  have N2 := Fr.snoc X2 N0 g_a
  have f5 := (F_first.other W2 (Or.inr (slot_ne (Or.inr (hw _ (own_m 134 rfl))) (Or.inr (hw _ (own_m 132 rfl))) (by decide) (t := (.array .int)) (t' := (.array (.object "com/example/quillgraph/quillgraph/sparql/RegexProgram$Op"))) (by decide) (by decide))))
  have f6 := (E_a.wr W2)
  obtain ⟨T7, h7, X7, e7, W7, st7⟩ := putF X2 hx hZ hown (host := "") (Or.inl (hw _ (own_m 133 rfl))) Via.refl e2 f5 f6 (Or.inr ⟨(hw _ (own_m 134 rfl)), rfl, hnm⟩) (hw _ (own_m 104 rfl)) (ty := (.array .int)) (by decide) rfl rfl (g := (mkF m 11 #[rv a, rv xo, rv xf, rv xs, rv xc, iv rg, iv fl] [(.ref xf), (.ref a)])) rfl rfl (hb hby own_d14_11)
  have Fw7 := f5.same W7
  have O8 := O3.wr W7 g_a
  have kp9 := kp4.wr W7 (Or.inl (own_m 0 rfl))
  have N7 := Fr.snoc X7 N2 g_a
  have f10 := ((F_second.other W2 (Or.inr (slot_ne (Or.inr (hw _ (own_m 136 rfl))) (Or.inr (hw _ (own_m 132 rfl))) (by decide) (t := (.array .int)) (t' := (.array (.object "com/example/quillgraph/quillgraph/sparql/RegexProgram$Op"))) (by decide) (by decide)))).other W7 (Or.inr (slot_ne (Or.inr (hw _ (own_m 136 rfl))) (Or.inr (hw _ (own_m 134 rfl))) (by decide) (t := (.array .int)) (t' := (.array .int)) (by decide) (by decide))))
  have f11 := (f6.wr W7)
  obtain ⟨T12, h12, X12, e12, W12, st12⟩ := putF X7 hx hZ hown (host := "") (Or.inl (hw _ (own_m 135 rfl))) Via.refl e7 f10 f11 (Or.inr ⟨(hw _ (own_m 136 rfl)), rfl, hnm⟩) (hw _ (own_m 104 rfl)) (ty := (.array .int)) (by decide) rfl rfl (g := (mkF m 16 #[rv a, rv xo, rv xf, rv xs, rv xc, iv rg, iv fl] [(.ref xs), (.ref a)])) rfl rfl (hb hby own_d14_16)
  have Fw12 := f10.same W12
  have O13 := O8.wr W12 g_a
  have kp14 := kp9.wr W12 (Or.inl (own_m 0 rfl))
  have N12 := Fr.snoc X12 N7 g_a
  have f15 := (((F_classes.other W2 (Or.inr (slot_ne (Or.inr (hw _ (own_m 138 rfl))) (Or.inr (hw _ (own_m 132 rfl))) (by decide) (t := (.array (.object "com/example/quillgraph/quillgraph/sparql/CodePointSet"))) (t' := (.array (.object "com/example/quillgraph/quillgraph/sparql/RegexProgram$Op"))) (by decide) (by decide)))).other W7 (Or.inr (slot_ne (Or.inr (hw _ (own_m 138 rfl))) (Or.inr (hw _ (own_m 134 rfl))) (by decide) (t := (.array (.object "com/example/quillgraph/quillgraph/sparql/CodePointSet"))) (t' := (.array .int)) (by decide) (by decide)))).other W12 (Or.inr (slot_ne (Or.inr (hw _ (own_m 138 rfl))) (Or.inr (hw _ (own_m 136 rfl))) (by decide) (t := (.array (.object "com/example/quillgraph/quillgraph/sparql/CodePointSet"))) (t' := (.array .int)) (by decide) (by decide))))
  have f16 := (f11.wr W12)
  obtain ⟨T17, h17, X17, e17, W17, st17⟩ := putF X12 hx hZ hown (host := "") (Or.inl (hw _ (own_m 137 rfl))) Via.refl e12 f15 f16 (Or.inr ⟨(hw _ (own_m 138 rfl)), rfl, hnm⟩) (hw _ (own_m 104 rfl)) (ty := (.array (.object "com/example/quillgraph/quillgraph/sparql/CodePointSet"))) (by decide) rfl rfl (g := (mkF m 22 #[rv a, rv xo, rv xf, rv xs, rv xc, iv rg, iv fl] [(.ref xc), (.ref a)])) rfl rfl (hb hby own_d14_22)
  have Fw17 := f15.same W17
  have O18 := O13.wr W17 g_a
  have kp19 := kp14.wr W17 (Or.inl (own_m 0 rfl))
  have N17 := Fr.snoc X17 N12 g_a
  have f20 := ((((F_registers.other W2 (Or.inr (slot_ne (Or.inr (hw _ (own_m 140 rfl))) (Or.inr (hw _ (own_m 132 rfl))) (by decide) (t := .int) (t' := (.array (.object "com/example/quillgraph/quillgraph/sparql/RegexProgram$Op"))) (by decide) (by decide)))).other W7 (Or.inr (slot_ne (Or.inr (hw _ (own_m 140 rfl))) (Or.inr (hw _ (own_m 134 rfl))) (by decide) (t := .int) (t' := (.array .int)) (by decide) (by decide)))).other W12 (Or.inr (slot_ne (Or.inr (hw _ (own_m 140 rfl))) (Or.inr (hw _ (own_m 136 rfl))) (by decide) (t := .int) (t' := (.array .int)) (by decide) (by decide)))).other W17 (Or.inr (slot_ne (Or.inr (hw _ (own_m 140 rfl))) (Or.inr (hw _ (own_m 138 rfl))) (by decide) (t := .int) (t' := (.array (.object "com/example/quillgraph/quillgraph/sparql/CodePointSet"))) (by decide) (by decide))))
  have f21 := (f16.wr W17)
  obtain ⟨T22, h22, X22, e22, W22, st22⟩ := putF X17 hx hZ hown (host := "") (Or.inl (hw _ (own_m 139 rfl))) Via.refl e17 f20 f21 (Or.inr ⟨(hw _ (own_m 140 rfl)), rfl, hnm⟩) (hw _ (own_m 104 rfl)) (ty := .int) (by decide) rfl rfl (g := (mkF m 28 #[rv a, rv xo, rv xf, rv xs, rv xc, iv rg, iv fl] [(.int rg), (.ref a)])) rfl rfl (hb hby own_d14_28)
  have Fw22 := f20.same W22
  have O23 := O18.wr W22 g_a
  have kp24 := kp19.wr W22 (Or.inl (own_m 0 rfl))
  have N22 := Fr.snoc X22 N17 g_a
  rcases hfb with hfl | hfl
  · have f25 := (((((F_backReferences.other W2 (Or.inr (slot_ne (Or.inr (hw _ (own_m 142 rfl))) (Or.inr (hw _ (own_m 132 rfl))) (by decide) (t := .boolean) (t' := (.array (.object "com/example/quillgraph/quillgraph/sparql/RegexProgram$Op"))) (by decide) (by decide)))).other W7 (Or.inr (slot_ne (Or.inr (hw _ (own_m 142 rfl))) (Or.inr (hw _ (own_m 134 rfl))) (by decide) (t := .boolean) (t' := (.array .int)) (by decide) (by decide)))).other W12 (Or.inr (slot_ne (Or.inr (hw _ (own_m 142 rfl))) (Or.inr (hw _ (own_m 136 rfl))) (by decide) (t := .boolean) (t' := (.array .int)) (by decide) (by decide)))).other W17 (Or.inr (slot_ne (Or.inr (hw _ (own_m 142 rfl))) (Or.inr (hw _ (own_m 138 rfl))) (by decide) (t := .boolean) (t' := (.array (.object "com/example/quillgraph/quillgraph/sparql/CodePointSet"))) (by decide) (by decide)))).other W22 (Or.inr (slot_ne (Or.inr (hw _ (own_m 142 rfl))) (Or.inr (hw _ (own_m 140 rfl))) (by decide) (t := .boolean) (t' := .int) (by decide) (by decide))))
    have f26 := (f21.wr W22)
    obtain ⟨T27, h27, X27, e27, W27, st27⟩ := putF X22 hx hZ hown (host := "") (Or.inl (hw _ (own_m 141 rfl))) Via.refl e22 f25 f26 (Or.inr ⟨(hw _ (own_m 142 rfl)), rfl, hnm⟩) (hw _ (own_m 104 rfl)) (ty := .boolean) (by decide) (by first | rfl | decide) (by first | rfl | decide) (g := (mkF m 34 #[rv a, rv xo, rv xf, rv xs, rv xc, iv rg, iv fl] [(.int 0), (.ref a)])) rfl rfl (hb hby own_d14_34)
    have Fw27 := f25.same W27
    have O28 := O23.wr W27 g_a
    have kp29 := kp24.wr W27 (Or.inl (own_m 0 rfl))
    have N27 := Fr.snoc X27 N22 g_a
    have f30 := (f26.wr W27)
    have f31 := (((((Fw2.other W7 (Or.inr (slot_ne (Or.inr (hw _ (own_m 132 rfl))) (Or.inr (hw _ (own_m 134 rfl))) (by decide) (t := (.array (.object "com/example/quillgraph/quillgraph/sparql/RegexProgram$Op"))) (t' := (.array .int)) (by decide) (by decide)))).other W12 (Or.inr (slot_ne (Or.inr (hw _ (own_m 132 rfl))) (Or.inr (hw _ (own_m 136 rfl))) (by decide) (t := (.array (.object "com/example/quillgraph/quillgraph/sparql/RegexProgram$Op"))) (t' := (.array .int)) (by decide) (by decide)))).other W17 (Or.inr (slot_ne (Or.inr (hw _ (own_m 132 rfl))) (Or.inr (hw _ (own_m 138 rfl))) (by decide) (t := (.array (.object "com/example/quillgraph/quillgraph/sparql/RegexProgram$Op"))) (t' := (.array (.object "com/example/quillgraph/quillgraph/sparql/CodePointSet"))) (by decide) (by decide)))).other W22 (Or.inr (slot_ne (Or.inr (hw _ (own_m 132 rfl))) (Or.inr (hw _ (own_m 140 rfl))) (by decide) (t := (.array (.object "com/example/quillgraph/quillgraph/sparql/RegexProgram$Op"))) (t' := .int) (by decide) (by decide)))).other W27 (Or.inr (slot_ne (Or.inr (hw _ (own_m 132 rfl))) (Or.inr (hw _ (own_m 142 rfl))) (by decide) (t := (.array (.object "com/example/quillgraph/quillgraph/sparql/RegexProgram$Op"))) (t' := .boolean) (by decide) (by decide))))
    have f32 := ((((Fw7.other W12 (Or.inr (slot_ne (Or.inr (hw _ (own_m 134 rfl))) (Or.inr (hw _ (own_m 136 rfl))) (by decide) (t := (.array .int)) (t' := (.array .int)) (by decide) (by decide)))).other W17 (Or.inr (slot_ne (Or.inr (hw _ (own_m 134 rfl))) (Or.inr (hw _ (own_m 138 rfl))) (by decide) (t := (.array .int)) (t' := (.array (.object "com/example/quillgraph/quillgraph/sparql/CodePointSet"))) (by decide) (by decide)))).other W22 (Or.inr (slot_ne (Or.inr (hw _ (own_m 134 rfl))) (Or.inr (hw _ (own_m 140 rfl))) (by decide) (t := (.array .int)) (t' := .int) (by decide) (by decide)))).other W27 (Or.inr (slot_ne (Or.inr (hw _ (own_m 134 rfl))) (Or.inr (hw _ (own_m 142 rfl))) (by decide) (t := (.array .int)) (t' := .boolean) (by decide) (by decide))))
    have f33 := (((Fw12.other W17 (Or.inr (slot_ne (Or.inr (hw _ (own_m 136 rfl))) (Or.inr (hw _ (own_m 138 rfl))) (by decide) (t := (.array .int)) (t' := (.array (.object "com/example/quillgraph/quillgraph/sparql/CodePointSet"))) (by decide) (by decide)))).other W22 (Or.inr (slot_ne (Or.inr (hw _ (own_m 136 rfl))) (Or.inr (hw _ (own_m 140 rfl))) (by decide) (t := (.array .int)) (t' := .int) (by decide) (by decide)))).other W27 (Or.inr (slot_ne (Or.inr (hw _ (own_m 136 rfl))) (Or.inr (hw _ (own_m 142 rfl))) (by decide) (t := (.array .int)) (t' := .boolean) (by decide) (by decide))))
    obtain ⟨fs, hr, hrun, hended, hW, hsame⟩ := X27.leave (v := none) (fun _ => rfl)
    refine ⟨_, _, pre0 _ ?_, hrun, hended, _, _, rfl, ?_, ⟨_, rfl⟩, hW, hsame.mono (by decide) (by decide)⟩
    · show Steps p.tables e below (s₁.setTop (mkF m 0 #[rv a, rv xo, rv xf, rv xs, rv xc, iv rg, iv fl] [])) _
      refine XS.aloadN X0.here hx rfl (hb hby own_d14_0) rfl rfl ?_
      show Steps p.tables e below (s₁.setTop (mkF m 1 #[rv a, rv xo, rv xf, rv xs, rv xc, iv rg, iv fl] [(.ref a)])) _
      refine st1 _ ?_
      show Steps p.tables e below (T1.setTop (mkF m 4 #[rv a, rv xo, rv xf, rv xs, rv xc, iv rg, iv fl] [])) _
      refine XS.aloadN X1.here hx rfl (hb hby own_d14_4) rfl rfl ?_
      show Steps p.tables e below (T1.setTop (mkF m 5 #[rv a, rv xo, rv xf, rv xs, rv xc, iv rg, iv fl] [(.ref a)])) _
      refine XS.aloadN X1.here hx rfl (hb hby own_d14_5) rfl rfl ?_
      show Steps p.tables e below (T1.setTop (mkF m 6 #[rv a, rv xo, rv xf, rv xs, rv xc, iv rg, iv fl] [(.ref xo), (.ref a)])) _
      refine st2 _ ?_
      show Steps p.tables e below (T2.setTop (mkF m 9 #[rv a, rv xo, rv xf, rv xs, rv xc, iv rg, iv fl] [])) _
      refine XS.aloadN X2.here hx rfl (hb hby own_d14_9) rfl rfl ?_
      show Steps p.tables e below (T2.setTop (mkF m 10 #[rv a, rv xo, rv xf, rv xs, rv xc, iv rg, iv fl] [(.ref a)])) _
      refine XS.aloadN X2.here hx rfl (hb hby own_d14_10) rfl rfl ?_
      show Steps p.tables e below (T2.setTop (mkF m 11 #[rv a, rv xo, rv xf, rv xs, rv xc, iv rg, iv fl] [(.ref xf), (.ref a)])) _
      refine st7 _ ?_
      show Steps p.tables e below (T7.setTop (mkF m 14 #[rv a, rv xo, rv xf, rv xs, rv xc, iv rg, iv fl] [])) _
      refine XS.aloadN X7.here hx rfl (hb hby own_d14_14) rfl rfl ?_
      show Steps p.tables e below (T7.setTop (mkF m 15 #[rv a, rv xo, rv xf, rv xs, rv xc, iv rg, iv fl] [(.ref a)])) _
      refine XS.aloadN X7.here hx rfl (hb hby own_d14_15) rfl rfl ?_
      show Steps p.tables e below (T7.setTop (mkF m 16 #[rv a, rv xo, rv xf, rv xs, rv xc, iv rg, iv fl] [(.ref xs), (.ref a)])) _
      refine st12 _ ?_
      show Steps p.tables e below (T12.setTop (mkF m 19 #[rv a, rv xo, rv xf, rv xs, rv xc, iv rg, iv fl] [])) _
      refine XS.aloadN X12.here hx rfl (hb hby own_d14_19) rfl rfl ?_
      show Steps p.tables e below (T12.setTop (mkF m 20 #[rv a, rv xo, rv xf, rv xs, rv xc, iv rg, iv fl] [(.ref a)])) _
      refine XS.aload X12.here hx rfl (hb hby own_d14_20) rfl rfl ?_
      show Steps p.tables e below (T12.setTop (mkF m 22 #[rv a, rv xo, rv xf, rv xs, rv xc, iv rg, iv fl] [(.ref xc), (.ref a)])) _
      refine st17 _ ?_
      show Steps p.tables e below (T17.setTop (mkF m 25 #[rv a, rv xo, rv xf, rv xs, rv xc, iv rg, iv fl] [])) _
      refine XS.aloadN X17.here hx rfl (hb hby own_d14_25) rfl rfl ?_
      show Steps p.tables e below (T17.setTop (mkF m 26 #[rv a, rv xo, rv xf, rv xs, rv xc, iv rg, iv fl] [(.ref a)])) _
      refine XS.iload X17.here hx rfl (hb hby own_d14_26) rfl ?_
      show Steps p.tables e below (T17.setTop (mkF m 28 #[rv a, rv xo, rv xf, rv xs, rv xc, iv rg, iv fl] [(.int rg), (.ref a)])) _
      refine st22 _ ?_
      show Steps p.tables e below (T22.setTop (mkF m 31 #[rv a, rv xo, rv xf, rv xs, rv xc, iv rg, iv fl] [])) _
      refine XS.aloadN X22.here hx rfl (hb hby own_d14_31) rfl rfl ?_
      show Steps p.tables e below (T22.setTop (mkF m 32 #[rv a, rv xo, rv xf, rv xs, rv xc, iv rg, iv fl] [(.ref a)])) _
      refine XS.iload X22.here hx rfl (hb hby own_d14_32) rfl ?_
      show Steps p.tables e below (T22.setTop (mkF m 34 #[rv a, rv xo, rv xf, rv xs, rv xc, iv rg, iv fl] [(.int fl), (.ref a)])) _
      refine own_top (v' := (.int 0)) (congrArg Value.int hfl) ?_
      show Steps p.tables e below (T22.setTop (mkF m 34 #[rv a, rv xo, rv xf, rv xs, rv xc, iv rg, iv fl] [(.int 0), (.ref a)])) _
      refine st27 _ ?_
      show Steps p.tables e below (T27.setTop (mkF m 37 #[rv a, rv xo, rv xf, rv xs, rv xc, iv rg, iv fl] [])) _
      exact X27.returnOut hx Bd.returns (hb hby own_d14_37) hr
    · show own_prg_Q Z w_CHARACTER w_SPLIT w_JUMP w_TEXT_START w_LINE_START w_TEXT_END w_LINE_END w_SAVE w_BACK_REFERENCE w_MARK w_PROGRESS w_MATCH w_NOTHING w_DE k_DE a xo xf xs xc rg fl h0 n0 _ T27.heap _
      rw [e27]
      exact ⟨rfl, N27, kp29, f30, f31, f32, f33⟩
  · have f34 := (((((F_backReferences.other W2 (Or.inr (slot_ne (Or.inr (hw _ (own_m 142 rfl))) (Or.inr (hw _ (own_m 132 rfl))) (by decide) (t := .boolean) (t' := (.array (.object "com/example/quillgraph/quillgraph/sparql/RegexProgram$Op"))) (by decide) (by decide)))).other W7 (Or.inr (slot_ne (Or.inr (hw _ (own_m 142 rfl))) (Or.inr (hw _ (own_m 134 rfl))) (by decide) (t := .boolean) (t' := (.array .int)) (by decide) (by decide)))).other W12 (Or.inr (slot_ne (Or.inr (hw _ (own_m 142 rfl))) (Or.inr (hw _ (own_m 136 rfl))) (by decide) (t := .boolean) (t' := (.array .int)) (by decide) (by decide)))).other W17 (Or.inr (slot_ne (Or.inr (hw _ (own_m 142 rfl))) (Or.inr (hw _ (own_m 138 rfl))) (by decide) (t := .boolean) (t' := (.array (.object "com/example/quillgraph/quillgraph/sparql/CodePointSet"))) (by decide) (by decide)))).other W22 (Or.inr (slot_ne (Or.inr (hw _ (own_m 142 rfl))) (Or.inr (hw _ (own_m 140 rfl))) (by decide) (t := .boolean) (t' := .int) (by decide) (by decide))))
    have f35 := (f21.wr W22)
    obtain ⟨T36, h36, X36, e36, W36, st36⟩ := putF X22 hx hZ hown (host := "") (Or.inl (hw _ (own_m 141 rfl))) Via.refl e22 f34 f35 (Or.inr ⟨(hw _ (own_m 142 rfl)), rfl, hnm⟩) (hw _ (own_m 104 rfl)) (ty := .boolean) (by decide) (by first | rfl | decide) (by first | rfl | decide) (g := (mkF m 34 #[rv a, rv xo, rv xf, rv xs, rv xc, iv rg, iv fl] [(.int 1), (.ref a)])) rfl rfl (hb hby own_d14_34)
    have Fw36 := f34.same W36
    have O37 := O23.wr W36 g_a
    have kp38 := kp24.wr W36 (Or.inl (own_m 0 rfl))
    have N36 := Fr.snoc X36 N22 g_a
    have f39 := (f35.wr W36)
    have f40 := (((((Fw2.other W7 (Or.inr (slot_ne (Or.inr (hw _ (own_m 132 rfl))) (Or.inr (hw _ (own_m 134 rfl))) (by decide) (t := (.array (.object "com/example/quillgraph/quillgraph/sparql/RegexProgram$Op"))) (t' := (.array .int)) (by decide) (by decide)))).other W12 (Or.inr (slot_ne (Or.inr (hw _ (own_m 132 rfl))) (Or.inr (hw _ (own_m 136 rfl))) (by decide) (t := (.array (.object "com/example/quillgraph/quillgraph/sparql/RegexProgram$Op"))) (t' := (.array .int)) (by decide) (by decide)))).other W17 (Or.inr (slot_ne (Or.inr (hw _ (own_m 132 rfl))) (Or.inr (hw _ (own_m 138 rfl))) (by decide) (t := (.array (.object "com/example/quillgraph/quillgraph/sparql/RegexProgram$Op"))) (t' := (.array (.object "com/example/quillgraph/quillgraph/sparql/CodePointSet"))) (by decide) (by decide)))).other W22 (Or.inr (slot_ne (Or.inr (hw _ (own_m 132 rfl))) (Or.inr (hw _ (own_m 140 rfl))) (by decide) (t := (.array (.object "com/example/quillgraph/quillgraph/sparql/RegexProgram$Op"))) (t' := .int) (by decide) (by decide)))).other W36 (Or.inr (slot_ne (Or.inr (hw _ (own_m 132 rfl))) (Or.inr (hw _ (own_m 142 rfl))) (by decide) (t := (.array (.object "com/example/quillgraph/quillgraph/sparql/RegexProgram$Op"))) (t' := .boolean) (by decide) (by decide))))
    have f41 := ((((Fw7.other W12 (Or.inr (slot_ne (Or.inr (hw _ (own_m 134 rfl))) (Or.inr (hw _ (own_m 136 rfl))) (by decide) (t := (.array .int)) (t' := (.array .int)) (by decide) (by decide)))).other W17 (Or.inr (slot_ne (Or.inr (hw _ (own_m 134 rfl))) (Or.inr (hw _ (own_m 138 rfl))) (by decide) (t := (.array .int)) (t' := (.array (.object "com/example/quillgraph/quillgraph/sparql/CodePointSet"))) (by decide) (by decide)))).other W22 (Or.inr (slot_ne (Or.inr (hw _ (own_m 134 rfl))) (Or.inr (hw _ (own_m 140 rfl))) (by decide) (t := (.array .int)) (t' := .int) (by decide) (by decide)))).other W36 (Or.inr (slot_ne (Or.inr (hw _ (own_m 134 rfl))) (Or.inr (hw _ (own_m 142 rfl))) (by decide) (t := (.array .int)) (t' := .boolean) (by decide) (by decide))))
    have f42 := (((Fw12.other W17 (Or.inr (slot_ne (Or.inr (hw _ (own_m 136 rfl))) (Or.inr (hw _ (own_m 138 rfl))) (by decide) (t := (.array .int)) (t' := (.array (.object "com/example/quillgraph/quillgraph/sparql/CodePointSet"))) (by decide) (by decide)))).other W22 (Or.inr (slot_ne (Or.inr (hw _ (own_m 136 rfl))) (Or.inr (hw _ (own_m 140 rfl))) (by decide) (t := (.array .int)) (t' := .int) (by decide) (by decide)))).other W36 (Or.inr (slot_ne (Or.inr (hw _ (own_m 136 rfl))) (Or.inr (hw _ (own_m 142 rfl))) (by decide) (t := (.array .int)) (t' := .boolean) (by decide) (by decide))))
    obtain ⟨fs, hr, hrun, hended, hW, hsame⟩ := X36.leave (v := none) (fun _ => rfl)
    refine ⟨_, _, pre0 _ ?_, hrun, hended, _, _, rfl, ?_, ⟨_, rfl⟩, hW, hsame.mono (by decide) (by decide)⟩
    · show Steps p.tables e below (s₁.setTop (mkF m 0 #[rv a, rv xo, rv xf, rv xs, rv xc, iv rg, iv fl] [])) _
      refine XS.aloadN X0.here hx rfl (hb hby own_d14_0) rfl rfl ?_
      show Steps p.tables e below (s₁.setTop (mkF m 1 #[rv a, rv xo, rv xf, rv xs, rv xc, iv rg, iv fl] [(.ref a)])) _
      refine st1 _ ?_
      show Steps p.tables e below (T1.setTop (mkF m 4 #[rv a, rv xo, rv xf, rv xs, rv xc, iv rg, iv fl] [])) _
      refine XS.aloadN X1.here hx rfl (hb hby own_d14_4) rfl rfl ?_
      show Steps p.tables e below (T1.setTop (mkF m 5 #[rv a, rv xo, rv xf, rv xs, rv xc, iv rg, iv fl] [(.ref a)])) _
      refine XS.aloadN X1.here hx rfl (hb hby own_d14_5) rfl rfl ?_
      show Steps p.tables e below (T1.setTop (mkF m 6 #[rv a, rv xo, rv xf, rv xs, rv xc, iv rg, iv fl] [(.ref xo), (.ref a)])) _
      refine st2 _ ?_
      show Steps p.tables e below (T2.setTop (mkF m 9 #[rv a, rv xo, rv xf, rv xs, rv xc, iv rg, iv fl] [])) _
      refine XS.aloadN X2.here hx rfl (hb hby own_d14_9) rfl rfl ?_
      show Steps p.tables e below (T2.setTop (mkF m 10 #[rv a, rv xo, rv xf, rv xs, rv xc, iv rg, iv fl] [(.ref a)])) _
      refine XS.aloadN X2.here hx rfl (hb hby own_d14_10) rfl rfl ?_
      show Steps p.tables e below (T2.setTop (mkF m 11 #[rv a, rv xo, rv xf, rv xs, rv xc, iv rg, iv fl] [(.ref xf), (.ref a)])) _
      refine st7 _ ?_
      show Steps p.tables e below (T7.setTop (mkF m 14 #[rv a, rv xo, rv xf, rv xs, rv xc, iv rg, iv fl] [])) _
      refine XS.aloadN X7.here hx rfl (hb hby own_d14_14) rfl rfl ?_
      show Steps p.tables e below (T7.setTop (mkF m 15 #[rv a, rv xo, rv xf, rv xs, rv xc, iv rg, iv fl] [(.ref a)])) _
      refine XS.aloadN X7.here hx rfl (hb hby own_d14_15) rfl rfl ?_
      show Steps p.tables e below (T7.setTop (mkF m 16 #[rv a, rv xo, rv xf, rv xs, rv xc, iv rg, iv fl] [(.ref xs), (.ref a)])) _
      refine st12 _ ?_
      show Steps p.tables e below (T12.setTop (mkF m 19 #[rv a, rv xo, rv xf, rv xs, rv xc, iv rg, iv fl] [])) _
      refine XS.aloadN X12.here hx rfl (hb hby own_d14_19) rfl rfl ?_
      show Steps p.tables e below (T12.setTop (mkF m 20 #[rv a, rv xo, rv xf, rv xs, rv xc, iv rg, iv fl] [(.ref a)])) _
      refine XS.aload X12.here hx rfl (hb hby own_d14_20) rfl rfl ?_
      show Steps p.tables e below (T12.setTop (mkF m 22 #[rv a, rv xo, rv xf, rv xs, rv xc, iv rg, iv fl] [(.ref xc), (.ref a)])) _
      refine st17 _ ?_
      show Steps p.tables e below (T17.setTop (mkF m 25 #[rv a, rv xo, rv xf, rv xs, rv xc, iv rg, iv fl] [])) _
      refine XS.aloadN X17.here hx rfl (hb hby own_d14_25) rfl rfl ?_
      show Steps p.tables e below (T17.setTop (mkF m 26 #[rv a, rv xo, rv xf, rv xs, rv xc, iv rg, iv fl] [(.ref a)])) _
      refine XS.iload X17.here hx rfl (hb hby own_d14_26) rfl ?_
      show Steps p.tables e below (T17.setTop (mkF m 28 #[rv a, rv xo, rv xf, rv xs, rv xc, iv rg, iv fl] [(.int rg), (.ref a)])) _
      refine st22 _ ?_
      show Steps p.tables e below (T22.setTop (mkF m 31 #[rv a, rv xo, rv xf, rv xs, rv xc, iv rg, iv fl] [])) _
      refine XS.aloadN X22.here hx rfl (hb hby own_d14_31) rfl rfl ?_
      show Steps p.tables e below (T22.setTop (mkF m 32 #[rv a, rv xo, rv xf, rv xs, rv xc, iv rg, iv fl] [(.ref a)])) _
      refine XS.iload X22.here hx rfl (hb hby own_d14_32) rfl ?_
      show Steps p.tables e below (T22.setTop (mkF m 34 #[rv a, rv xo, rv xf, rv xs, rv xc, iv rg, iv fl] [(.int fl), (.ref a)])) _
      refine own_top (v' := (.int 1)) (congrArg Value.int hfl) ?_
      show Steps p.tables e below (T22.setTop (mkF m 34 #[rv a, rv xo, rv xf, rv xs, rv xc, iv rg, iv fl] [(.int 1), (.ref a)])) _
      refine st36 _ ?_
      show Steps p.tables e below (T36.setTop (mkF m 37 #[rv a, rv xo, rv xf, rv xs, rv xc, iv rg, iv fl] [])) _
      exact X36.returnOut hx Bd.returns (hb hby own_d14_37) hr
    · show own_prg_Q Z w_CHARACTER w_SPLIT w_JUMP w_TEXT_START w_LINE_START w_TEXT_END w_LINE_END w_SAVE w_BACK_REFERENCE w_MARK w_PROGRESS w_MATCH w_NOTHING w_DE k_DE a xo xf xs xc rg fl h0 n0 _ T36.heap _
      rw [e36]
      exact ⟨rfl, N36, kp38, f39, f40, f41, f42⟩
theorem own_build_ef (m : MethodId) (a : Addr) : entryFrame m #[(.ref a)] 9 = mkF m 0 #[rv a, .unset, .unset, .unset, .unset, .unset, .unset, .unset, .unset] [] := by first | (simp [entryFrame, mkF, argsToLocals, Value.category]; done) | rfl
def own_build_Q (Z : State) (w_CHARACTER : Addr) (w_SPLIT : Addr) (w_JUMP : Addr) (w_TEXT_START : Addr) (w_LINE_START : Addr) (w_TEXT_END : Addr) (w_LINE_END : Addr) (w_SAVE : Addr) (w_BACK_REFERENCE : Addr) (w_MARK : Addr) (w_PROGRESS : Addr) (w_MATCH : Addr) (w_NOTHING : Addr) (w_DE : Addr) (k_DE : ClassId) (a : Addr) (bo : Addr) (bf : Addr) (bs : Addr) (ll : Addr) (ko : ClassId) (kf : ClassId) (ks : ClassId) (o0 : Addr) (f0 : Int32) (s0 : Int32) (o1 : Addr) (f1 : Int32) (s1 : Int32) (h0 : Heap) (n0 : Nat) (v : Option Value) (h : Heap) (L : List Loc) : Prop := ∃ (r xo xf xs : Addr) (k1 k2 k3 : ClassId), Fr n0 L ∧ Keep h0 h [a, bo, bf, bs] ∧ True ∧ v = some (.ref r) ∧ Exa Z h r "com/example/quillgraph/quillgraph/sparql/RegexProgram" ∧ Fld Z h r "com/example/quillgraph/quillgraph/sparql/RegexProgram" "ops" "[Lcom/example/quillgraph/quillgraph/sparql/RegexProgram$Op;" (.ref xo) ∧ Fld Z h r "com/example/quillgraph/quillgraph/sparql/RegexProgram" "first" "[I" (.ref xf) ∧ Fld Z h r "com/example/quillgraph/quillgraph/sparql/RegexProgram" "second" "[I" (.ref xs) ∧ Arv Z h xo k1 (.object "com/example/quillgraph/quillgraph/sparql/RegexProgram$Op") (3 : Int32) [(.ref o0), (.ref o1), (.ref w_MATCH)] .null ∧ Arv Z h xf k2 .int (3 : Int32) [(.int f0), (.int f1), (.int 0)] (.int 0) ∧ Arv Z h xs k3 .int (3 : Int32) [(.int s0), (.int s1), (.int 0)] (.int 0) ∧ True
set_option maxRecDepth 65536 in
set_option maxHeartbeats 40000000 in
theorem own_build (l : Launch) (Z : State) (a0 : Array Value) (hw : ∀ d ∈ tables_1, d.before a0 Z = true) (ws : List Jvm.Cond) (w_CHARACTER : Addr) (w_SPLIT : Addr) (w_JUMP : Addr) (w_TEXT_START : Addr) (w_LINE_START : Addr) (w_TEXT_END : Addr) (w_LINE_END : Addr) (w_SAVE : Addr) (w_BACK_REFERENCE : Addr) (w_MARK : Addr) (w_PROGRESS : Addr) (w_MATCH : Addr) (w_NOTHING : Addr) (w_DE : Addr) (k_DE : ClassId) (a : Addr) (bo : Addr) (bf : Addr) (bs : Addr) (ll : Addr) (ko : ClassId) (kf : ClassId) (ks : ClassId) (o0 : Addr) (f0 : Int32) (s0 : Int32) (o1 : Addr) (f1 : Int32) (s1 : Int32) (h0 : Heap) (n0 : Nat) (O0 : Old Z n0 h0) (U_CHARACTER : own_En Z Z.heap "com/example/quillgraph/quillgraph/sparql/RegexProgram$Op" "CHARACTER" "Lcom/example/quillgraph/quillgraph/sparql/RegexProgram$Op;" w_CHARACTER (0 : Int32)) (U_SPLIT : own_En Z Z.heap "com/example/quillgraph/quillgraph/sparql/RegexProgram$Op" "SPLIT" "Lcom/example/quillgraph/quillgraph/sparql/RegexProgram$Op;" w_SPLIT (1 : Int32)) (U_JUMP : own_En Z Z.heap "com/example/quillgraph/quillgraph/sparql/RegexProgram$Op" "JUMP" "Lcom/example/quillgraph/quillgraph/sparql/RegexProgram$Op;" w_JUMP (2 : Int32)) (U_TEXT_START : own_En Z Z.heap "com/example/quillgraph/quillgraph/sparql/RegexProgram$Op" "TEXT_START" "Lcom/example/quillgraph/quillgraph/sparql/RegexProgram$Op;" w_TEXT_START (3 : Int32)) (U_LINE_START : own_En Z Z.heap "com/example/quillgraph/quillgraph/sparql/RegexProgram$Op" "LINE_START" "Lcom/example/quillgraph/quillgraph/sparql/RegexProgram$Op;" w_LINE_START (4 : Int32)) (U_TEXT_END : own_En Z Z.heap "com/example/quillgraph/quillgraph/sparql/RegexProgram$Op" "TEXT_END" "Lcom/example/quillgraph/quillgraph/sparql/RegexProgram$Op;" w_TEXT_END (5 : Int32)) (U_LINE_END : own_En Z Z.heap "com/example/quillgraph/quillgraph/sparql/RegexProgram$Op" "LINE_END" "Lcom/example/quillgraph/quillgraph/sparql/RegexProgram$Op;" w_LINE_END (6 : Int32)) (U_SAVE : own_En Z Z.heap "com/example/quillgraph/quillgraph/sparql/RegexProgram$Op" "SAVE" "Lcom/example/quillgraph/quillgraph/sparql/RegexProgram$Op;" w_SAVE (7 : Int32)) (U_BACK_REFERENCE : own_En Z Z.heap "com/example/quillgraph/quillgraph/sparql/RegexProgram$Op" "BACK_REFERENCE" "Lcom/example/quillgraph/quillgraph/sparql/RegexProgram$Op;" w_BACK_REFERENCE (8 : Int32)) (U_MARK : own_En Z Z.heap "com/example/quillgraph/quillgraph/sparql/RegexProgram$Op" "MARK" "Lcom/example/quillgraph/quillgraph/sparql/RegexProgram$Op;" w_MARK (9 : Int32)) (U_PROGRESS : own_En Z Z.heap "com/example/quillgraph/quillgraph/sparql/RegexProgram$Op" "PROGRESS" "Lcom/example/quillgraph/quillgraph/sparql/RegexProgram$Op;" w_PROGRESS (10 : Int32)) (U_MATCH : own_En Z Z.heap "com/example/quillgraph/quillgraph/sparql/RegexProgram$Op" "MATCH" "Lcom/example/quillgraph/quillgraph/sparql/RegexProgram$Op;" w_MATCH (11 : Int32)) (U_NOTHING : own_En Z Z.heap "com/example/quillgraph/quillgraph/sparql/RegexProgram$Op" "NOTHING" "Lcom/example/quillgraph/quillgraph/sparql/RegexProgram$Op;" w_NOTHING (12 : Int32)) (S_DE : Sta Z Z.heap "java/util/ArrayList" "DEFAULTCAPACITY_EMPTY_ELEMENTDATA" "[Ljava/lang/Object;" (.ref w_DE)) (V_DE : Arv Z Z.heap w_DE k_DE (.object "java/lang/Object") (0 : Int32) [] .null) (g_a : n0 ≤ a) (E_a : Exa Z h0 a "com/example/quillgraph/quillgraph/sparql/RegexProgram$Builder") (F_ops : Fld Z h0 a "com/example/quillgraph/quillgraph/sparql/RegexProgram$Builder" "ops" "[Lcom/example/quillgraph/quillgraph/sparql/RegexProgram$Op;" (.ref bo)) (F_first : Fld Z h0 a "com/example/quillgraph/quillgraph/sparql/RegexProgram$Builder" "first" "[I" (.ref bf)) (F_second : Fld Z h0 a "com/example/quillgraph/quillgraph/sparql/RegexProgram$Builder" "second" "[I" (.ref bs)) (F_classes : Fld Z h0 a "com/example/quillgraph/quillgraph/sparql/RegexProgram$Builder" "classes" "Ljava/util/List;" (.ref ll)) (F_limit : Fld Z h0 a "com/example/quillgraph/quillgraph/sparql/RegexProgram$Builder" "limit" "I" (.int 16)) (F_size : Fld Z h0 a "com/example/quillgraph/quillgraph/sparql/RegexProgram$Builder" "size" "I" (.int 2)) (F_registers : Fld Z h0 a "com/example/quillgraph/quillgraph/sparql/RegexProgram$Builder" "registers" "I" (.int 0)) (g_bo : n0 ≤ bo) (g_bf : n0 ≤ bf) (g_bs : n0 ≤ bs) (n_bo_a : bo ≠ a) (n_bf_a : bf ≠ a) (n_bs_a : bs ≠ a) (n_ll_a : ll ≠ a) (n_bo_bf : bo ≠ bf) (n_bo_bs : bo ≠ bs) (n_bf_bs : bf ≠ bs) (n_bo_ll : bo ≠ ll) (n_bf_ll : bf ≠ ll) (n_bs_ll : bs ≠ ll) (O_bo : Ovr Z ko "com/example/quillgraph/quillgraph/sparql/RegexProgram$Op") (V_bo : Arv Z h0 bo ko (.object "com/example/quillgraph/quillgraph/sparql/RegexProgram$Op") (16 : Int32) [(.ref o0), (.ref o1), .null, .null, .null, .null, .null, .null, .null, .null, .null, .null, .null, .null, .null, .null] .null) (V_bf : Arv Z h0 bf kf .int (16 : Int32) [(.int f0), (.int f1), (.int 0), (.int 0), (.int 0), (.int 0), (.int 0), (.int 0), (.int 0), (.int 0), (.int 0), (.int 0), (.int 0), (.int 0), (.int 0), (.int 0)] (.int 0)) (V_bs : Arv Z h0 bs ks .int (16 : Int32) [(.int s0), (.int s1), (.int 0), (.int 0), (.int 0), (.int 0), (.int 0), (.int 0), (.int 0), (.int 0), (.int 0), (.int 0), (.int 0), (.int 0), (.int 0), (.int 0)] (.int 0)) (gl : n0 ≤ ll) (E_ll : Exa Z h0 ll "java/util/ArrayList") (Fl_elementData : Fld Z h0 ll "java/util/ArrayList" "elementData" "[Ljava/lang/Object;" (.ref w_DE)) (Fl_size : Fld Z h0 ll "java/util/ArrayList" "size" "I" (.int 0)) (Fl_modCount : Fld Z h0 ll "java/util/AbstractList" "modCount" "I" (.int 0)) (G0 : Exa Z Z.heap o0 "com/example/quillgraph/quillgraph/sparql/RegexProgram$Op" ∧ o0 ≠ w_NOTHING ∧ o0 ≠ w_SAVE ∧ o0 ≠ w_MARK ∧ o0 ≠ w_PROGRESS) (G1 : Exa Z Z.heap o1 "com/example/quillgraph/quillgraph/sparql/RegexProgram$Op" ∧ o1 ≠ w_NOTHING ∧ o1 ≠ w_SAVE ∧ o1 ≠ w_MARK ∧ o1 ≠ w_PROGRESS) (J0 : (o0 = w_SPLIT ∨ o0 = w_JUMP) → (f0 = (0 : Int32) ∨ f0 = (1 : Int32) ∨ f0 = (2 : Int32))) (J1 : (o1 = w_SPLIT ∨ o1 = w_JUMP) → (f1 = (0 : Int32) ∨ f1 = (1 : Int32) ∨ f1 = (2 : Int32))) (P0 : o0 = w_SPLIT → (s0 = (0 : Int32) ∨ s0 = (1 : Int32) ∨ s0 = (2 : Int32))) (P1 : o1 = w_SPLIT → (s1 = (0 : Int32) ∨ s1 = (1 : Int32) ∨ s1 = (2 : Int32))) :
    MetFree l (⟨"com/example/quillgraph/quillgraph/sparql/RegexProgram$Builder", "build", "()Lcom/example/quillgraph/quillgraph/sparql/RegexProgram;"⟩ : MethodName) (head1 (Jvm.Cond.code (⟨"com/example/quillgraph/quillgraph/sparql/RegexProgram$Builder", "build", "()Lcom/example/quillgraph/quillgraph/sparql/RegexProgram;"⟩ : MethodName) prog_117_method_10_code 9 (some (.object "com/example/quillgraph/quillgraph/sparql/RegexProgram")) :: ws) ({ frames := 3, cells := 6, slots := 18, locals := 60 } : Room)) (fun ar U => ar = #[(.ref a)] ∧ Z.Warmed39 U.vm ∧ U.heap = h0) (fun _ _ _ _ _ => True) (fun _ U oc U' => ∃ v L, oc = .returned v ∧ own_build_Q Z w_CHARACTER w_SPLIT w_JUMP w_TEXT_START w_LINE_START w_TEXT_END w_LINE_END w_SAVE w_BACK_REFERENCE w_MARK w_PROGRESS w_MATCH w_NOTHING w_DE k_DE a bo bf bs ll ko kf ks o0 f0 s0 o1 f1 s1 h0 n0 v U'.heap L ∧ FrameEnd U oc U' L ({ frames := 3, cells := 6, slots := 18, locals := 60 } : Room).cells ({ frames := 3, cells := 6, slots := 18, locals := 60 } : Room).slots) := by
  refine MetFree.of_bodySF (plainFor_of_name own_pn4) hisR ?_
  intro p e s m args below meth c s₁ Bd hml0 hP hK
  obtain ⟨rfl, hZ, hh⟩ := hP
  have hx := Bd.exec
  have hby := Bd.bytes
  have hml : c.maxLocals = 9 := hml0
  have hown : s.vm.findClass "com/example/quillgraph/quillgraph/sparql/RegexProgram$Builder" = some m.cls := findClass_of_methodNamed Bd.named
  have hnm := (name_of_methodNamed Bd.named Bd.method).1
  have X0 : Stand p l e ({ frames := 3, cells := 6, slots := 18, locals := 60 } : Room) s m #[(.ref a)] below meth c s₁ [] 0 0 := Stand.of_body Bd
  have e0 : s₁.heap = h0 := by rw [← hh, Bd.state]; rfl
  have N0 := Fr.nil n0
  have pre0 : ∀ t, Steps p.tables e below (s₁.setTop (mkF m 0 #[rv a, .unset, .unset, .unset, .unset, .unset, .unset, .unset, .unset] [])) t → Steps p.tables e below (s₁.setTop (entryFrame m #[(.ref a)] 9)) t := fun t k => castTop (own_build_ef m a) k
  have kp0 := Keep.refl h0 ([a, bo, bf, bs] : List Addr)
  obtain ⟨T1, X1, e1, st1⟩ := getS2 X0 hx hZ hown (host := "") (Or.inl (hw _ (own_m 82 rfl))) Via.refl e0 (U_MATCH.1.ext O0.2) (g := (mkF m 1 #[rv a, .unset, .unset, .unset, .unset, .unset, .unset, .unset, .unset] [(.ref a)])) rfl (hb hby own_d10_1)
  obtain ⟨cq2, kq2, q2a, q2b, q2c⟩ := isOf hZ e1 E_a
  obtain ⟨_, _, ⟨T2, L2, k2, n2⟩, -, X2, ⟨Lc2, hQ2, l2, y2, z2⟩, st2⟩ := X1.virtualBack hx (y := (⟨"com/example/quillgraph/quillgraph/sparql/RegexProgram$Builder", "add", "(Lcom/example/quillgraph/quillgraph/sparql/RegexProgram$Op;II)I"⟩ : MethodName)) (z := (⟨"com/example/quillgraph/quillgraph/sparql/RegexProgram$Builder", "add", "(Lcom/example/quillgraph/quillgraph/sparql/RegexProgram$Op;II)I"⟩ : MethodName)) hown (mvT hZ (hw _ (own_m 84 rfl))) (mvT hZ (hw _ (own_m 58 rfl))) (notFace_of_selects (args := #[]) (mvT hZ (hw _ (own_m 60 rfl)))) (mvT hZ (hw _ (own_m 60 rfl))) (mvT hZ (hw _ (own_m 59 rfl))) (by decide) (backOf (W := 0) (own_add2 l Z a0 hw [] w_CHARACTER w_SPLIT w_JUMP w_TEXT_START w_LINE_START w_TEXT_END w_LINE_END w_SAVE w_BACK_REFERENCE w_MARK w_PROGRESS w_MATCH w_NOTHING w_DE k_DE a bo bf bs ll ko kf ks o0 f0 s0 o1 f1 s1 w_MATCH (0 : Int32) (0 : Int32) h0 n0 O0 U_CHARACTER U_SPLIT U_JUMP U_TEXT_START U_LINE_START U_TEXT_END U_LINE_END U_SAVE U_BACK_REFERENCE U_MARK U_PROGRESS U_MATCH U_NOTHING S_DE V_DE g_a E_a F_ops F_first F_second F_classes F_limit F_size F_registers g_bo g_bf g_bs n_bo_a n_bf_a n_bs_a n_ll_a n_bo_bf n_bo_bs n_bf_bs n_bo_ll n_bf_ll n_bs_ll O_bo V_bo V_bf V_bs (U_MATCH.2.1.ext O0.2)) hZ (hw _ (own_m 61 rfl)) (hw _ (own_m 13 rfl)) (by decide) (by decide)) q2a q2c (g := (mkF m 6 #[rv a, .unset, .unset, .unset, .unset, .unset, .unset, .unset, .unset] [(.int 0), (.int 0), (.ref w_MATCH), (.ref a)])) rfl (by rw [hml]; rfl) (Steps.refl _) (argsL := [(.ref w_MATCH), (.int 0), (.int 0)]) (rest := []) (lenOf own_pd2 rfl) rfl (by show 2 * 0 + _ ≤ _; exact Nat.le_of_eq rfl) (hb hby own_d10_6) (fun _ _ => ⟨rfl, e1, (by decide : 0 + 0 ≤ _), (by decide : 0 + 0 ≤ _)⟩)
  dsimp only [Pt.U, Pt.locs, Pt.cells, Pt.slots] at X2 l2 y2 z2 st2 hQ2
  subst l2 y2 z2
  obtain ⟨rfl, N2q, K2, q3, q4, q5, q6, q7, q8, q9, q10, q11, q12, q13⟩ := hQ2
  have N2 := Fr.app N0 N2q
  have O14 := O0.keep K2 (allS g_a (allS g_bo (allS g_bf (allS g_bs all0))))
  have kp15 := kp0.trans K2 ((allS (P := fun x => x ∈ ([a, bo, bf, bs] : List Addr) ∨ h0.size ≤ x) (Or.inl (own_m 0 rfl)) (allS (P := fun x => x ∈ ([a, bo, bf, bs] : List Addr) ∨ h0.size ≤ x) (Or.inl (own_m 1 rfl)) (allS (P := fun x => x ∈ ([a, bo, bf, bs] : List Addr) ∨ h0.size ≤ x) (Or.inl (own_m 2 rfl)) (allS (P := fun x => x ∈ ([a, bo, bf, bs] : List Addr) ∨ h0.size ≤ x) (Or.inl (own_m 3 rfl)) all0)))))
  obtain ⟨fl, T16, Lj16, hj16, X16, N16, e16, st16⟩ : ∃ (fl : Int32) (T16 : State) (Lj16 : List Loc), (fl = (0 : Int32) ∨ fl = (1 : Int32)) ∧ Stand p l e ({ frames := 3, cells := 6, slots := 18, locals := 60 } : Room) s m #[(.ref a)] below meth c T16 Lj16 0 0 ∧ Fr n0 Lj16 ∧ T16.heap = T2.heap ∧ ∀ target, Steps p.tables e below (T16.setTop (mkF m 48 #[rv a, iv fl, iv 3, .unset, .unset, .unset, .unset, .unset, .unset] [])) target → Steps p.tables e below (T2.setTop (mkF m 12 #[rv a, iv 0, .unset, .unset, .unset, .unset, .unset, .unset, .unset] [])) target := by
    obtain ⟨T17, X17, e17, st17⟩ := getF X2 hx hZ hown (host := "") (Or.inl (hw _ (own_m 67 rfl))) Via.refl rfl q12 (g := (mkF m 16 #[rv a, iv 0, iv 0, .unset, .unset, .unset, .unset, .unset, .unset] [(.ref a), (.int 0)])) rfl rfl (hb hby own_d10_16)
    obtain ⟨T18, X18, e18, st18⟩ := getF X17 hx hZ hown (host := "") (Or.inl (hw _ (own_m 22 rfl))) Via.refl e17 q7 (g := (mkF m 24 #[rv a, iv 0, iv 0, .unset, .unset, .unset, .unset, .unset, .unset] [(.ref a), (.int 0)])) rfl rfl (hb hby own_d10_24)
    obtain ⟨c19, c19A, c19q, c19S, c19N, c19H, c19G⟩ := id q3
    have c19in : ¬ ((0 : Int32) < 0 ∨ c19.slots.size ≤ ((0 : Int32)).toNatClampNeg) := inb_of c19S ⟨by decide, by decide⟩
    have c19at : c19.slots[((0 : Int32)).toNatClampNeg]? = some (.ref o0) := Has.at c19H c19in rfl
    obtain ⟨T20, X20, e20, st20⟩ := getS2 X18 hx hZ hown (host := "") (Or.inl (hw _ (own_m 85 rfl))) Via.refl e18 (U_BACK_REFERENCE.1.ext O14.2) (g := (mkF m 29 #[rv a, iv 0, iv 0, .unset, .unset, .unset, .unset, .unset, .unset] [(.ref o0), (.int 0)])) rfl (hb hby own_d10_29)
    by_cases ha21 : o0 = w_BACK_REFERENCE
    · obtain ⟨T22, X22, e22, st22⟩ := getF X20 hx hZ hown (host := "") (Or.inl (hw _ (own_m 67 rfl))) Via.refl e20 q12 (g := (mkF m 16 #[rv a, iv 1, iv 1, .unset, .unset, .unset, .unset, .unset, .unset] [(.ref a), (.int 1)])) rfl rfl (hb hby own_d10_16)
      obtain ⟨T23, X23, e23, st23⟩ := getF X22 hx hZ hown (host := "") (Or.inl (hw _ (own_m 22 rfl))) Via.refl e22 q7 (g := (mkF m 24 #[rv a, iv 1, iv 1, .unset, .unset, .unset, .unset, .unset, .unset] [(.ref a), (.int 1)])) rfl rfl (hb hby own_d10_24)
      obtain ⟨c24, c24A, c24q, c24S, c24N, c24H, c24G⟩ := id q3
      have c24in : ¬ ((1 : Int32) < 0 ∨ c24.slots.size ≤ ((1 : Int32)).toNatClampNeg) := inb_of c24S ⟨by decide, by decide⟩
      have c24at : c24.slots[((1 : Int32)).toNatClampNeg]? = some (.ref o1) := Has.at c24H c24in rfl
      obtain ⟨T25, X25, e25, st25⟩ := getS2 X23 hx hZ hown (host := "") (Or.inl (hw _ (own_m 85 rfl))) Via.refl e23 (U_BACK_REFERENCE.1.ext O14.2) (g := (mkF m 29 #[rv a, iv 1, iv 1, .unset, .unset, .unset, .unset, .unset, .unset] [(.ref o1), (.int 1)])) rfl (hb hby own_d10_29)
      by_cases ha26 : o1 = w_BACK_REFERENCE
      · obtain ⟨T27, X27, e27, st27⟩ := getF X25 hx hZ hown (host := "") (Or.inl (hw _ (own_m 67 rfl))) Via.refl e25 q12 (g := (mkF m 16 #[rv a, iv 1, iv 2, .unset, .unset, .unset, .unset, .unset, .unset] [(.ref a), (.int 2)])) rfl rfl (hb hby own_d10_16)
        obtain ⟨T28, X28, e28, st28⟩ := getF X27 hx hZ hown (host := "") (Or.inl (hw _ (own_m 22 rfl))) Via.refl e27 q7 (g := (mkF m 24 #[rv a, iv 1, iv 2, .unset, .unset, .unset, .unset, .unset, .unset] [(.ref a), (.int 1)])) rfl rfl (hb hby own_d10_24)
        obtain ⟨c29, c29A, c29q, c29S, c29N, c29H, c29G⟩ := id q3
        have c29in : ¬ ((2 : Int32) < 0 ∨ c29.slots.size ≤ ((2 : Int32)).toNatClampNeg) := inb_of c29S ⟨by decide, by decide⟩
        have c29at : c29.slots[((2 : Int32)).toNatClampNeg]? = some (.ref w_MATCH) := Has.at c29H c29in rfl
        obtain ⟨T30, X30, e30, st30⟩ := getS2 X28 hx hZ hown (host := "") (Or.inl (hw _ (own_m 85 rfl))) Via.refl e28 (U_BACK_REFERENCE.1.ext O14.2) (g := (mkF m 29 #[rv a, iv 1, iv 2, .unset, .unset, .unset, .unset, .unset, .unset] [(.ref w_MATCH), (.int 1)])) rfl (hb hby own_d10_29)
        obtain ⟨T31, X31, e31, st31⟩ := getF X30 hx hZ hown (host := "") (Or.inl (hw _ (own_m 67 rfl))) Via.refl e30 q12 (g := (mkF m 16 #[rv a, iv 1, iv 3, .unset, .unset, .unset, .unset, .unset, .unset] [(.ref a), (.int 3)])) rfl rfl (hb hby own_d10_16)
        refine ⟨(1 : Int32), T31, _, Or.inr rfl, X31, N2, e31, fun target kt => ?_⟩
        show Steps p.tables e below (T2.setTop (mkF m 12 #[rv a, iv 0, .unset, .unset, .unset, .unset, .unset, .unset, .unset] [])) _
        refine XS.iconst X2.here hx rfl (hb hby own_d10_12) ?_
        show Steps p.tables e below (T2.setTop (mkF m 13 #[rv a, iv 0, .unset, .unset, .unset, .unset, .unset, .unset, .unset] [(.int 0)])) _
        refine XS.istoreN X2.here hx rfl (hb hby own_d10_13) rfl (l' := #[rv a, iv 0, iv 0, .unset, .unset, .unset, .unset, .unset, .unset]) rfl ?_
        show Steps p.tables e below (T2.setTop (mkF m 14 #[rv a, iv 0, iv 0, .unset, .unset, .unset, .unset, .unset, .unset] [])) _
        refine XS.iloadN X2.here hx rfl (hb hby own_d10_14) rfl ?_
        show Steps p.tables e below (T2.setTop (mkF m 15 #[rv a, iv 0, iv 0, .unset, .unset, .unset, .unset, .unset, .unset] [(.int 0)])) _
        refine XS.aloadN X2.here hx rfl (hb hby own_d10_15) rfl rfl ?_
        show Steps p.tables e below (T2.setTop (mkF m 16 #[rv a, iv 0, iv 0, .unset, .unset, .unset, .unset, .unset, .unset] [(.ref a), (.int 0)])) _
        refine st17 _ ?_
        show Steps p.tables e below (T17.setTop (mkF m 19 #[rv a, iv 0, iv 0, .unset, .unset, .unset, .unset, .unset, .unset] [(.int 3), (.int 0)])) _
        refine XS.icmpNo X17.here hx rfl (hb hby own_d10_19) rfl (tlt (by decide)).2.1 ?_
        show Steps p.tables e below (T17.setTop (mkF m 22 #[rv a, iv 0, iv 0, .unset, .unset, .unset, .unset, .unset, .unset] [])) _
        refine XS.iloadN X17.here hx rfl (hb hby own_d10_22) rfl ?_
        show Steps p.tables e below (T17.setTop (mkF m 23 #[rv a, iv 0, iv 0, .unset, .unset, .unset, .unset, .unset, .unset] [(.int 0)])) _
        refine XS.aloadN X17.here hx rfl (hb hby own_d10_23) rfl rfl ?_
        show Steps p.tables e below (T17.setTop (mkF m 24 #[rv a, iv 0, iv 0, .unset, .unset, .unset, .unset, .unset, .unset] [(.ref a), (.int 0)])) _
        refine st18 _ ?_
        show Steps p.tables e below (T18.setTop (mkF m 27 #[rv a, iv 0, iv 0, .unset, .unset, .unset, .unset, .unset, .unset] [(.ref bo), (.int 0)])) _
        refine XS.iloadN X18.here hx rfl (hb hby own_d10_27) rfl ?_
        show Steps p.tables e below (T18.setTop (mkF m 28 #[rv a, iv 0, iv 0, .unset, .unset, .unset, .unset, .unset, .unset] [(.int 0), (.ref bo), (.int 0)])) _
        refine X18.aaload hx (j := (0 : Int32)) (v := (.ref o0)) (by rw [e18]; exact c19A.1) (State.isArrayOf_alike hZ.alike c19A.2.1) rfl c19A.2.2 c19in c19at (g := (mkF m 28 #[rv a, iv 0, iv 0, .unset, .unset, .unset, .unset, .unset, .unset] [(.int 0), (.ref bo), (.int 0)])) rfl rfl (hb hby own_d10_28) _ ?_
        show Steps p.tables e below (T18.setTop (mkF m 29 #[rv a, iv 0, iv 0, .unset, .unset, .unset, .unset, .unset, .unset] [(.ref o0), (.int 0)])) _
        refine st20 _ ?_
        show Steps p.tables e below (T20.setTop (mkF m 32 #[rv a, iv 0, iv 0, .unset, .unset, .unset, .unset, .unset, .unset] [(.ref w_BACK_REFERENCE), (.ref o0), (.int 0)])) _
        refine Jvm.RoadKit.acmp (g := (mkF m 32 #[rv a, iv 0, iv 0, .unset, .unset, .unset, .unset, .unset, .unset] [(.ref w_BACK_REFERENCE), (.ref o0), (.int 0)])) X20 hx rfl rfl rfl (pc0 := 32) (pc' := 35) (same := true) rfl (hb hby own_d10_32) rfl (decide_eq_true (congrArg Value.ref ha21)) (by decide) (by decide) ?_
        show Steps p.tables e below (T20.setTop (mkF m 35 #[rv a, iv 0, iv 0, .unset, .unset, .unset, .unset, .unset, .unset] [(.int 0)])) _
        refine XS.iconst X20.here hx rfl (hb hby own_d10_35) ?_
        show Steps p.tables e below (T20.setTop (mkF m 36 #[rv a, iv 0, iv 0, .unset, .unset, .unset, .unset, .unset, .unset] [(.int 1), (.int 0)])) _
        refine XS.goto X20.here hx rfl (pc0 := 36) (pc' := 40) rfl (hb hby own_d10_36) (by decide) (by decide) ?_
        show Steps p.tables e below (T20.setTop (mkF m 40 #[rv a, iv 0, iv 0, .unset, .unset, .unset, .unset, .unset, .unset] [(.int 1), (.int 0)])) _
        refine XS.ior X20.here hx rfl (hb hby own_d10_40) rfl ?_
        show Steps p.tables e below (T20.setTop (mkF m 41 #[rv a, iv 0, iv 0, .unset, .unset, .unset, .unset, .unset, .unset] [(.int ((0 : Int32) ||| (1 : Int32)))])) _
        refine own_top (v' := (.int 1)) (congrArg Value.int (by decide)) ?_
        show Steps p.tables e below (T20.setTop (mkF m 41 #[rv a, iv 0, iv 0, .unset, .unset, .unset, .unset, .unset, .unset] [(.int 1)])) _
        refine XS.istoreN X20.here hx rfl (hb hby own_d10_41) rfl (l' := #[rv a, iv 1, iv 0, .unset, .unset, .unset, .unset, .unset, .unset]) rfl ?_
        show Steps p.tables e below (T20.setTop (mkF m 42 #[rv a, iv 1, iv 0, .unset, .unset, .unset, .unset, .unset, .unset] [])) _
        refine XS.iinc X20.here hx rfl (hb hby own_d10_42) rfl (l' := #[rv a, iv 1, .val (.int ((0 : Int32) + (1 : Int32))), .unset, .unset, .unset, .unset, .unset, .unset]) rfl ?_
        show Steps p.tables e below (T20.setTop (mkF m 45 #[rv a, iv 1, .val (.int ((0 : Int32) + (1 : Int32))), .unset, .unset, .unset, .unset, .unset, .unset] [])) _
        refine castTop (congrArg (fun zz : Int32 => (mkF m 45 #[rv a, iv 1, iv zz, .unset, .unset, .unset, .unset, .unset, .unset] [])) (by decide : ((0 : Int32) + (1 : Int32)) = (1 : Int32))) ?_
        show Steps p.tables e below (T20.setTop (mkF m 45 #[rv a, iv 1, iv 1, .unset, .unset, .unset, .unset, .unset, .unset] [])) _
        refine XS.goto X20.here hx rfl (pc0 := 45) (pc' := 14) rfl (hb hby own_d10_45) (by decide) (by decide) ?_
        show Steps p.tables e below (T20.setTop (mkF m 14 #[rv a, iv 1, iv 1, .unset, .unset, .unset, .unset, .unset, .unset] [])) _
        refine XS.iloadN X20.here hx rfl (hb hby own_d10_14) rfl ?_
        show Steps p.tables e below (T20.setTop (mkF m 15 #[rv a, iv 1, iv 1, .unset, .unset, .unset, .unset, .unset, .unset] [(.int 1)])) _
        refine XS.aloadN X20.here hx rfl (hb hby own_d10_15) rfl rfl ?_
        show Steps p.tables e below (T20.setTop (mkF m 16 #[rv a, iv 1, iv 1, .unset, .unset, .unset, .unset, .unset, .unset] [(.ref a), (.int 1)])) _
        refine st22 _ ?_
        show Steps p.tables e below (T22.setTop (mkF m 19 #[rv a, iv 1, iv 1, .unset, .unset, .unset, .unset, .unset, .unset] [(.int 3), (.int 1)])) _
        refine XS.icmpNo X22.here hx rfl (hb hby own_d10_19) rfl (tlt (by decide)).2.1 ?_
        show Steps p.tables e below (T22.setTop (mkF m 22 #[rv a, iv 1, iv 1, .unset, .unset, .unset, .unset, .unset, .unset] [])) _
        refine XS.iloadN X22.here hx rfl (hb hby own_d10_22) rfl ?_
        show Steps p.tables e below (T22.setTop (mkF m 23 #[rv a, iv 1, iv 1, .unset, .unset, .unset, .unset, .unset, .unset] [(.int 1)])) _
        refine XS.aloadN X22.here hx rfl (hb hby own_d10_23) rfl rfl ?_
        show Steps p.tables e below (T22.setTop (mkF m 24 #[rv a, iv 1, iv 1, .unset, .unset, .unset, .unset, .unset, .unset] [(.ref a), (.int 1)])) _
        refine st23 _ ?_
        show Steps p.tables e below (T23.setTop (mkF m 27 #[rv a, iv 1, iv 1, .unset, .unset, .unset, .unset, .unset, .unset] [(.ref bo), (.int 1)])) _
        refine XS.iloadN X23.here hx rfl (hb hby own_d10_27) rfl ?_
        show Steps p.tables e below (T23.setTop (mkF m 28 #[rv a, iv 1, iv 1, .unset, .unset, .unset, .unset, .unset, .unset] [(.int 1), (.ref bo), (.int 1)])) _
        refine X23.aaload hx (j := (1 : Int32)) (v := (.ref o1)) (by rw [e23]; exact c24A.1) (State.isArrayOf_alike hZ.alike c24A.2.1) rfl c24A.2.2 c24in c24at (g := (mkF m 28 #[rv a, iv 1, iv 1, .unset, .unset, .unset, .unset, .unset, .unset] [(.int 1), (.ref bo), (.int 1)])) rfl rfl (hb hby own_d10_28) _ ?_
        show Steps p.tables e below (T23.setTop (mkF m 29 #[rv a, iv 1, iv 1, .unset, .unset, .unset, .unset, .unset, .unset] [(.ref o1), (.int 1)])) _
        refine st25 _ ?_
        show Steps p.tables e below (T25.setTop (mkF m 32 #[rv a, iv 1, iv 1, .unset, .unset, .unset, .unset, .unset, .unset] [(.ref w_BACK_REFERENCE), (.ref o1), (.int 1)])) _
        refine Jvm.RoadKit.acmp (g := (mkF m 32 #[rv a, iv 1, iv 1, .unset, .unset, .unset, .unset, .unset, .unset] [(.ref w_BACK_REFERENCE), (.ref o1), (.int 1)])) X25 hx rfl rfl rfl (pc0 := 32) (pc' := 35) (same := true) rfl (hb hby own_d10_32) rfl (decide_eq_true (congrArg Value.ref ha26)) (by decide) (by decide) ?_
        show Steps p.tables e below (T25.setTop (mkF m 35 #[rv a, iv 1, iv 1, .unset, .unset, .unset, .unset, .unset, .unset] [(.int 1)])) _
        refine XS.iconst X25.here hx rfl (hb hby own_d10_35) ?_
        show Steps p.tables e below (T25.setTop (mkF m 36 #[rv a, iv 1, iv 1, .unset, .unset, .unset, .unset, .unset, .unset] [(.int 1), (.int 1)])) _
        refine XS.goto X25.here hx rfl (pc0 := 36) (pc' := 40) rfl (hb hby own_d10_36) (by decide) (by decide) ?_
        show Steps p.tables e below (T25.setTop (mkF m 40 #[rv a, iv 1, iv 1, .unset, .unset, .unset, .unset, .unset, .unset] [(.int 1), (.int 1)])) _
        refine XS.ior X25.here hx rfl (hb hby own_d10_40) rfl ?_
        show Steps p.tables e below (T25.setTop (mkF m 41 #[rv a, iv 1, iv 1, .unset, .unset, .unset, .unset, .unset, .unset] [(.int ((1 : Int32) ||| (1 : Int32)))])) _
        refine own_top (v' := (.int 1)) (congrArg Value.int (by decide)) ?_
        show Steps p.tables e below (T25.setTop (mkF m 41 #[rv a, iv 1, iv 1, .unset, .unset, .unset, .unset, .unset, .unset] [(.int 1)])) _
        refine XS.istoreN X25.here hx rfl (hb hby own_d10_41) rfl (l' := #[rv a, iv 1, iv 1, .unset, .unset, .unset, .unset, .unset, .unset]) rfl ?_
        show Steps p.tables e below (T25.setTop (mkF m 42 #[rv a, iv 1, iv 1, .unset, .unset, .unset, .unset, .unset, .unset] [])) _
        refine XS.iinc X25.here hx rfl (hb hby own_d10_42) rfl (l' := #[rv a, iv 1, .val (.int ((1 : Int32) + (1 : Int32))), .unset, .unset, .unset, .unset, .unset, .unset]) rfl ?_
        show Steps p.tables e below (T25.setTop (mkF m 45 #[rv a, iv 1, .val (.int ((1 : Int32) + (1 : Int32))), .unset, .unset, .unset, .unset, .unset, .unset] [])) _
        refine castTop (congrArg (fun zz : Int32 => (mkF m 45 #[rv a, iv 1, iv zz, .unset, .unset, .unset, .unset, .unset, .unset] [])) (by decide : ((1 : Int32) + (1 : Int32)) = (2 : Int32))) ?_
        show Steps p.tables e below (T25.setTop (mkF m 45 #[rv a, iv 1, iv 2, .unset, .unset, .unset, .unset, .unset, .unset] [])) _
        refine XS.goto X25.here hx rfl (pc0 := 45) (pc' := 14) rfl (hb hby own_d10_45) (by decide) (by decide) ?_
        show Steps p.tables e below (T25.setTop (mkF m 14 #[rv a, iv 1, iv 2, .unset, .unset, .unset, .unset, .unset, .unset] [])) _
        refine XS.iloadN X25.here hx rfl (hb hby own_d10_14) rfl ?_
        show Steps p.tables e below (T25.setTop (mkF m 15 #[rv a, iv 1, iv 2, .unset, .unset, .unset, .unset, .unset, .unset] [(.int 2)])) _
        refine XS.aloadN X25.here hx rfl (hb hby own_d10_15) rfl rfl ?_
        show Steps p.tables e below (T25.setTop (mkF m 16 #[rv a, iv 1, iv 2, .unset, .unset, .unset, .unset, .unset, .unset] [(.ref a), (.int 2)])) _
        refine st27 _ ?_
        show Steps p.tables e below (T27.setTop (mkF m 19 #[rv a, iv 1, iv 2, .unset, .unset, .unset, .unset, .unset, .unset] [(.int 3), (.int 2)])) _
        refine XS.icmpNo X27.here hx rfl (hb hby own_d10_19) rfl (tlt (by decide)).2.1 ?_
        show Steps p.tables e below (T27.setTop (mkF m 22 #[rv a, iv 1, iv 2, .unset, .unset, .unset, .unset, .unset, .unset] [])) _
        refine XS.iloadN X27.here hx rfl (hb hby own_d10_22) rfl ?_
        show Steps p.tables e below (T27.setTop (mkF m 23 #[rv a, iv 1, iv 2, .unset, .unset, .unset, .unset, .unset, .unset] [(.int 1)])) _
        refine XS.aloadN X27.here hx rfl (hb hby own_d10_23) rfl rfl ?_
        show Steps p.tables e below (T27.setTop (mkF m 24 #[rv a, iv 1, iv 2, .unset, .unset, .unset, .unset, .unset, .unset] [(.ref a), (.int 1)])) _
        refine st28 _ ?_
        show Steps p.tables e below (T28.setTop (mkF m 27 #[rv a, iv 1, iv 2, .unset, .unset, .unset, .unset, .unset, .unset] [(.ref bo), (.int 1)])) _
        refine XS.iloadN X28.here hx rfl (hb hby own_d10_27) rfl ?_
        show Steps p.tables e below (T28.setTop (mkF m 28 #[rv a, iv 1, iv 2, .unset, .unset, .unset, .unset, .unset, .unset] [(.int 2), (.ref bo), (.int 1)])) _
        refine X28.aaload hx (j := (2 : Int32)) (v := (.ref w_MATCH)) (by rw [e28]; exact c29A.1) (State.isArrayOf_alike hZ.alike c29A.2.1) rfl c29A.2.2 c29in c29at (g := (mkF m 28 #[rv a, iv 1, iv 2, .unset, .unset, .unset, .unset, .unset, .unset] [(.int 2), (.ref bo), (.int 1)])) rfl rfl (hb hby own_d10_28) _ ?_
        show Steps p.tables e below (T28.setTop (mkF m 29 #[rv a, iv 1, iv 2, .unset, .unset, .unset, .unset, .unset, .unset] [(.ref w_MATCH), (.int 1)])) _
        refine st30 _ ?_
        show Steps p.tables e below (T30.setTop (mkF m 32 #[rv a, iv 1, iv 2, .unset, .unset, .unset, .unset, .unset, .unset] [(.ref w_BACK_REFERENCE), (.ref w_MATCH), (.int 1)])) _
        refine Jvm.RoadKit.acmp (g := (mkF m 32 #[rv a, iv 1, iv 2, .unset, .unset, .unset, .unset, .unset, .unset] [(.ref w_BACK_REFERENCE), (.ref w_MATCH), (.int 1)])) X30 hx rfl rfl rfl (pc0 := 32) (pc' := 39) (same := false) rfl (hb hby own_d10_32) rfl (decide_eq_false fun q => (Ne.symm (Fld.ne U_BACK_REFERENCE.2.2 U_MATCH.2.2 (by decide))) (Value.ref.inj q)) (by decide) (by decide) ?_
        show Steps p.tables e below (T30.setTop (mkF m 39 #[rv a, iv 1, iv 2, .unset, .unset, .unset, .unset, .unset, .unset] [(.int 1)])) _
        refine XS.iconst X30.here hx rfl (hb hby own_d10_39) ?_
        show Steps p.tables e below (T30.setTop (mkF m 40 #[rv a, iv 1, iv 2, .unset, .unset, .unset, .unset, .unset, .unset] [(.int 0), (.int 1)])) _
        refine XS.ior X30.here hx rfl (hb hby own_d10_40) rfl ?_
        show Steps p.tables e below (T30.setTop (mkF m 41 #[rv a, iv 1, iv 2, .unset, .unset, .unset, .unset, .unset, .unset] [(.int ((1 : Int32) ||| (0 : Int32)))])) _
        refine own_top (v' := (.int 1)) (congrArg Value.int (by decide)) ?_
        show Steps p.tables e below (T30.setTop (mkF m 41 #[rv a, iv 1, iv 2, .unset, .unset, .unset, .unset, .unset, .unset] [(.int 1)])) _
        refine XS.istoreN X30.here hx rfl (hb hby own_d10_41) rfl (l' := #[rv a, iv 1, iv 2, .unset, .unset, .unset, .unset, .unset, .unset]) rfl ?_
        show Steps p.tables e below (T30.setTop (mkF m 42 #[rv a, iv 1, iv 2, .unset, .unset, .unset, .unset, .unset, .unset] [])) _
        refine XS.iinc X30.here hx rfl (hb hby own_d10_42) rfl (l' := #[rv a, iv 1, .val (.int ((2 : Int32) + (1 : Int32))), .unset, .unset, .unset, .unset, .unset, .unset]) rfl ?_
        show Steps p.tables e below (T30.setTop (mkF m 45 #[rv a, iv 1, .val (.int ((2 : Int32) + (1 : Int32))), .unset, .unset, .unset, .unset, .unset, .unset] [])) _
        refine castTop (congrArg (fun zz : Int32 => (mkF m 45 #[rv a, iv 1, iv zz, .unset, .unset, .unset, .unset, .unset, .unset] [])) (by decide : ((2 : Int32) + (1 : Int32)) = (3 : Int32))) ?_
        show Steps p.tables e below (T30.setTop (mkF m 45 #[rv a, iv 1, iv 3, .unset, .unset, .unset, .unset, .unset, .unset] [])) _
        refine XS.goto X30.here hx rfl (pc0 := 45) (pc' := 14) rfl (hb hby own_d10_45) (by decide) (by decide) ?_
        show Steps p.tables e below (T30.setTop (mkF m 14 #[rv a, iv 1, iv 3, .unset, .unset, .unset, .unset, .unset, .unset] [])) _
        refine XS.iloadN X30.here hx rfl (hb hby own_d10_14) rfl ?_
        show Steps p.tables e below (T30.setTop (mkF m 15 #[rv a, iv 1, iv 3, .unset, .unset, .unset, .unset, .unset, .unset] [(.int 3)])) _
        refine XS.aloadN X30.here hx rfl (hb hby own_d10_15) rfl rfl ?_
        show Steps p.tables e below (T30.setTop (mkF m 16 #[rv a, iv 1, iv 3, .unset, .unset, .unset, .unset, .unset, .unset] [(.ref a), (.int 3)])) _
        refine st31 _ ?_
        show Steps p.tables e below (T31.setTop (mkF m 19 #[rv a, iv 1, iv 3, .unset, .unset, .unset, .unset, .unset, .unset] [(.int 3), (.int 3)])) _
        refine XS.icmpYes X31.here hx rfl (pc0 := 19) (pc' := 48) rfl (hb hby own_d10_19) rfl (flt (by decide)).2.1 (by decide) (by decide) ?_
        show Steps p.tables e below (T31.setTop (mkF m 48 #[rv a, iv 1, iv 3, .unset, .unset, .unset, .unset, .unset, .unset] [])) _
        exact kt
      · obtain ⟨T32, X32, e32, st32⟩ := getF X25 hx hZ hown (host := "") (Or.inl (hw _ (own_m 67 rfl))) Via.refl e25 q12 (g := (mkF m 16 #[rv a, iv 1, iv 2, .unset, .unset, .unset, .unset, .unset, .unset] [(.ref a), (.int 2)])) rfl rfl (hb hby own_d10_16)
        obtain ⟨T33, X33, e33, st33⟩ := getF X32 hx hZ hown (host := "") (Or.inl (hw _ (own_m 22 rfl))) Via.refl e32 q7 (g := (mkF m 24 #[rv a, iv 1, iv 2, .unset, .unset, .unset, .unset, .unset, .unset] [(.ref a), (.int 1)])) rfl rfl (hb hby own_d10_24)
        obtain ⟨c34, c34A, c34q, c34S, c34N, c34H, c34G⟩ := id q3
        have c34in : ¬ ((2 : Int32) < 0 ∨ c34.slots.size ≤ ((2 : Int32)).toNatClampNeg) := inb_of c34S ⟨by decide, by decide⟩
        have c34at : c34.slots[((2 : Int32)).toNatClampNeg]? = some (.ref w_MATCH) := Has.at c34H c34in rfl
        obtain ⟨T35, X35, e35, st35⟩ := getS2 X33 hx hZ hown (host := "") (Or.inl (hw _ (own_m 85 rfl))) Via.refl e33 (U_BACK_REFERENCE.1.ext O14.2) (g := (mkF m 29 #[rv a, iv 1, iv 2, .unset, .unset, .unset, .unset, .unset, .unset] [(.ref w_MATCH), (.int 1)])) rfl (hb hby own_d10_29)
        obtain ⟨T36, X36, e36, st36⟩ := getF X35 hx hZ hown (host := "") (Or.inl (hw _ (own_m 67 rfl))) Via.refl e35 q12 (g := (mkF m 16 #[rv a, iv 1, iv 3, .unset, .unset, .unset, .unset, .unset, .unset] [(.ref a), (.int 3)])) rfl rfl (hb hby own_d10_16)
        refine ⟨(1 : Int32), T36, _, Or.inr rfl, X36, N2, e36, fun target kt => ?_⟩
        show Steps p.tables e below (T2.setTop (mkF m 12 #[rv a, iv 0, .unset, .unset, .unset, .unset, .unset, .unset, .unset] [])) _
        refine XS.iconst X2.here hx rfl (hb hby own_d10_12) ?_
        show Steps p.tables e below (T2.setTop (mkF m 13 #[rv a, iv 0, .unset, .unset, .unset, .unset, .unset, .unset, .unset] [(.int 0)])) _
        refine XS.istoreN X2.here hx rfl (hb hby own_d10_13) rfl (l' := #[rv a, iv 0, iv 0, .unset, .unset, .unset, .unset, .unset, .unset]) rfl ?_
        show Steps p.tables e below (T2.setTop (mkF m 14 #[rv a, iv 0, iv 0, .unset, .unset, .unset, .unset, .unset, .unset] [])) _
        refine XS.iloadN X2.here hx rfl (hb hby own_d10_14) rfl ?_
        show Steps p.tables e below (T2.setTop (mkF m 15 #[rv a, iv 0, iv 0, .unset, .unset, .unset, .unset, .unset, .unset] [(.int 0)])) _
        refine XS.aloadN X2.here hx rfl (hb hby own_d10_15) rfl rfl ?_
        show Steps p.tables e below (T2.setTop (mkF m 16 #[rv a, iv 0, iv 0, .unset, .unset, .unset, .unset, .unset, .unset] [(.ref a), (.int 0)])) _
        refine st17 _ ?_
        show Steps p.tables e below (T17.setTop (mkF m 19 #[rv a, iv 0, iv 0, .unset, .unset, .unset, .unset, .unset, .unset] [(.int 3), (.int 0)])) _
        refine XS.icmpNo X17.here hx rfl (hb hby own_d10_19) rfl (tlt (by decide)).2.1 ?_
        show Steps p.tables e below (T17.setTop (mkF m 22 #[rv a, iv 0, iv 0, .unset, .unset, .unset, .unset, .unset, .unset] [])) _
        refine XS.iloadN X17.here hx rfl (hb hby own_d10_22) rfl ?_
        show Steps p.tables e below (T17.setTop (mkF m 23 #[rv a, iv 0, iv 0, .unset, .unset, .unset, .unset, .unset, .unset] [(.int 0)])) _
        refine XS.aloadN X17.here hx rfl (hb hby own_d10_23) rfl rfl ?_
        show Steps p.tables e below (T17.setTop (mkF m 24 #[rv a, iv 0, iv 0, .unset, .unset, .unset, .unset, .unset, .unset] [(.ref a), (.int 0)])) _
        refine st18 _ ?_
        show Steps p.tables e below (T18.setTop (mkF m 27 #[rv a, iv 0, iv 0, .unset, .unset, .unset, .unset, .unset, .unset] [(.ref bo), (.int 0)])) _
        refine XS.iloadN X18.here hx rfl (hb hby own_d10_27) rfl ?_
        show Steps p.tables e below (T18.setTop (mkF m 28 #[rv a, iv 0, iv 0, .unset, .unset, .unset, .unset, .unset, .unset] [(.int 0), (.ref bo), (.int 0)])) _
        refine X18.aaload hx (j := (0 : Int32)) (v := (.ref o0)) (by rw [e18]; exact c19A.1) (State.isArrayOf_alike hZ.alike c19A.2.1) rfl c19A.2.2 c19in c19at (g := (mkF m 28 #[rv a, iv 0, iv 0, .unset, .unset, .unset, .unset, .unset, .unset] [(.int 0), (.ref bo), (.int 0)])) rfl rfl (hb hby own_d10_28) _ ?_
        show Steps p.tables e below (T18.setTop (mkF m 29 #[rv a, iv 0, iv 0, .unset, .unset, .unset, .unset, .unset, .unset] [(.ref o0), (.int 0)])) _
        refine st20 _ ?_
        show Steps p.tables e below (T20.setTop (mkF m 32 #[rv a, iv 0, iv 0, .unset, .unset, .unset, .unset, .unset, .unset] [(.ref w_BACK_REFERENCE), (.ref o0), (.int 0)])) _
        refine Jvm.RoadKit.acmp (g := (mkF m 32 #[rv a, iv 0, iv 0, .unset, .unset, .unset, .unset, .unset, .unset] [(.ref w_BACK_REFERENCE), (.ref o0), (.int 0)])) X20 hx rfl rfl rfl (pc0 := 32) (pc' := 35) (same := true) rfl (hb hby own_d10_32) rfl (decide_eq_true (congrArg Value.ref ha21)) (by decide) (by decide) ?_
        show Steps p.tables e below (T20.setTop (mkF m 35 #[rv a, iv 0, iv 0, .unset, .unset, .unset, .unset, .unset, .unset] [(.int 0)])) _
        refine XS.iconst X20.here hx rfl (hb hby own_d10_35) ?_
        show Steps p.tables e below (T20.setTop (mkF m 36 #[rv a, iv 0, iv 0, .unset, .unset, .unset, .unset, .unset, .unset] [(.int 1), (.int 0)])) _
        refine XS.goto X20.here hx rfl (pc0 := 36) (pc' := 40) rfl (hb hby own_d10_36) (by decide) (by decide) ?_
        show Steps p.tables e below (T20.setTop (mkF m 40 #[rv a, iv 0, iv 0, .unset, .unset, .unset, .unset, .unset, .unset] [(.int 1), (.int 0)])) _
        refine XS.ior X20.here hx rfl (hb hby own_d10_40) rfl ?_
        show Steps p.tables e below (T20.setTop (mkF m 41 #[rv a, iv 0, iv 0, .unset, .unset, .unset, .unset, .unset, .unset] [(.int ((0 : Int32) ||| (1 : Int32)))])) _
        refine own_top (v' := (.int 1)) (congrArg Value.int (by decide)) ?_
        show Steps p.tables e below (T20.setTop (mkF m 41 #[rv a, iv 0, iv 0, .unset, .unset, .unset, .unset, .unset, .unset] [(.int 1)])) _
        refine XS.istoreN X20.here hx rfl (hb hby own_d10_41) rfl (l' := #[rv a, iv 1, iv 0, .unset, .unset, .unset, .unset, .unset, .unset]) rfl ?_
        show Steps p.tables e below (T20.setTop (mkF m 42 #[rv a, iv 1, iv 0, .unset, .unset, .unset, .unset, .unset, .unset] [])) _
        refine XS.iinc X20.here hx rfl (hb hby own_d10_42) rfl (l' := #[rv a, iv 1, .val (.int ((0 : Int32) + (1 : Int32))), .unset, .unset, .unset, .unset, .unset, .unset]) rfl ?_
        show Steps p.tables e below (T20.setTop (mkF m 45 #[rv a, iv 1, .val (.int ((0 : Int32) + (1 : Int32))), .unset, .unset, .unset, .unset, .unset, .unset] [])) _
        refine castTop (congrArg (fun zz : Int32 => (mkF m 45 #[rv a, iv 1, iv zz, .unset, .unset, .unset, .unset, .unset, .unset] [])) (by decide : ((0 : Int32) + (1 : Int32)) = (1 : Int32))) ?_
        show Steps p.tables e below (T20.setTop (mkF m 45 #[rv a, iv 1, iv 1, .unset, .unset, .unset, .unset, .unset, .unset] [])) _
        refine XS.goto X20.here hx rfl (pc0 := 45) (pc' := 14) rfl (hb hby own_d10_45) (by decide) (by decide) ?_
        show Steps p.tables e below (T20.setTop (mkF m 14 #[rv a, iv 1, iv 1, .unset, .unset, .unset, .unset, .unset, .unset] [])) _
        refine XS.iloadN X20.here hx rfl (hb hby own_d10_14) rfl ?_
        show Steps p.tables e below (T20.setTop (mkF m 15 #[rv a, iv 1, iv 1, .unset, .unset, .unset, .unset, .unset, .unset] [(.int 1)])) _
        refine XS.aloadN X20.here hx rfl (hb hby own_d10_15) rfl rfl ?_
        show Steps p.tables e below (T20.setTop (mkF m 16 #[rv a, iv 1, iv 1, .unset, .unset, .unset, .unset, .unset, .unset] [(.ref a), (.int 1)])) _
        refine st22 _ ?_
        show Steps p.tables e below (T22.setTop (mkF m 19 #[rv a, iv 1, iv 1, .unset, .unset, .unset, .unset, .unset, .unset] [(.int 3), (.int 1)])) _
        refine XS.icmpNo X22.here hx rfl (hb hby own_d10_19) rfl (tlt (by decide)).2.1 ?_
        show Steps p.tables e below (T22.setTop (mkF m 22 #[rv a, iv 1, iv 1, .unset, .unset, .unset, .unset, .unset, .unset] [])) _
        refine XS.iloadN X22.here hx rfl (hb hby own_d10_22) rfl ?_
        show Steps p.tables e below (T22.setTop (mkF m 23 #[rv a, iv 1, iv 1, .unset, .unset, .unset, .unset, .unset, .unset] [(.int 1)])) _
        refine XS.aloadN X22.here hx rfl (hb hby own_d10_23) rfl rfl ?_
        show Steps p.tables e below (T22.setTop (mkF m 24 #[rv a, iv 1, iv 1, .unset, .unset, .unset, .unset, .unset, .unset] [(.ref a), (.int 1)])) _
        refine st23 _ ?_
        show Steps p.tables e below (T23.setTop (mkF m 27 #[rv a, iv 1, iv 1, .unset, .unset, .unset, .unset, .unset, .unset] [(.ref bo), (.int 1)])) _
        refine XS.iloadN X23.here hx rfl (hb hby own_d10_27) rfl ?_
        show Steps p.tables e below (T23.setTop (mkF m 28 #[rv a, iv 1, iv 1, .unset, .unset, .unset, .unset, .unset, .unset] [(.int 1), (.ref bo), (.int 1)])) _
        refine X23.aaload hx (j := (1 : Int32)) (v := (.ref o1)) (by rw [e23]; exact c24A.1) (State.isArrayOf_alike hZ.alike c24A.2.1) rfl c24A.2.2 c24in c24at (g := (mkF m 28 #[rv a, iv 1, iv 1, .unset, .unset, .unset, .unset, .unset, .unset] [(.int 1), (.ref bo), (.int 1)])) rfl rfl (hb hby own_d10_28) _ ?_
        show Steps p.tables e below (T23.setTop (mkF m 29 #[rv a, iv 1, iv 1, .unset, .unset, .unset, .unset, .unset, .unset] [(.ref o1), (.int 1)])) _
        refine st25 _ ?_
        show Steps p.tables e below (T25.setTop (mkF m 32 #[rv a, iv 1, iv 1, .unset, .unset, .unset, .unset, .unset, .unset] [(.ref w_BACK_REFERENCE), (.ref o1), (.int 1)])) _
        refine Jvm.RoadKit.acmp (g := (mkF m 32 #[rv a, iv 1, iv 1, .unset, .unset, .unset, .unset, .unset, .unset] [(.ref w_BACK_REFERENCE), (.ref o1), (.int 1)])) X25 hx rfl rfl rfl (pc0 := 32) (pc' := 39) (same := false) rfl (hb hby own_d10_32) rfl (decide_eq_false fun q => ha26 (Value.ref.inj q)) (by decide) (by decide) ?_
        show Steps p.tables e below (T25.setTop (mkF m 39 #[rv a, iv 1, iv 1, .unset, .unset, .unset, .unset, .unset, .unset] [(.int 1)])) _
        refine XS.iconst X25.here hx rfl (hb hby own_d10_39) ?_
        show Steps p.tables e below (T25.setTop (mkF m 40 #[rv a, iv 1, iv 1, .unset, .unset, .unset, .unset, .unset, .unset] [(.int 0), (.int 1)])) _
        refine XS.ior X25.here hx rfl (hb hby own_d10_40) rfl ?_
        show Steps p.tables e below (T25.setTop (mkF m 41 #[rv a, iv 1, iv 1, .unset, .unset, .unset, .unset, .unset, .unset] [(.int ((1 : Int32) ||| (0 : Int32)))])) _
        refine own_top (v' := (.int 1)) (congrArg Value.int (by decide)) ?_
        show Steps p.tables e below (T25.setTop (mkF m 41 #[rv a, iv 1, iv 1, .unset, .unset, .unset, .unset, .unset, .unset] [(.int 1)])) _
        refine XS.istoreN X25.here hx rfl (hb hby own_d10_41) rfl (l' := #[rv a, iv 1, iv 1, .unset, .unset, .unset, .unset, .unset, .unset]) rfl ?_
        show Steps p.tables e below (T25.setTop (mkF m 42 #[rv a, iv 1, iv 1, .unset, .unset, .unset, .unset, .unset, .unset] [])) _
        refine XS.iinc X25.here hx rfl (hb hby own_d10_42) rfl (l' := #[rv a, iv 1, .val (.int ((1 : Int32) + (1 : Int32))), .unset, .unset, .unset, .unset, .unset, .unset]) rfl ?_
        show Steps p.tables e below (T25.setTop (mkF m 45 #[rv a, iv 1, .val (.int ((1 : Int32) + (1 : Int32))), .unset, .unset, .unset, .unset, .unset, .unset] [])) _
        refine castTop (congrArg (fun zz : Int32 => (mkF m 45 #[rv a, iv 1, iv zz, .unset, .unset, .unset, .unset, .unset, .unset] [])) (by decide : ((1 : Int32) + (1 : Int32)) = (2 : Int32))) ?_
        show Steps p.tables e below (T25.setTop (mkF m 45 #[rv a, iv 1, iv 2, .unset, .unset, .unset, .unset, .unset, .unset] [])) _
        refine XS.goto X25.here hx rfl (pc0 := 45) (pc' := 14) rfl (hb hby own_d10_45) (by decide) (by decide) ?_
        show Steps p.tables e below (T25.setTop (mkF m 14 #[rv a, iv 1, iv 2, .unset, .unset, .unset, .unset, .unset, .unset] [])) _
        refine XS.iloadN X25.here hx rfl (hb hby own_d10_14) rfl ?_
        show Steps p.tables e below (T25.setTop (mkF m 15 #[rv a, iv 1, iv 2, .unset, .unset, .unset, .unset, .unset, .unset] [(.int 2)])) _
        refine XS.aloadN X25.here hx rfl (hb hby own_d10_15) rfl rfl ?_
        show Steps p.tables e below (T25.setTop (mkF m 16 #[rv a, iv 1, iv 2, .unset, .unset, .unset, .unset, .unset, .unset] [(.ref a), (.int 2)])) _
        refine st32 _ ?_
        show Steps p.tables e below (T32.setTop (mkF m 19 #[rv a, iv 1, iv 2, .unset, .unset, .unset, .unset, .unset, .unset] [(.int 3), (.int 2)])) _
        refine XS.icmpNo X32.here hx rfl (hb hby own_d10_19) rfl (tlt (by decide)).2.1 ?_
        show Steps p.tables e below (T32.setTop (mkF m 22 #[rv a, iv 1, iv 2, .unset, .unset, .unset, .unset, .unset, .unset] [])) _
        refine XS.iloadN X32.here hx rfl (hb hby own_d10_22) rfl ?_
        show Steps p.tables e below (T32.setTop (mkF m 23 #[rv a, iv 1, iv 2, .unset, .unset, .unset, .unset, .unset, .unset] [(.int 1)])) _
        refine XS.aloadN X32.here hx rfl (hb hby own_d10_23) rfl rfl ?_
        show Steps p.tables e below (T32.setTop (mkF m 24 #[rv a, iv 1, iv 2, .unset, .unset, .unset, .unset, .unset, .unset] [(.ref a), (.int 1)])) _
        refine st33 _ ?_
        show Steps p.tables e below (T33.setTop (mkF m 27 #[rv a, iv 1, iv 2, .unset, .unset, .unset, .unset, .unset, .unset] [(.ref bo), (.int 1)])) _
        refine XS.iloadN X33.here hx rfl (hb hby own_d10_27) rfl ?_
        show Steps p.tables e below (T33.setTop (mkF m 28 #[rv a, iv 1, iv 2, .unset, .unset, .unset, .unset, .unset, .unset] [(.int 2), (.ref bo), (.int 1)])) _
        refine X33.aaload hx (j := (2 : Int32)) (v := (.ref w_MATCH)) (by rw [e33]; exact c34A.1) (State.isArrayOf_alike hZ.alike c34A.2.1) rfl c34A.2.2 c34in c34at (g := (mkF m 28 #[rv a, iv 1, iv 2, .unset, .unset, .unset, .unset, .unset, .unset] [(.int 2), (.ref bo), (.int 1)])) rfl rfl (hb hby own_d10_28) _ ?_
        show Steps p.tables e below (T33.setTop (mkF m 29 #[rv a, iv 1, iv 2, .unset, .unset, .unset, .unset, .unset, .unset] [(.ref w_MATCH), (.int 1)])) _
        refine st35 _ ?_
        show Steps p.tables e below (T35.setTop (mkF m 32 #[rv a, iv 1, iv 2, .unset, .unset, .unset, .unset, .unset, .unset] [(.ref w_BACK_REFERENCE), (.ref w_MATCH), (.int 1)])) _
        refine Jvm.RoadKit.acmp (g := (mkF m 32 #[rv a, iv 1, iv 2, .unset, .unset, .unset, .unset, .unset, .unset] [(.ref w_BACK_REFERENCE), (.ref w_MATCH), (.int 1)])) X35 hx rfl rfl rfl (pc0 := 32) (pc' := 39) (same := false) rfl (hb hby own_d10_32) rfl (decide_eq_false fun q => (Ne.symm (Fld.ne U_BACK_REFERENCE.2.2 U_MATCH.2.2 (by decide))) (Value.ref.inj q)) (by decide) (by decide) ?_
        show Steps p.tables e below (T35.setTop (mkF m 39 #[rv a, iv 1, iv 2, .unset, .unset, .unset, .unset, .unset, .unset] [(.int 1)])) _
        refine XS.iconst X35.here hx rfl (hb hby own_d10_39) ?_
        show Steps p.tables e below (T35.setTop (mkF m 40 #[rv a, iv 1, iv 2, .unset, .unset, .unset, .unset, .unset, .unset] [(.int 0), (.int 1)])) _
        refine XS.ior X35.here hx rfl (hb hby own_d10_40) rfl ?_
        show Steps p.tables e below (T35.setTop (mkF m 41 #[rv a, iv 1, iv 2, .unset, .unset, .unset, .unset, .unset, .unset] [(.int ((1 : Int32) ||| (0 : Int32)))])) _
        refine own_top (v' := (.int 1)) (congrArg Value.int (by decide)) ?_
        show Steps p.tables e below (T35.setTop (mkF m 41 #[rv a, iv 1, iv 2, .unset, .unset, .unset, .unset, .unset, .unset] [(.int 1)])) _
        refine XS.istoreN X35.here hx rfl (hb hby own_d10_41) rfl (l' := #[rv a, iv 1, iv 2, .unset, .unset, .unset, .unset, .unset, .unset]) rfl ?_
        show Steps p.tables e below (T35.setTop (mkF m 42 #[rv a, iv 1, iv 2, .unset, .unset, .unset, .unset, .unset, .unset] [])) _
        refine XS.iinc X35.here hx rfl (hb hby own_d10_42) rfl (l' := #[rv a, iv 1, .val (.int ((2 : Int32) + (1 : Int32))), .unset, .unset, .unset, .unset, .unset, .unset]) rfl ?_
        show Steps p.tables e below (T35.setTop (mkF m 45 #[rv a, iv 1, .val (.int ((2 : Int32) + (1 : Int32))), .unset, .unset, .unset, .unset, .unset, .unset] [])) _
        refine castTop (congrArg (fun zz : Int32 => (mkF m 45 #[rv a, iv 1, iv zz, .unset, .unset, .unset, .unset, .unset, .unset] [])) (by decide : ((2 : Int32) + (1 : Int32)) = (3 : Int32))) ?_
        show Steps p.tables e below (T35.setTop (mkF m 45 #[rv a, iv 1, iv 3, .unset, .unset, .unset, .unset, .unset, .unset] [])) _
        refine XS.goto X35.here hx rfl (pc0 := 45) (pc' := 14) rfl (hb hby own_d10_45) (by decide) (by decide) ?_
        show Steps p.tables e below (T35.setTop (mkF m 14 #[rv a, iv 1, iv 3, .unset, .unset, .unset, .unset, .unset, .unset] [])) _
        refine XS.iloadN X35.here hx rfl (hb hby own_d10_14) rfl ?_
        show Steps p.tables e below (T35.setTop (mkF m 15 #[rv a, iv 1, iv 3, .unset, .unset, .unset, .unset, .unset, .unset] [(.int 3)])) _
        refine XS.aloadN X35.here hx rfl (hb hby own_d10_15) rfl rfl ?_
        show Steps p.tables e below (T35.setTop (mkF m 16 #[rv a, iv 1, iv 3, .unset, .unset, .unset, .unset, .unset, .unset] [(.ref a), (.int 3)])) _
        refine st36 _ ?_
        show Steps p.tables e below (T36.setTop (mkF m 19 #[rv a, iv 1, iv 3, .unset, .unset, .unset, .unset, .unset, .unset] [(.int 3), (.int 3)])) _
        refine XS.icmpYes X36.here hx rfl (pc0 := 19) (pc' := 48) rfl (hb hby own_d10_19) rfl (flt (by decide)).2.1 (by decide) (by decide) ?_
        show Steps p.tables e below (T36.setTop (mkF m 48 #[rv a, iv 1, iv 3, .unset, .unset, .unset, .unset, .unset, .unset] [])) _
        exact kt
    · obtain ⟨T37, X37, e37, st37⟩ := getF X20 hx hZ hown (host := "") (Or.inl (hw _ (own_m 67 rfl))) Via.refl e20 q12 (g := (mkF m 16 #[rv a, iv 0, iv 1, .unset, .unset, .unset, .unset, .unset, .unset] [(.ref a), (.int 1)])) rfl rfl (hb hby own_d10_16)
      obtain ⟨T38, X38, e38, st38⟩ := getF X37 hx hZ hown (host := "") (Or.inl (hw _ (own_m 22 rfl))) Via.refl e37 q7 (g := (mkF m 24 #[rv a, iv 0, iv 1, .unset, .unset, .unset, .unset, .unset, .unset] [(.ref a), (.int 0)])) rfl rfl (hb hby own_d10_24)
      obtain ⟨c39, c39A, c39q, c39S, c39N, c39H, c39G⟩ := id q3
      have c39in : ¬ ((1 : Int32) < 0 ∨ c39.slots.size ≤ ((1 : Int32)).toNatClampNeg) := inb_of c39S ⟨by decide, by decide⟩
      have c39at : c39.slots[((1 : Int32)).toNatClampNeg]? = some (.ref o1) := Has.at c39H c39in rfl
      obtain ⟨T40, X40, e40, st40⟩ := getS2 X38 hx hZ hown (host := "") (Or.inl (hw _ (own_m 85 rfl))) Via.refl e38 (U_BACK_REFERENCE.1.ext O14.2) (g := (mkF m 29 #[rv a, iv 0, iv 1, .unset, .unset, .unset, .unset, .unset, .unset] [(.ref o1), (.int 0)])) rfl (hb hby own_d10_29)
      by_cases ha41 : o1 = w_BACK_REFERENCE
      · obtain ⟨T42, X42, e42, st42⟩ := getF X40 hx hZ hown (host := "") (Or.inl (hw _ (own_m 67 rfl))) Via.refl e40 q12 (g := (mkF m 16 #[rv a, iv 1, iv 2, .unset, .unset, .unset, .unset, .unset, .unset] [(.ref a), (.int 2)])) rfl rfl (hb hby own_d10_16)
        obtain ⟨T43, X43, e43, st43⟩ := getF X42 hx hZ hown (host := "") (Or.inl (hw _ (own_m 22 rfl))) Via.refl e42 q7 (g := (mkF m 24 #[rv a, iv 1, iv 2, .unset, .unset, .unset, .unset, .unset, .unset] [(.ref a), (.int 1)])) rfl rfl (hb hby own_d10_24)
        obtain ⟨c44, c44A, c44q, c44S, c44N, c44H, c44G⟩ := id q3
        have c44in : ¬ ((2 : Int32) < 0 ∨ c44.slots.size ≤ ((2 : Int32)).toNatClampNeg) := inb_of c44S ⟨by decide, by decide⟩
        have c44at : c44.slots[((2 : Int32)).toNatClampNeg]? = some (.ref w_MATCH) := Has.at c44H c44in rfl
        obtain ⟨T45, X45, e45, st45⟩ := getS2 X43 hx hZ hown (host := "") (Or.inl (hw _ (own_m 85 rfl))) Via.refl e43 (U_BACK_REFERENCE.1.ext O14.2) (g := (mkF m 29 #[rv a, iv 1, iv 2, .unset, .unset, .unset, .unset, .unset, .unset] [(.ref w_MATCH), (.int 1)])) rfl (hb hby own_d10_29)
        obtain ⟨T46, X46, e46, st46⟩ := getF X45 hx hZ hown (host := "") (Or.inl (hw _ (own_m 67 rfl))) Via.refl e45 q12 (g := (mkF m 16 #[rv a, iv 1, iv 3, .unset, .unset, .unset, .unset, .unset, .unset] [(.ref a), (.int 3)])) rfl rfl (hb hby own_d10_16)
        refine ⟨(1 : Int32), T46, _, Or.inr rfl, X46, N2, e46, fun target kt => ?_⟩
        show Steps p.tables e below (T2.setTop (mkF m 12 #[rv a, iv 0, .unset, .unset, .unset, .unset, .unset, .unset, .unset] [])) _
        refine XS.iconst X2.here hx rfl (hb hby own_d10_12) ?_
        show Steps p.tables e below (T2.setTop (mkF m 13 #[rv a, iv 0, .unset, .unset, .unset, .unset, .unset, .unset, .unset] [(.int 0)])) _
        refine XS.istoreN X2.here hx rfl (hb hby own_d10_13) rfl (l' := #[rv a, iv 0, iv 0, .unset, .unset, .unset, .unset, .unset, .unset]) rfl ?_
        show Steps p.tables e below (T2.setTop (mkF m 14 #[rv a, iv 0, iv 0, .unset, .unset, .unset, .unset, .unset, .unset] [])) _
        refine XS.iloadN X2.here hx rfl (hb hby own_d10_14) rfl ?_
        show Steps p.tables e below (T2.setTop (mkF m 15 #[rv a, iv 0, iv 0, .unset, .unset, .unset, .unset, .unset, .unset] [(.int 0)])) _
        refine XS.aloadN X2.here hx rfl (hb hby own_d10_15) rfl rfl ?_
        show Steps p.tables e below (T2.setTop (mkF m 16 #[rv a, iv 0, iv 0, .unset, .unset, .unset, .unset, .unset, .unset] [(.ref a), (.int 0)])) _
        refine st17 _ ?_
        show Steps p.tables e below (T17.setTop (mkF m 19 #[rv a, iv 0, iv 0, .unset, .unset, .unset, .unset, .unset, .unset] [(.int 3), (.int 0)])) _
        refine XS.icmpNo X17.here hx rfl (hb hby own_d10_19) rfl (tlt (by decide)).2.1 ?_
        show Steps p.tables e below (T17.setTop (mkF m 22 #[rv a, iv 0, iv 0, .unset, .unset, .unset, .unset, .unset, .unset] [])) _
        refine XS.iloadN X17.here hx rfl (hb hby own_d10_22) rfl ?_
        show Steps p.tables e below (T17.setTop (mkF m 23 #[rv a, iv 0, iv 0, .unset, .unset, .unset, .unset, .unset, .unset] [(.int 0)])) _
        refine XS.aloadN X17.here hx rfl (hb hby own_d10_23) rfl rfl ?_
        show Steps p.tables e below (T17.setTop (mkF m 24 #[rv a, iv 0, iv 0, .unset, .unset, .unset, .unset, .unset, .unset] [(.ref a), (.int 0)])) _
        refine st18 _ ?_
        show Steps p.tables e below (T18.setTop (mkF m 27 #[rv a, iv 0, iv 0, .unset, .unset, .unset, .unset, .unset, .unset] [(.ref bo), (.int 0)])) _
        refine XS.iloadN X18.here hx rfl (hb hby own_d10_27) rfl ?_
        show Steps p.tables e below (T18.setTop (mkF m 28 #[rv a, iv 0, iv 0, .unset, .unset, .unset, .unset, .unset, .unset] [(.int 0), (.ref bo), (.int 0)])) _
        refine X18.aaload hx (j := (0 : Int32)) (v := (.ref o0)) (by rw [e18]; exact c19A.1) (State.isArrayOf_alike hZ.alike c19A.2.1) rfl c19A.2.2 c19in c19at (g := (mkF m 28 #[rv a, iv 0, iv 0, .unset, .unset, .unset, .unset, .unset, .unset] [(.int 0), (.ref bo), (.int 0)])) rfl rfl (hb hby own_d10_28) _ ?_
        show Steps p.tables e below (T18.setTop (mkF m 29 #[rv a, iv 0, iv 0, .unset, .unset, .unset, .unset, .unset, .unset] [(.ref o0), (.int 0)])) _
        refine st20 _ ?_
        show Steps p.tables e below (T20.setTop (mkF m 32 #[rv a, iv 0, iv 0, .unset, .unset, .unset, .unset, .unset, .unset] [(.ref w_BACK_REFERENCE), (.ref o0), (.int 0)])) _
        refine Jvm.RoadKit.acmp (g := (mkF m 32 #[rv a, iv 0, iv 0, .unset, .unset, .unset, .unset, .unset, .unset] [(.ref w_BACK_REFERENCE), (.ref o0), (.int 0)])) X20 hx rfl rfl rfl (pc0 := 32) (pc' := 39) (same := false) rfl (hb hby own_d10_32) rfl (decide_eq_false fun q => ha21 (Value.ref.inj q)) (by decide) (by decide) ?_
        show Steps p.tables e below (T20.setTop (mkF m 39 #[rv a, iv 0, iv 0, .unset, .unset, .unset, .unset, .unset, .unset] [(.int 0)])) _
        refine XS.iconst X20.here hx rfl (hb hby own_d10_39) ?_
        show Steps p.tables e below (T20.setTop (mkF m 40 #[rv a, iv 0, iv 0, .unset, .unset, .unset, .unset, .unset, .unset] [(.int 0), (.int 0)])) _
        refine XS.ior X20.here hx rfl (hb hby own_d10_40) rfl ?_
        show Steps p.tables e below (T20.setTop (mkF m 41 #[rv a, iv 0, iv 0, .unset, .unset, .unset, .unset, .unset, .unset] [(.int ((0 : Int32) ||| (0 : Int32)))])) _
        refine own_top (v' := (.int 0)) (congrArg Value.int (by decide)) ?_
        show Steps p.tables e below (T20.setTop (mkF m 41 #[rv a, iv 0, iv 0, .unset, .unset, .unset, .unset, .unset, .unset] [(.int 0)])) _
        refine XS.istoreN X20.here hx rfl (hb hby own_d10_41) rfl (l' := #[rv a, iv 0, iv 0, .unset, .unset, .unset, .unset, .unset, .unset]) rfl ?_
        show Steps p.tables e below (T20.setTop (mkF m 42 #[rv a, iv 0, iv 0, .unset, .unset, .unset, .unset, .unset, .unset] [])) _
        refine XS.iinc X20.here hx rfl (hb hby own_d10_42) rfl (l' := #[rv a, iv 0, .val (.int ((0 : Int32) + (1 : Int32))), .unset, .unset, .unset, .unset, .unset, .unset]) rfl ?_
        show Steps p.tables e below (T20.setTop (mkF m 45 #[rv a, iv 0, .val (.int ((0 : Int32) + (1 : Int32))), .unset, .unset, .unset, .unset, .unset, .unset] [])) _
        refine castTop (congrArg (fun zz : Int32 => (mkF m 45 #[rv a, iv 0, iv zz, .unset, .unset, .unset, .unset, .unset, .unset] [])) (by decide : ((0 : Int32) + (1 : Int32)) = (1 : Int32))) ?_
        show Steps p.tables e below (T20.setTop (mkF m 45 #[rv a, iv 0, iv 1, .unset, .unset, .unset, .unset, .unset, .unset] [])) _
        refine XS.goto X20.here hx rfl (pc0 := 45) (pc' := 14) rfl (hb hby own_d10_45) (by decide) (by decide) ?_
        show Steps p.tables e below (T20.setTop (mkF m 14 #[rv a, iv 0, iv 1, .unset, .unset, .unset, .unset, .unset, .unset] [])) _
        refine XS.iloadN X20.here hx rfl (hb hby own_d10_14) rfl ?_
        show Steps p.tables e below (T20.setTop (mkF m 15 #[rv a, iv 0, iv 1, .unset, .unset, .unset, .unset, .unset, .unset] [(.int 1)])) _
        refine XS.aloadN X20.here hx rfl (hb hby own_d10_15) rfl rfl ?_
        show Steps p.tables e below (T20.setTop (mkF m 16 #[rv a, iv 0, iv 1, .unset, .unset, .unset, .unset, .unset, .unset] [(.ref a), (.int 1)])) _
        refine st37 _ ?_
        show Steps p.tables e below (T37.setTop (mkF m 19 #[rv a, iv 0, iv 1, .unset, .unset, .unset, .unset, .unset, .unset] [(.int 3), (.int 1)])) _
        refine XS.icmpNo X37.here hx rfl (hb hby own_d10_19) rfl (tlt (by decide)).2.1 ?_
        show Steps p.tables e below (T37.setTop (mkF m 22 #[rv a, iv 0, iv 1, .unset, .unset, .unset, .unset, .unset, .unset] [])) _
        refine XS.iloadN X37.here hx rfl (hb hby own_d10_22) rfl ?_
        show Steps p.tables e below (T37.setTop (mkF m 23 #[rv a, iv 0, iv 1, .unset, .unset, .unset, .unset, .unset, .unset] [(.int 0)])) _
        refine XS.aloadN X37.here hx rfl (hb hby own_d10_23) rfl rfl ?_
        show Steps p.tables e below (T37.setTop (mkF m 24 #[rv a, iv 0, iv 1, .unset, .unset, .unset, .unset, .unset, .unset] [(.ref a), (.int 0)])) _
        refine st38 _ ?_
        show Steps p.tables e below (T38.setTop (mkF m 27 #[rv a, iv 0, iv 1, .unset, .unset, .unset, .unset, .unset, .unset] [(.ref bo), (.int 0)])) _
        refine XS.iloadN X38.here hx rfl (hb hby own_d10_27) rfl ?_
        show Steps p.tables e below (T38.setTop (mkF m 28 #[rv a, iv 0, iv 1, .unset, .unset, .unset, .unset, .unset, .unset] [(.int 1), (.ref bo), (.int 0)])) _
        refine X38.aaload hx (j := (1 : Int32)) (v := (.ref o1)) (by rw [e38]; exact c39A.1) (State.isArrayOf_alike hZ.alike c39A.2.1) rfl c39A.2.2 c39in c39at (g := (mkF m 28 #[rv a, iv 0, iv 1, .unset, .unset, .unset, .unset, .unset, .unset] [(.int 1), (.ref bo), (.int 0)])) rfl rfl (hb hby own_d10_28) _ ?_
        show Steps p.tables e below (T38.setTop (mkF m 29 #[rv a, iv 0, iv 1, .unset, .unset, .unset, .unset, .unset, .unset] [(.ref o1), (.int 0)])) _
        refine st40 _ ?_
        show Steps p.tables e below (T40.setTop (mkF m 32 #[rv a, iv 0, iv 1, .unset, .unset, .unset, .unset, .unset, .unset] [(.ref w_BACK_REFERENCE), (.ref o1), (.int 0)])) _
        refine Jvm.RoadKit.acmp (g := (mkF m 32 #[rv a, iv 0, iv 1, .unset, .unset, .unset, .unset, .unset, .unset] [(.ref w_BACK_REFERENCE), (.ref o1), (.int 0)])) X40 hx rfl rfl rfl (pc0 := 32) (pc' := 35) (same := true) rfl (hb hby own_d10_32) rfl (decide_eq_true (congrArg Value.ref ha41)) (by decide) (by decide) ?_
        show Steps p.tables e below (T40.setTop (mkF m 35 #[rv a, iv 0, iv 1, .unset, .unset, .unset, .unset, .unset, .unset] [(.int 0)])) _
        refine XS.iconst X40.here hx rfl (hb hby own_d10_35) ?_
        show Steps p.tables e below (T40.setTop (mkF m 36 #[rv a, iv 0, iv 1, .unset, .unset, .unset, .unset, .unset, .unset] [(.int 1), (.int 0)])) _
        refine XS.goto X40.here hx rfl (pc0 := 36) (pc' := 40) rfl (hb hby own_d10_36) (by decide) (by decide) ?_
        show Steps p.tables e below (T40.setTop (mkF m 40 #[rv a, iv 0, iv 1, .unset, .unset, .unset, .unset, .unset, .unset] [(.int 1), (.int 0)])) _
        refine XS.ior X40.here hx rfl (hb hby own_d10_40) rfl ?_
        show Steps p.tables e below (T40.setTop (mkF m 41 #[rv a, iv 0, iv 1, .unset, .unset, .unset, .unset, .unset, .unset] [(.int ((0 : Int32) ||| (1 : Int32)))])) _
        refine own_top (v' := (.int 1)) (congrArg Value.int (by decide)) ?_
        show Steps p.tables e below (T40.setTop (mkF m 41 #[rv a, iv 0, iv 1, .unset, .unset, .unset, .unset, .unset, .unset] [(.int 1)])) _
        refine XS.istoreN X40.here hx rfl (hb hby own_d10_41) rfl (l' := #[rv a, iv 1, iv 1, .unset, .unset, .unset, .unset, .unset, .unset]) rfl ?_
        show Steps p.tables e below (T40.setTop (mkF m 42 #[rv a, iv 1, iv 1, .unset, .unset, .unset, .unset, .unset, .unset] [])) _
        refine XS.iinc X40.here hx rfl (hb hby own_d10_42) rfl (l' := #[rv a, iv 1, .val (.int ((1 : Int32) + (1 : Int32))), .unset, .unset, .unset, .unset, .unset, .unset]) rfl ?_
        show Steps p.tables e below (T40.setTop (mkF m 45 #[rv a, iv 1, .val (.int ((1 : Int32) + (1 : Int32))), .unset, .unset, .unset, .unset, .unset, .unset] [])) _
        refine castTop (congrArg (fun zz : Int32 => (mkF m 45 #[rv a, iv 1, iv zz, .unset, .unset, .unset, .unset, .unset, .unset] [])) (by decide : ((1 : Int32) + (1 : Int32)) = (2 : Int32))) ?_
        show Steps p.tables e below (T40.setTop (mkF m 45 #[rv a, iv 1, iv 2, .unset, .unset, .unset, .unset, .unset, .unset] [])) _
        refine XS.goto X40.here hx rfl (pc0 := 45) (pc' := 14) rfl (hb hby own_d10_45) (by decide) (by decide) ?_
        show Steps p.tables e below (T40.setTop (mkF m 14 #[rv a, iv 1, iv 2, .unset, .unset, .unset, .unset, .unset, .unset] [])) _
        refine XS.iloadN X40.here hx rfl (hb hby own_d10_14) rfl ?_
        show Steps p.tables e below (T40.setTop (mkF m 15 #[rv a, iv 1, iv 2, .unset, .unset, .unset, .unset, .unset, .unset] [(.int 2)])) _
        refine XS.aloadN X40.here hx rfl (hb hby own_d10_15) rfl rfl ?_
        show Steps p.tables e below (T40.setTop (mkF m 16 #[rv a, iv 1, iv 2, .unset, .unset, .unset, .unset, .unset, .unset] [(.ref a), (.int 2)])) _
        refine st42 _ ?_
        show Steps p.tables e below (T42.setTop (mkF m 19 #[rv a, iv 1, iv 2, .unset, .unset, .unset, .unset, .unset, .unset] [(.int 3), (.int 2)])) _
        refine XS.icmpNo X42.here hx rfl (hb hby own_d10_19) rfl (tlt (by decide)).2.1 ?_
        show Steps p.tables e below (T42.setTop (mkF m 22 #[rv a, iv 1, iv 2, .unset, .unset, .unset, .unset, .unset, .unset] [])) _
        refine XS.iloadN X42.here hx rfl (hb hby own_d10_22) rfl ?_
        show Steps p.tables e below (T42.setTop (mkF m 23 #[rv a, iv 1, iv 2, .unset, .unset, .unset, .unset, .unset, .unset] [(.int 1)])) _
        refine XS.aloadN X42.here hx rfl (hb hby own_d10_23) rfl rfl ?_
        show Steps p.tables e below (T42.setTop (mkF m 24 #[rv a, iv 1, iv 2, .unset, .unset, .unset, .unset, .unset, .unset] [(.ref a), (.int 1)])) _
        refine st43 _ ?_
        show Steps p.tables e below (T43.setTop (mkF m 27 #[rv a, iv 1, iv 2, .unset, .unset, .unset, .unset, .unset, .unset] [(.ref bo), (.int 1)])) _
        refine XS.iloadN X43.here hx rfl (hb hby own_d10_27) rfl ?_
        show Steps p.tables e below (T43.setTop (mkF m 28 #[rv a, iv 1, iv 2, .unset, .unset, .unset, .unset, .unset, .unset] [(.int 2), (.ref bo), (.int 1)])) _
        refine X43.aaload hx (j := (2 : Int32)) (v := (.ref w_MATCH)) (by rw [e43]; exact c44A.1) (State.isArrayOf_alike hZ.alike c44A.2.1) rfl c44A.2.2 c44in c44at (g := (mkF m 28 #[rv a, iv 1, iv 2, .unset, .unset, .unset, .unset, .unset, .unset] [(.int 2), (.ref bo), (.int 1)])) rfl rfl (hb hby own_d10_28) _ ?_
        show Steps p.tables e below (T43.setTop (mkF m 29 #[rv a, iv 1, iv 2, .unset, .unset, .unset, .unset, .unset, .unset] [(.ref w_MATCH), (.int 1)])) _
        refine st45 _ ?_
        show Steps p.tables e below (T45.setTop (mkF m 32 #[rv a, iv 1, iv 2, .unset, .unset, .unset, .unset, .unset, .unset] [(.ref w_BACK_REFERENCE), (.ref w_MATCH), (.int 1)])) _
        refine Jvm.RoadKit.acmp (g := (mkF m 32 #[rv a, iv 1, iv 2, .unset, .unset, .unset, .unset, .unset, .unset] [(.ref w_BACK_REFERENCE), (.ref w_MATCH), (.int 1)])) X45 hx rfl rfl rfl (pc0 := 32) (pc' := 39) (same := false) rfl (hb hby own_d10_32) rfl (decide_eq_false fun q => (Ne.symm (Fld.ne U_BACK_REFERENCE.2.2 U_MATCH.2.2 (by decide))) (Value.ref.inj q)) (by decide) (by decide) ?_
        show Steps p.tables e below (T45.setTop (mkF m 39 #[rv a, iv 1, iv 2, .unset, .unset, .unset, .unset, .unset, .unset] [(.int 1)])) _
        refine XS.iconst X45.here hx rfl (hb hby own_d10_39) ?_
        show Steps p.tables e below (T45.setTop (mkF m 40 #[rv a, iv 1, iv 2, .unset, .unset, .unset, .unset, .unset, .unset] [(.int 0), (.int 1)])) _
        refine XS.ior X45.here hx rfl (hb hby own_d10_40) rfl ?_
        show Steps p.tables e below (T45.setTop (mkF m 41 #[rv a, iv 1, iv 2, .unset, .unset, .unset, .unset, .unset, .unset] [(.int ((1 : Int32) ||| (0 : Int32)))])) _
        refine own_top (v' := (.int 1)) (congrArg Value.int (by decide)) ?_
        show Steps p.tables e below (T45.setTop (mkF m 41 #[rv a, iv 1, iv 2, .unset, .unset, .unset, .unset, .unset, .unset] [(.int 1)])) _
        refine XS.istoreN X45.here hx rfl (hb hby own_d10_41) rfl (l' := #[rv a, iv 1, iv 2, .unset, .unset, .unset, .unset, .unset, .unset]) rfl ?_
        show Steps p.tables e below (T45.setTop (mkF m 42 #[rv a, iv 1, iv 2, .unset, .unset, .unset, .unset, .unset, .unset] [])) _
        refine XS.iinc X45.here hx rfl (hb hby own_d10_42) rfl (l' := #[rv a, iv 1, .val (.int ((2 : Int32) + (1 : Int32))), .unset, .unset, .unset, .unset, .unset, .unset]) rfl ?_
        show Steps p.tables e below (T45.setTop (mkF m 45 #[rv a, iv 1, .val (.int ((2 : Int32) + (1 : Int32))), .unset, .unset, .unset, .unset, .unset, .unset] [])) _
        refine castTop (congrArg (fun zz : Int32 => (mkF m 45 #[rv a, iv 1, iv zz, .unset, .unset, .unset, .unset, .unset, .unset] [])) (by decide : ((2 : Int32) + (1 : Int32)) = (3 : Int32))) ?_
        show Steps p.tables e below (T45.setTop (mkF m 45 #[rv a, iv 1, iv 3, .unset, .unset, .unset, .unset, .unset, .unset] [])) _
        refine XS.goto X45.here hx rfl (pc0 := 45) (pc' := 14) rfl (hb hby own_d10_45) (by decide) (by decide) ?_
        show Steps p.tables e below (T45.setTop (mkF m 14 #[rv a, iv 1, iv 3, .unset, .unset, .unset, .unset, .unset, .unset] [])) _
        refine XS.iloadN X45.here hx rfl (hb hby own_d10_14) rfl ?_
        show Steps p.tables e below (T45.setTop (mkF m 15 #[rv a, iv 1, iv 3, .unset, .unset, .unset, .unset, .unset, .unset] [(.int 3)])) _
        refine XS.aloadN X45.here hx rfl (hb hby own_d10_15) rfl rfl ?_
        show Steps p.tables e below (T45.setTop (mkF m 16 #[rv a, iv 1, iv 3, .unset, .unset, .unset, .unset, .unset, .unset] [(.ref a), (.int 3)])) _
        refine st46 _ ?_
        show Steps p.tables e below (T46.setTop (mkF m 19 #[rv a, iv 1, iv 3, .unset, .unset, .unset, .unset, .unset, .unset] [(.int 3), (.int 3)])) _
        refine XS.icmpYes X46.here hx rfl (pc0 := 19) (pc' := 48) rfl (hb hby own_d10_19) rfl (flt (by decide)).2.1 (by decide) (by decide) ?_
        show Steps p.tables e below (T46.setTop (mkF m 48 #[rv a, iv 1, iv 3, .unset, .unset, .unset, .unset, .unset, .unset] [])) _
        exact kt
      · obtain ⟨T47, X47, e47, st47⟩ := getF X40 hx hZ hown (host := "") (Or.inl (hw _ (own_m 67 rfl))) Via.refl e40 q12 (g := (mkF m 16 #[rv a, iv 0, iv 2, .unset, .unset, .unset, .unset, .unset, .unset] [(.ref a), (.int 2)])) rfl rfl (hb hby own_d10_16)
        obtain ⟨T48, X48, e48, st48⟩ := getF X47 hx hZ hown (host := "") (Or.inl (hw _ (own_m 22 rfl))) Via.refl e47 q7 (g := (mkF m 24 #[rv a, iv 0, iv 2, .unset, .unset, .unset, .unset, .unset, .unset] [(.ref a), (.int 0)])) rfl rfl (hb hby own_d10_24)
        obtain ⟨c49, c49A, c49q, c49S, c49N, c49H, c49G⟩ := id q3
        have c49in : ¬ ((2 : Int32) < 0 ∨ c49.slots.size ≤ ((2 : Int32)).toNatClampNeg) := inb_of c49S ⟨by decide, by decide⟩
        have c49at : c49.slots[((2 : Int32)).toNatClampNeg]? = some (.ref w_MATCH) := Has.at c49H c49in rfl
        obtain ⟨T50, X50, e50, st50⟩ := getS2 X48 hx hZ hown (host := "") (Or.inl (hw _ (own_m 85 rfl))) Via.refl e48 (U_BACK_REFERENCE.1.ext O14.2) (g := (mkF m 29 #[rv a, iv 0, iv 2, .unset, .unset, .unset, .unset, .unset, .unset] [(.ref w_MATCH), (.int 0)])) rfl (hb hby own_d10_29)
        obtain ⟨T51, X51, e51, st51⟩ := getF X50 hx hZ hown (host := "") (Or.inl (hw _ (own_m 67 rfl))) Via.refl e50 q12 (g := (mkF m 16 #[rv a, iv 0, iv 3, .unset, .unset, .unset, .unset, .unset, .unset] [(.ref a), (.int 3)])) rfl rfl (hb hby own_d10_16)
        refine ⟨(0 : Int32), T51, _, Or.inl rfl, X51, N2, e51, fun target kt => ?_⟩
        show Steps p.tables e below (T2.setTop (mkF m 12 #[rv a, iv 0, .unset, .unset, .unset, .unset, .unset, .unset, .unset] [])) _
        refine XS.iconst X2.here hx rfl (hb hby own_d10_12) ?_
        show Steps p.tables e below (T2.setTop (mkF m 13 #[rv a, iv 0, .unset, .unset, .unset, .unset, .unset, .unset, .unset] [(.int 0)])) _
        refine XS.istoreN X2.here hx rfl (hb hby own_d10_13) rfl (l' := #[rv a, iv 0, iv 0, .unset, .unset, .unset, .unset, .unset, .unset]) rfl ?_
        show Steps p.tables e below (T2.setTop (mkF m 14 #[rv a, iv 0, iv 0, .unset, .unset, .unset, .unset, .unset, .unset] [])) _
        refine XS.iloadN X2.here hx rfl (hb hby own_d10_14) rfl ?_
        show Steps p.tables e below (T2.setTop (mkF m 15 #[rv a, iv 0, iv 0, .unset, .unset, .unset, .unset, .unset, .unset] [(.int 0)])) _
        refine XS.aloadN X2.here hx rfl (hb hby own_d10_15) rfl rfl ?_
        show Steps p.tables e below (T2.setTop (mkF m 16 #[rv a, iv 0, iv 0, .unset, .unset, .unset, .unset, .unset, .unset] [(.ref a), (.int 0)])) _
        refine st17 _ ?_
        show Steps p.tables e below (T17.setTop (mkF m 19 #[rv a, iv 0, iv 0, .unset, .unset, .unset, .unset, .unset, .unset] [(.int 3), (.int 0)])) _
        refine XS.icmpNo X17.here hx rfl (hb hby own_d10_19) rfl (tlt (by decide)).2.1 ?_
        show Steps p.tables e below (T17.setTop (mkF m 22 #[rv a, iv 0, iv 0, .unset, .unset, .unset, .unset, .unset, .unset] [])) _
        refine XS.iloadN X17.here hx rfl (hb hby own_d10_22) rfl ?_
        show Steps p.tables e below (T17.setTop (mkF m 23 #[rv a, iv 0, iv 0, .unset, .unset, .unset, .unset, .unset, .unset] [(.int 0)])) _
        refine XS.aloadN X17.here hx rfl (hb hby own_d10_23) rfl rfl ?_
        show Steps p.tables e below (T17.setTop (mkF m 24 #[rv a, iv 0, iv 0, .unset, .unset, .unset, .unset, .unset, .unset] [(.ref a), (.int 0)])) _
        refine st18 _ ?_
        show Steps p.tables e below (T18.setTop (mkF m 27 #[rv a, iv 0, iv 0, .unset, .unset, .unset, .unset, .unset, .unset] [(.ref bo), (.int 0)])) _
        refine XS.iloadN X18.here hx rfl (hb hby own_d10_27) rfl ?_
        show Steps p.tables e below (T18.setTop (mkF m 28 #[rv a, iv 0, iv 0, .unset, .unset, .unset, .unset, .unset, .unset] [(.int 0), (.ref bo), (.int 0)])) _
        refine X18.aaload hx (j := (0 : Int32)) (v := (.ref o0)) (by rw [e18]; exact c19A.1) (State.isArrayOf_alike hZ.alike c19A.2.1) rfl c19A.2.2 c19in c19at (g := (mkF m 28 #[rv a, iv 0, iv 0, .unset, .unset, .unset, .unset, .unset, .unset] [(.int 0), (.ref bo), (.int 0)])) rfl rfl (hb hby own_d10_28) _ ?_
        show Steps p.tables e below (T18.setTop (mkF m 29 #[rv a, iv 0, iv 0, .unset, .unset, .unset, .unset, .unset, .unset] [(.ref o0), (.int 0)])) _
        refine st20 _ ?_
        show Steps p.tables e below (T20.setTop (mkF m 32 #[rv a, iv 0, iv 0, .unset, .unset, .unset, .unset, .unset, .unset] [(.ref w_BACK_REFERENCE), (.ref o0), (.int 0)])) _
        refine Jvm.RoadKit.acmp (g := (mkF m 32 #[rv a, iv 0, iv 0, .unset, .unset, .unset, .unset, .unset, .unset] [(.ref w_BACK_REFERENCE), (.ref o0), (.int 0)])) X20 hx rfl rfl rfl (pc0 := 32) (pc' := 39) (same := false) rfl (hb hby own_d10_32) rfl (decide_eq_false fun q => ha21 (Value.ref.inj q)) (by decide) (by decide) ?_
        show Steps p.tables e below (T20.setTop (mkF m 39 #[rv a, iv 0, iv 0, .unset, .unset, .unset, .unset, .unset, .unset] [(.int 0)])) _
        refine XS.iconst X20.here hx rfl (hb hby own_d10_39) ?_
        show Steps p.tables e below (T20.setTop (mkF m 40 #[rv a, iv 0, iv 0, .unset, .unset, .unset, .unset, .unset, .unset] [(.int 0), (.int 0)])) _
        refine XS.ior X20.here hx rfl (hb hby own_d10_40) rfl ?_
        show Steps p.tables e below (T20.setTop (mkF m 41 #[rv a, iv 0, iv 0, .unset, .unset, .unset, .unset, .unset, .unset] [(.int ((0 : Int32) ||| (0 : Int32)))])) _
        refine own_top (v' := (.int 0)) (congrArg Value.int (by decide)) ?_
        show Steps p.tables e below (T20.setTop (mkF m 41 #[rv a, iv 0, iv 0, .unset, .unset, .unset, .unset, .unset, .unset] [(.int 0)])) _
        refine XS.istoreN X20.here hx rfl (hb hby own_d10_41) rfl (l' := #[rv a, iv 0, iv 0, .unset, .unset, .unset, .unset, .unset, .unset]) rfl ?_
        show Steps p.tables e below (T20.setTop (mkF m 42 #[rv a, iv 0, iv 0, .unset, .unset, .unset, .unset, .unset, .unset] [])) _
        refine XS.iinc X20.here hx rfl (hb hby own_d10_42) rfl (l' := #[rv a, iv 0, .val (.int ((0 : Int32) + (1 : Int32))), .unset, .unset, .unset, .unset, .unset, .unset]) rfl ?_
        show Steps p.tables e below (T20.setTop (mkF m 45 #[rv a, iv 0, .val (.int ((0 : Int32) + (1 : Int32))), .unset, .unset, .unset, .unset, .unset, .unset] [])) _
        refine castTop (congrArg (fun zz : Int32 => (mkF m 45 #[rv a, iv 0, iv zz, .unset, .unset, .unset, .unset, .unset, .unset] [])) (by decide : ((0 : Int32) + (1 : Int32)) = (1 : Int32))) ?_
        show Steps p.tables e below (T20.setTop (mkF m 45 #[rv a, iv 0, iv 1, .unset, .unset, .unset, .unset, .unset, .unset] [])) _
        refine XS.goto X20.here hx rfl (pc0 := 45) (pc' := 14) rfl (hb hby own_d10_45) (by decide) (by decide) ?_
        show Steps p.tables e below (T20.setTop (mkF m 14 #[rv a, iv 0, iv 1, .unset, .unset, .unset, .unset, .unset, .unset] [])) _
        refine XS.iloadN X20.here hx rfl (hb hby own_d10_14) rfl ?_
        show Steps p.tables e below (T20.setTop (mkF m 15 #[rv a, iv 0, iv 1, .unset, .unset, .unset, .unset, .unset, .unset] [(.int 1)])) _
        refine XS.aloadN X20.here hx rfl (hb hby own_d10_15) rfl rfl ?_
        show Steps p.tables e below (T20.setTop (mkF m 16 #[rv a, iv 0, iv 1, .unset, .unset, .unset, .unset, .unset, .unset] [(.ref a), (.int 1)])) _
        refine st37 _ ?_
        show Steps p.tables e below (T37.setTop (mkF m 19 #[rv a, iv 0, iv 1, .unset, .unset, .unset, .unset, .unset, .unset] [(.int 3), (.int 1)])) _
        refine XS.icmpNo X37.here hx rfl (hb hby own_d10_19) rfl (tlt (by decide)).2.1 ?_
        show Steps p.tables e below (T37.setTop (mkF m 22 #[rv a, iv 0, iv 1, .unset, .unset, .unset, .unset, .unset, .unset] [])) _
        refine XS.iloadN X37.here hx rfl (hb hby own_d10_22) rfl ?_
        show Steps p.tables e below (T37.setTop (mkF m 23 #[rv a, iv 0, iv 1, .unset, .unset, .unset, .unset, .unset, .unset] [(.int 0)])) _
        refine XS.aloadN X37.here hx rfl (hb hby own_d10_23) rfl rfl ?_
        show Steps p.tables e below (T37.setTop (mkF m 24 #[rv a, iv 0, iv 1, .unset, .unset, .unset, .unset, .unset, .unset] [(.ref a), (.int 0)])) _
        refine st38 _ ?_
        show Steps p.tables e below (T38.setTop (mkF m 27 #[rv a, iv 0, iv 1, .unset, .unset, .unset, .unset, .unset, .unset] [(.ref bo), (.int 0)])) _
        refine XS.iloadN X38.here hx rfl (hb hby own_d10_27) rfl ?_
        show Steps p.tables e below (T38.setTop (mkF m 28 #[rv a, iv 0, iv 1, .unset, .unset, .unset, .unset, .unset, .unset] [(.int 1), (.ref bo), (.int 0)])) _
        refine X38.aaload hx (j := (1 : Int32)) (v := (.ref o1)) (by rw [e38]; exact c39A.1) (State.isArrayOf_alike hZ.alike c39A.2.1) rfl c39A.2.2 c39in c39at (g := (mkF m 28 #[rv a, iv 0, iv 1, .unset, .unset, .unset, .unset, .unset, .unset] [(.int 1), (.ref bo), (.int 0)])) rfl rfl (hb hby own_d10_28) _ ?_
        show Steps p.tables e below (T38.setTop (mkF m 29 #[rv a, iv 0, iv 1, .unset, .unset, .unset, .unset, .unset, .unset] [(.ref o1), (.int 0)])) _
        refine st40 _ ?_
        show Steps p.tables e below (T40.setTop (mkF m 32 #[rv a, iv 0, iv 1, .unset, .unset, .unset, .unset, .unset, .unset] [(.ref w_BACK_REFERENCE), (.ref o1), (.int 0)])) _
        refine Jvm.RoadKit.acmp (g := (mkF m 32 #[rv a, iv 0, iv 1, .unset, .unset, .unset, .unset, .unset, .unset] [(.ref w_BACK_REFERENCE), (.ref o1), (.int 0)])) X40 hx rfl rfl rfl (pc0 := 32) (pc' := 39) (same := false) rfl (hb hby own_d10_32) rfl (decide_eq_false fun q => ha41 (Value.ref.inj q)) (by decide) (by decide) ?_
        show Steps p.tables e below (T40.setTop (mkF m 39 #[rv a, iv 0, iv 1, .unset, .unset, .unset, .unset, .unset, .unset] [(.int 0)])) _
        refine XS.iconst X40.here hx rfl (hb hby own_d10_39) ?_
        show Steps p.tables e below (T40.setTop (mkF m 40 #[rv a, iv 0, iv 1, .unset, .unset, .unset, .unset, .unset, .unset] [(.int 0), (.int 0)])) _
        refine XS.ior X40.here hx rfl (hb hby own_d10_40) rfl ?_
        show Steps p.tables e below (T40.setTop (mkF m 41 #[rv a, iv 0, iv 1, .unset, .unset, .unset, .unset, .unset, .unset] [(.int ((0 : Int32) ||| (0 : Int32)))])) _
        refine own_top (v' := (.int 0)) (congrArg Value.int (by decide)) ?_
        show Steps p.tables e below (T40.setTop (mkF m 41 #[rv a, iv 0, iv 1, .unset, .unset, .unset, .unset, .unset, .unset] [(.int 0)])) _
        refine XS.istoreN X40.here hx rfl (hb hby own_d10_41) rfl (l' := #[rv a, iv 0, iv 1, .unset, .unset, .unset, .unset, .unset, .unset]) rfl ?_
        show Steps p.tables e below (T40.setTop (mkF m 42 #[rv a, iv 0, iv 1, .unset, .unset, .unset, .unset, .unset, .unset] [])) _
        refine XS.iinc X40.here hx rfl (hb hby own_d10_42) rfl (l' := #[rv a, iv 0, .val (.int ((1 : Int32) + (1 : Int32))), .unset, .unset, .unset, .unset, .unset, .unset]) rfl ?_
        show Steps p.tables e below (T40.setTop (mkF m 45 #[rv a, iv 0, .val (.int ((1 : Int32) + (1 : Int32))), .unset, .unset, .unset, .unset, .unset, .unset] [])) _
        refine castTop (congrArg (fun zz : Int32 => (mkF m 45 #[rv a, iv 0, iv zz, .unset, .unset, .unset, .unset, .unset, .unset] [])) (by decide : ((1 : Int32) + (1 : Int32)) = (2 : Int32))) ?_
        show Steps p.tables e below (T40.setTop (mkF m 45 #[rv a, iv 0, iv 2, .unset, .unset, .unset, .unset, .unset, .unset] [])) _
        refine XS.goto X40.here hx rfl (pc0 := 45) (pc' := 14) rfl (hb hby own_d10_45) (by decide) (by decide) ?_
        show Steps p.tables e below (T40.setTop (mkF m 14 #[rv a, iv 0, iv 2, .unset, .unset, .unset, .unset, .unset, .unset] [])) _
        refine XS.iloadN X40.here hx rfl (hb hby own_d10_14) rfl ?_
        show Steps p.tables e below (T40.setTop (mkF m 15 #[rv a, iv 0, iv 2, .unset, .unset, .unset, .unset, .unset, .unset] [(.int 2)])) _
        refine XS.aloadN X40.here hx rfl (hb hby own_d10_15) rfl rfl ?_
        show Steps p.tables e below (T40.setTop (mkF m 16 #[rv a, iv 0, iv 2, .unset, .unset, .unset, .unset, .unset, .unset] [(.ref a), (.int 2)])) _
        refine st47 _ ?_
        show Steps p.tables e below (T47.setTop (mkF m 19 #[rv a, iv 0, iv 2, .unset, .unset, .unset, .unset, .unset, .unset] [(.int 3), (.int 2)])) _
        refine XS.icmpNo X47.here hx rfl (hb hby own_d10_19) rfl (tlt (by decide)).2.1 ?_
        show Steps p.tables e below (T47.setTop (mkF m 22 #[rv a, iv 0, iv 2, .unset, .unset, .unset, .unset, .unset, .unset] [])) _
        refine XS.iloadN X47.here hx rfl (hb hby own_d10_22) rfl ?_
        show Steps p.tables e below (T47.setTop (mkF m 23 #[rv a, iv 0, iv 2, .unset, .unset, .unset, .unset, .unset, .unset] [(.int 0)])) _
        refine XS.aloadN X47.here hx rfl (hb hby own_d10_23) rfl rfl ?_
        show Steps p.tables e below (T47.setTop (mkF m 24 #[rv a, iv 0, iv 2, .unset, .unset, .unset, .unset, .unset, .unset] [(.ref a), (.int 0)])) _
        refine st48 _ ?_
        show Steps p.tables e below (T48.setTop (mkF m 27 #[rv a, iv 0, iv 2, .unset, .unset, .unset, .unset, .unset, .unset] [(.ref bo), (.int 0)])) _
        refine XS.iloadN X48.here hx rfl (hb hby own_d10_27) rfl ?_
        show Steps p.tables e below (T48.setTop (mkF m 28 #[rv a, iv 0, iv 2, .unset, .unset, .unset, .unset, .unset, .unset] [(.int 2), (.ref bo), (.int 0)])) _
        refine X48.aaload hx (j := (2 : Int32)) (v := (.ref w_MATCH)) (by rw [e48]; exact c49A.1) (State.isArrayOf_alike hZ.alike c49A.2.1) rfl c49A.2.2 c49in c49at (g := (mkF m 28 #[rv a, iv 0, iv 2, .unset, .unset, .unset, .unset, .unset, .unset] [(.int 2), (.ref bo), (.int 0)])) rfl rfl (hb hby own_d10_28) _ ?_
        show Steps p.tables e below (T48.setTop (mkF m 29 #[rv a, iv 0, iv 2, .unset, .unset, .unset, .unset, .unset, .unset] [(.ref w_MATCH), (.int 0)])) _
        refine st50 _ ?_
        show Steps p.tables e below (T50.setTop (mkF m 32 #[rv a, iv 0, iv 2, .unset, .unset, .unset, .unset, .unset, .unset] [(.ref w_BACK_REFERENCE), (.ref w_MATCH), (.int 0)])) _
        refine Jvm.RoadKit.acmp (g := (mkF m 32 #[rv a, iv 0, iv 2, .unset, .unset, .unset, .unset, .unset, .unset] [(.ref w_BACK_REFERENCE), (.ref w_MATCH), (.int 0)])) X50 hx rfl rfl rfl (pc0 := 32) (pc' := 39) (same := false) rfl (hb hby own_d10_32) rfl (decide_eq_false fun q => (Ne.symm (Fld.ne U_BACK_REFERENCE.2.2 U_MATCH.2.2 (by decide))) (Value.ref.inj q)) (by decide) (by decide) ?_
        show Steps p.tables e below (T50.setTop (mkF m 39 #[rv a, iv 0, iv 2, .unset, .unset, .unset, .unset, .unset, .unset] [(.int 0)])) _
        refine XS.iconst X50.here hx rfl (hb hby own_d10_39) ?_
        show Steps p.tables e below (T50.setTop (mkF m 40 #[rv a, iv 0, iv 2, .unset, .unset, .unset, .unset, .unset, .unset] [(.int 0), (.int 0)])) _
        refine XS.ior X50.here hx rfl (hb hby own_d10_40) rfl ?_
        show Steps p.tables e below (T50.setTop (mkF m 41 #[rv a, iv 0, iv 2, .unset, .unset, .unset, .unset, .unset, .unset] [(.int ((0 : Int32) ||| (0 : Int32)))])) _
        refine own_top (v' := (.int 0)) (congrArg Value.int (by decide)) ?_
        show Steps p.tables e below (T50.setTop (mkF m 41 #[rv a, iv 0, iv 2, .unset, .unset, .unset, .unset, .unset, .unset] [(.int 0)])) _
        refine XS.istoreN X50.here hx rfl (hb hby own_d10_41) rfl (l' := #[rv a, iv 0, iv 2, .unset, .unset, .unset, .unset, .unset, .unset]) rfl ?_
        show Steps p.tables e below (T50.setTop (mkF m 42 #[rv a, iv 0, iv 2, .unset, .unset, .unset, .unset, .unset, .unset] [])) _
        refine XS.iinc X50.here hx rfl (hb hby own_d10_42) rfl (l' := #[rv a, iv 0, .val (.int ((2 : Int32) + (1 : Int32))), .unset, .unset, .unset, .unset, .unset, .unset]) rfl ?_
        show Steps p.tables e below (T50.setTop (mkF m 45 #[rv a, iv 0, .val (.int ((2 : Int32) + (1 : Int32))), .unset, .unset, .unset, .unset, .unset, .unset] [])) _
        refine castTop (congrArg (fun zz : Int32 => (mkF m 45 #[rv a, iv 0, iv zz, .unset, .unset, .unset, .unset, .unset, .unset] [])) (by decide : ((2 : Int32) + (1 : Int32)) = (3 : Int32))) ?_
        show Steps p.tables e below (T50.setTop (mkF m 45 #[rv a, iv 0, iv 3, .unset, .unset, .unset, .unset, .unset, .unset] [])) _
        refine XS.goto X50.here hx rfl (pc0 := 45) (pc' := 14) rfl (hb hby own_d10_45) (by decide) (by decide) ?_
        show Steps p.tables e below (T50.setTop (mkF m 14 #[rv a, iv 0, iv 3, .unset, .unset, .unset, .unset, .unset, .unset] [])) _
        refine XS.iloadN X50.here hx rfl (hb hby own_d10_14) rfl ?_
        show Steps p.tables e below (T50.setTop (mkF m 15 #[rv a, iv 0, iv 3, .unset, .unset, .unset, .unset, .unset, .unset] [(.int 3)])) _
        refine XS.aloadN X50.here hx rfl (hb hby own_d10_15) rfl rfl ?_
        show Steps p.tables e below (T50.setTop (mkF m 16 #[rv a, iv 0, iv 3, .unset, .unset, .unset, .unset, .unset, .unset] [(.ref a), (.int 3)])) _
        refine st51 _ ?_
        show Steps p.tables e below (T51.setTop (mkF m 19 #[rv a, iv 0, iv 3, .unset, .unset, .unset, .unset, .unset, .unset] [(.int 3), (.int 3)])) _
        refine XS.icmpYes X51.here hx rfl (pc0 := 19) (pc' := 48) rfl (hb hby own_d10_19) rfl (flt (by decide)).2.1 (by decide) (by decide) ?_
        show Steps p.tables e below (T51.setTop (mkF m 48 #[rv a, iv 0, iv 3, .unset, .unset, .unset, .unset, .unset, .unset] [])) _
        exact kt
  obtain ⟨T52, X52, e52, st52⟩ := getF X16 hx hZ hown (host := "") (Or.inl (hw _ (own_m 67 rfl))) Via.refl e16 q12 (g := (mkF m 49 #[rv a, iv fl, iv 3, .unset, .unset, .unset, .unset, .unset, .unset] [(.ref a)])) rfl rfl (hb hby own_d10_49)
  have f53 := (E_ll.keep K2)
  obtain ⟨T54, h54, k54, X54, e54, E54, A54, st54⟩ := newP X52 hx hZ (hw _ (own_m 24 rfl)) e52 (g := (mkF m 52 #[rv a, iv fl, iv 3, .unset, .unset, .unset, .unset, .unset, .unset] [(.int 3)])) rfl (hb hby own_d10_52) rfl (by decide) (cap := 3) (by decide) (by decide) (by decide) (by decide)
  obtain ⟨b54, g54⟩ : ∃ z, z = T2.heap.size := ⟨_, rfl⟩
  rw [← g54] at A54  st54
  have ne_a_b54 : a ≠ b54 := Nat.ne_of_lt (g54 ▸ q6.lt)
  have ne_bo_b54 : bo ≠ b54 := Nat.ne_of_lt (g54 ▸ q3.lt)
  have ne_bf_b54 : bf ≠ b54 := Nat.ne_of_lt (g54 ▸ q4.lt)
  have ne_bs_b54 : bs ≠ b54 := Nat.ne_of_lt (g54 ▸ q5.lt)
  have ne_ll_b54 : ll ≠ b54 := Nat.ne_of_lt (g54 ▸ f53.lt)
  have gg_b54 : n0 ≤ b54 := g54 ▸ own_le O14
  have sz_b54 : h0.size ≤ b54 := g54 ▸ kp15.1
  have O55 := O14.ext E54
  have kp56 := kp15.ext E54
  have V_b54 : Arv Z h54 b54 k54 .int (3 : Int32) [(.int 0), (.int 0), (.int 0)] (.int 0) := (Arv.new A54 (by decide)).pad (pad_rep [] (.int 0) 3)
  have f57 := (q12.ext E54)
  obtain ⟨T58, X58, e58, st58⟩ := getF X54 hx hZ hown (host := "") (Or.inl (hw _ (own_m 67 rfl))) Via.refl e54 f57 (g := (mkF m 63 #[rv a, iv fl, rv b54, iv 0, iv 0, .unset, .unset, .unset, .unset] [(.ref a), (.int 0)])) rfl rfl (hb hby own_d10_63)
  obtain ⟨c59, c59A, c59q, c59S, c59N, c59H, c59G⟩ := id V_b54
  have c59in : ¬ ((0 : Int32) < 0 ∨ c59.slots.size ≤ ((0 : Int32)).toNatClampNeg) := inb_of c59S ⟨by decide, by decide⟩
  obtain ⟨T60, h60, X60, e60, W60, st60⟩ := stI X58 hx hZ e58 c59A (j := (0 : Int32)) c59in (g := (mkF m 73 #[rv a, iv fl, rv b54, iv 0, iv 0, .unset, .unset, .unset, .unset] [(.int 0), (.int 0), (.ref b54)])) rfl rfl (hb hby own_d10_73)
  have V60 : Arv Z h60 b54 k54 .int (3 : Int32) [(.int 0), (.int 0), (.int 0)] (.int 0) := Arv.set c59A c59q c59S c59N c59H c59G rfl W60 0 rfl (Nat.le_of_ble_eq_true rfl)
  have O61 := O55.wr W60 gg_b54
  have kp62 := kp56.wr W60 (Or.inr sz_b54)
  have N60 := Fr.snoc X60 N16 gg_b54
  have f63 := ((q7.ext E54).other W60 (Or.inl ne_a_b54))
  obtain ⟨T64, X64, e64, st64⟩ := getF X60 hx hZ hown (host := "") (Or.inl (hw _ (own_m 22 rfl))) Via.refl e60 f63 (g := (mkF m 75 #[rv a, iv fl, rv b54, iv 0, iv 0, .unset, .unset, .unset, .unset] [(.ref a)])) rfl rfl (hb hby own_d10_75)
  have f65 := ((q3.ext E54).other W60 ne_bo_b54)
  obtain ⟨c66, c66A, c66q, c66S, c66N, c66H, c66G⟩ := id f65
  have c66in : ¬ ((0 : Int32) < 0 ∨ c66.slots.size ≤ ((0 : Int32)).toNatClampNeg) := inb_of c66S ⟨by decide, by decide⟩
  have c66at : c66.slots[((0 : Int32)).toNatClampNeg]? = some (.ref o0) := Has.at c66H c66in rfl
  obtain ⟨_, _, ⟨T67, L67, k67, n67⟩, -, X67, ⟨Lc67, hQ67, l67, y67, z67⟩, st67⟩ := Jvm.LawKit.callS X64 hx (y := (⟨"com/example/quillgraph/quillgraph/sparql/RegexProgram$Builder", "isDropped", "(Lcom/example/quillgraph/quillgraph/sparql/RegexProgram$Op;Z)Z"⟩ : MethodName)) hown (mvT hZ (hw _ (own_m 87 rfl))) (mvT hZ (hw _ (own_m 88 rfl))) (mvT hZ (hw _ (own_m 13 rfl))) (mvT hZ (hw _ (own_m 89 rfl))) (by decide) (backOf (W := 0) (own_drop l Z a0 hw [] w_CHARACTER w_SPLIT w_JUMP w_TEXT_START w_LINE_START w_TEXT_END w_LINE_END w_SAVE w_BACK_REFERENCE w_MARK w_PROGRESS w_MATCH w_NOTHING w_DE k_DE o0 fl h60 n0 O61 U_CHARACTER U_SPLIT U_JUMP U_TEXT_START U_LINE_START U_TEXT_END U_LINE_END U_SAVE U_BACK_REFERENCE U_MARK U_PROGRESS U_MATCH U_NOTHING S_DE V_DE G0) hZ (hw _ (own_m 89 rfl)) (hw _ (own_m 13 rfl)) (by decide) (by decide)) (g := (mkF m 82 #[rv a, iv fl, rv b54, iv 0, iv 0, .unset, .unset, .unset, .unset] [(.int fl), (.ref o0)])) rfl (by rw [hml]; rfl) (argsL := [(.ref o0), (.int fl)]) (rest := []) (lenOf own_pd3 rfl) rfl (by show 2 * 0 + _ ≤ _; exact Nat.le_of_eq rfl) (hb hby own_d10_82) (fun _ _ => ⟨rfl, e64, (by decide : 1 + 0 ≤ _), (by decide : 3 + 0 ≤ _)⟩)
  dsimp only [Pt.U, Pt.locs, Pt.cells, Pt.slots] at X67 l67 y67 z67 st67 hQ67
  subst l67 y67 z67
  obtain ⟨rfl, N67q, e67⟩ := hQ67
  have N67 := Fr.app N60 N67q
  have f68 := (f57.other W60 (Or.inl ne_a_b54))
  obtain ⟨T69, X69, e69, st69⟩ := getF X67 hx hZ hown (host := "") (Or.inl (hw _ (own_m 67 rfl))) Via.refl e67 f68 (g := (mkF m 63 #[rv a, iv fl, rv b54, iv 1, iv 1, .unset, .unset, .unset, .unset] [(.ref a), (.int 1)])) rfl rfl (hb hby own_d10_63)
  obtain ⟨c70, c70A, c70q, c70S, c70N, c70H, c70G⟩ := id V60
  have c70in : ¬ ((1 : Int32) < 0 ∨ c70.slots.size ≤ ((1 : Int32)).toNatClampNeg) := inb_of c70S ⟨by decide, by decide⟩
  obtain ⟨T71, h71, X71, e71, W71, st71⟩ := stI X69 hx hZ e69 c70A (j := (1 : Int32)) c70in (g := (mkF m 73 #[rv a, iv fl, rv b54, iv 1, iv 1, .unset, .unset, .unset, .unset] [(.int 1), (.int 1), (.ref b54)])) rfl rfl (hb hby own_d10_73)
  have V71 : Arv Z h71 b54 k54 .int (3 : Int32) [(.int 0), (.int 1), (.int 0)] (.int 0) := Arv.set c70A c70q c70S c70N c70H c70G rfl W71 1 rfl (Nat.le_of_ble_eq_true rfl)
  have O72 := O61.wr W71 gg_b54
  have kp73 := kp62.wr W71 (Or.inr sz_b54)
  have N71 := Fr.snoc X71 N67 gg_b54
  have f74 := (f63.other W71 (Or.inl ne_a_b54))
  obtain ⟨T75, X75, e75, st75⟩ := getF X71 hx hZ hown (host := "") (Or.inl (hw _ (own_m 22 rfl))) Via.refl e71 f74 (g := (mkF m 75 #[rv a, iv fl, rv b54, iv 1, iv 1, .unset, .unset, .unset, .unset] [(.ref a)])) rfl rfl (hb hby own_d10_75)
  have f76 := (f65.other W71 ne_bo_b54)
  obtain ⟨c77, c77A, c77q, c77S, c77N, c77H, c77G⟩ := id f76
  have c77in : ¬ ((1 : Int32) < 0 ∨ c77.slots.size ≤ ((1 : Int32)).toNatClampNeg) := inb_of c77S ⟨by decide, by decide⟩
  have c77at : c77.slots[((1 : Int32)).toNatClampNeg]? = some (.ref o1) := Has.at c77H c77in rfl
  obtain ⟨_, _, ⟨T78, L78, k78, n78⟩, -, X78, ⟨Lc78, hQ78, l78, y78, z78⟩, st78⟩ := Jvm.LawKit.callS X75 hx (y := (⟨"com/example/quillgraph/quillgraph/sparql/RegexProgram$Builder", "isDropped", "(Lcom/example/quillgraph/quillgraph/sparql/RegexProgram$Op;Z)Z"⟩ : MethodName)) hown (mvT hZ (hw _ (own_m 87 rfl))) (mvT hZ (hw _ (own_m 88 rfl))) (mvT hZ (hw _ (own_m 13 rfl))) (mvT hZ (hw _ (own_m 89 rfl))) (by decide) (backOf (W := 0) (own_drop l Z a0 hw [] w_CHARACTER w_SPLIT w_JUMP w_TEXT_START w_LINE_START w_TEXT_END w_LINE_END w_SAVE w_BACK_REFERENCE w_MARK w_PROGRESS w_MATCH w_NOTHING w_DE k_DE o1 fl h71 n0 O72 U_CHARACTER U_SPLIT U_JUMP U_TEXT_START U_LINE_START U_TEXT_END U_LINE_END U_SAVE U_BACK_REFERENCE U_MARK U_PROGRESS U_MATCH U_NOTHING S_DE V_DE G1) hZ (hw _ (own_m 89 rfl)) (hw _ (own_m 13 rfl)) (by decide) (by decide)) (g := (mkF m 82 #[rv a, iv fl, rv b54, iv 1, iv 1, .unset, .unset, .unset, .unset] [(.int fl), (.ref o1)])) rfl (by rw [hml]; rfl) (argsL := [(.ref o1), (.int fl)]) (rest := []) (lenOf own_pd3 rfl) rfl (by show 2 * 0 + _ ≤ _; exact Nat.le_of_eq rfl) (hb hby own_d10_82) (fun _ _ => ⟨rfl, e75, (by decide : 1 + 0 ≤ _), (by decide : 3 + 0 ≤ _)⟩)
  dsimp only [Pt.U, Pt.locs, Pt.cells, Pt.slots] at X78 l78 y78 z78 st78 hQ78
  subst l78 y78 z78
  obtain ⟨rfl, N78q, e78⟩ := hQ78
  have N78 := Fr.app N71 N78q
  have f79 := (f68.other W71 (Or.inl ne_a_b54))
  obtain ⟨T80, X80, e80, st80⟩ := getF X78 hx hZ hown (host := "") (Or.inl (hw _ (own_m 67 rfl))) Via.refl e78 f79 (g := (mkF m 63 #[rv a, iv fl, rv b54, iv 2, iv 2, .unset, .unset, .unset, .unset] [(.ref a), (.int 2)])) rfl rfl (hb hby own_d10_63)
  obtain ⟨c81, c81A, c81q, c81S, c81N, c81H, c81G⟩ := id V71
  have c81in : ¬ ((2 : Int32) < 0 ∨ c81.slots.size ≤ ((2 : Int32)).toNatClampNeg) := inb_of c81S ⟨by decide, by decide⟩
  obtain ⟨T82, h82, X82, e82, W82, st82⟩ := stI X80 hx hZ e80 c81A (j := (2 : Int32)) c81in (g := (mkF m 73 #[rv a, iv fl, rv b54, iv 2, iv 2, .unset, .unset, .unset, .unset] [(.int 2), (.int 2), (.ref b54)])) rfl rfl (hb hby own_d10_73)
  have V82 : Arv Z h82 b54 k54 .int (3 : Int32) [(.int 0), (.int 1), (.int 2)] (.int 0) := Arv.set c81A c81q c81S c81N c81H c81G rfl W82 2 rfl (Nat.le_of_ble_eq_true rfl)
  have O83 := O72.wr W82 gg_b54
  have kp84 := kp73.wr W82 (Or.inr sz_b54)
  have N82 := Fr.snoc X82 N78 gg_b54
  have f85 := (f74.other W82 (Or.inl ne_a_b54))
  obtain ⟨T86, X86, e86, st86⟩ := getF X82 hx hZ hown (host := "") (Or.inl (hw _ (own_m 22 rfl))) Via.refl e82 f85 (g := (mkF m 75 #[rv a, iv fl, rv b54, iv 2, iv 2, .unset, .unset, .unset, .unset] [(.ref a)])) rfl rfl (hb hby own_d10_75)
  have f87 := (f76.other W82 ne_bo_b54)
  obtain ⟨c88, c88A, c88q, c88S, c88N, c88H, c88G⟩ := id f87
  have c88in : ¬ ((2 : Int32) < 0 ∨ c88.slots.size ≤ ((2 : Int32)).toNatClampNeg) := inb_of c88S ⟨by decide, by decide⟩
  have c88at : c88.slots[((2 : Int32)).toNatClampNeg]? = some (.ref w_MATCH) := Has.at c88H c88in rfl
  obtain ⟨_, _, ⟨T89, L89, k89, n89⟩, -, X89, ⟨Lc89, hQ89, l89, y89, z89⟩, st89⟩ := Jvm.LawKit.callS X86 hx (y := (⟨"com/example/quillgraph/quillgraph/sparql/RegexProgram$Builder", "isDropped", "(Lcom/example/quillgraph/quillgraph/sparql/RegexProgram$Op;Z)Z"⟩ : MethodName)) hown (mvT hZ (hw _ (own_m 87 rfl))) (mvT hZ (hw _ (own_m 88 rfl))) (mvT hZ (hw _ (own_m 13 rfl))) (mvT hZ (hw _ (own_m 89 rfl))) (by decide) (backOf (W := 0) (own_drop l Z a0 hw [] w_CHARACTER w_SPLIT w_JUMP w_TEXT_START w_LINE_START w_TEXT_END w_LINE_END w_SAVE w_BACK_REFERENCE w_MARK w_PROGRESS w_MATCH w_NOTHING w_DE k_DE w_MATCH fl h82 n0 O83 U_CHARACTER U_SPLIT U_JUMP U_TEXT_START U_LINE_START U_TEXT_END U_LINE_END U_SAVE U_BACK_REFERENCE U_MARK U_PROGRESS U_MATCH U_NOTHING S_DE V_DE ⟨U_MATCH.2.1, Fld.ne U_MATCH.2.2 U_NOTHING.2.2 (by decide), Fld.ne U_MATCH.2.2 U_SAVE.2.2 (by decide), Fld.ne U_MATCH.2.2 U_MARK.2.2 (by decide), Fld.ne U_MATCH.2.2 U_PROGRESS.2.2 (by decide)⟩) hZ (hw _ (own_m 89 rfl)) (hw _ (own_m 13 rfl)) (by decide) (by decide)) (g := (mkF m 82 #[rv a, iv fl, rv b54, iv 2, iv 2, .unset, .unset, .unset, .unset] [(.int fl), (.ref w_MATCH)])) rfl (by rw [hml]; rfl) (argsL := [(.ref w_MATCH), (.int fl)]) (rest := []) (lenOf own_pd3 rfl) rfl (by show 2 * 0 + _ ≤ _; exact Nat.le_of_eq rfl) (hb hby own_d10_82) (fun _ _ => ⟨rfl, e86, (by decide : 1 + 0 ≤ _), (by decide : 3 + 0 ≤ _)⟩)
  dsimp only [Pt.U, Pt.locs, Pt.cells, Pt.slots] at X89 l89 y89 z89 st89 hQ89
  subst l89 y89 z89
  obtain ⟨rfl, N89q, e89⟩ := hQ89
  have N89 := Fr.app N82 N89q
  have f90 := (f79.other W82 (Or.inl ne_a_b54))
  obtain ⟨T91, X91, e91, st91⟩ := getF X89 hx hZ hown (host := "") (Or.inl (hw _ (own_m 67 rfl))) Via.refl e89 f90 (g := (mkF m 63 #[rv a, iv fl, rv b54, iv 3, iv 3, .unset, .unset, .unset, .unset] [(.ref a), (.int 3)])) rfl rfl (hb hby own_d10_63)
  have f92 := ((((q6.ext E54).wr W60).wr W71).wr W82)
  have f93 := ((((q4.ext E54).other W60 ne_bf_b54).other W71 ne_bf_b54).other W82 ne_bf_b54)
  have f94 := ((((q5.ext E54).other W60 ne_bs_b54).other W71 ne_bs_b54).other W82 ne_bs_b54)
  have f95 := ((((f53.ext E54).wr W60).wr W71).wr W82)
  obtain ⟨T96, h96, k96, X96, e96, E96, A96, O96, st96⟩ := newR X91 hx hZ hown (hw _ (own_m 20 rfl)) (hw _ (own_m 21 rfl)) e91 (g := (mkF m 98 #[rv a, iv fl, rv b54, iv 3, iv 3, .unset, .unset, .unset, .unset] [(.int 3)])) rfl (hb hby own_d10_98) rfl (by decide) (cap := 3) (by decide) (by decide) (by decide) (by decide)
  obtain ⟨b96, g96⟩ : ∃ z, z = h82.size := ⟨_, rfl⟩
  rw [← g96] at A96  st96
  have ne_a_b96 : a ≠ b96 := Nat.ne_of_lt (g96 ▸ f92.lt)
  have ne_bo_b96 : bo ≠ b96 := Nat.ne_of_lt (g96 ▸ f87.lt)
  have ne_bf_b96 : bf ≠ b96 := Nat.ne_of_lt (g96 ▸ f93.lt)
  have ne_bs_b96 : bs ≠ b96 := Nat.ne_of_lt (g96 ▸ f94.lt)
  have ne_ll_b96 : ll ≠ b96 := Nat.ne_of_lt (g96 ▸ f95.lt)
  have ne_b54_b96 : b54 ≠ b96 := Nat.ne_of_lt (g96 ▸ V82.lt)
  have gg_b96 : n0 ≤ b96 := g96 ▸ own_le O83
  have sz_b96 : h0.size ≤ b96 := g96 ▸ kp84.1
  have O97 := O83.ext E96
  have kp98 := kp84.ext E96
  have V_b96 : Arv Z h96 b96 k96 (.object "com/example/quillgraph/quillgraph/sparql/RegexProgram$Op") (3 : Int32) [.null, .null, .null] .null := (Arv.new A96 (by decide)).pad (pad_rep [] .null 3)
  have f99 := (f92.ext E96)
  have f100 := (f87.ext E96)
  have f101 := (f93.ext E96)
  have f102 := (f94.ext E96)
  have f103 := (f95.ext E96)
  have f104 := (V82.ext E96)
  obtain ⟨T105, h105, k105, X105, e105, E105, A105, st105⟩ := newP X96 hx hZ (hw _ (own_m 24 rfl)) e96 (g := (mkF m 104 #[rv a, iv fl, rv b54, iv 3, rv b96, .unset, .unset, .unset, .unset] [(.int 3)])) rfl (hb hby own_d10_104) rfl (by decide) (cap := 3) (by decide) (by decide) (by decide) (by decide)
  obtain ⟨b105, g105⟩ : ∃ z, z = h96.size := ⟨_, rfl⟩
  rw [← g105] at A105  st105
  have ne_a_b105 : a ≠ b105 := Nat.ne_of_lt (g105 ▸ f99.lt)
  have ne_bo_b105 : bo ≠ b105 := Nat.ne_of_lt (g105 ▸ f100.lt)
  have ne_bf_b105 : bf ≠ b105 := Nat.ne_of_lt (g105 ▸ f101.lt)
  have ne_bs_b105 : bs ≠ b105 := Nat.ne_of_lt (g105 ▸ f102.lt)
  have ne_ll_b105 : ll ≠ b105 := Nat.ne_of_lt (g105 ▸ f103.lt)
  have ne_b54_b105 : b54 ≠ b105 := Nat.ne_of_lt (g105 ▸ f104.lt)
  have ne_b96_b105 : b96 ≠ b105 := Nat.ne_of_lt (g105 ▸ V_b96.lt)
  have gg_b105 : n0 ≤ b105 := g105 ▸ own_le O97
  have sz_b105 : h0.size ≤ b105 := g105 ▸ kp98.1
  have O106 := O97.ext E105
  have kp107 := kp98.ext E105
  have V_b105 : Arv Z h105 b105 k105 .int (3 : Int32) [(.int 0), (.int 0), (.int 0)] (.int 0) := (Arv.new A105 (by decide)).pad (pad_rep [] (.int 0) 3)
  have f108 := (f99.ext E105)
  have f109 := (f100.ext E105)
  have f110 := (f101.ext E105)
  have f111 := (f102.ext E105)
  have f112 := (f103.ext E105)
  have f113 := (f104.ext E105)
  have f114 := (V_b96.ext E105)
  obtain ⟨T115, h115, k115, X115, e115, E115, A115, st115⟩ := newP X105 hx hZ (hw _ (own_m 24 rfl)) e105 (g := (mkF m 109 #[rv a, iv fl, rv b54, iv 3, rv b96, rv b105, .unset, .unset, .unset] [(.int 3)])) rfl (hb hby own_d10_109) rfl (by decide) (cap := 3) (by decide) (by decide) (by decide) (by decide)
  obtain ⟨b115, g115⟩ : ∃ z, z = h105.size := ⟨_, rfl⟩
  rw [← g115] at A115  st115
  have ne_a_b115 : a ≠ b115 := Nat.ne_of_lt (g115 ▸ f108.lt)
  have ne_bo_b115 : bo ≠ b115 := Nat.ne_of_lt (g115 ▸ f109.lt)
  have ne_bf_b115 : bf ≠ b115 := Nat.ne_of_lt (g115 ▸ f110.lt)
  have ne_bs_b115 : bs ≠ b115 := Nat.ne_of_lt (g115 ▸ f111.lt)
  have ne_ll_b115 : ll ≠ b115 := Nat.ne_of_lt (g115 ▸ f112.lt)
  have ne_b54_b115 : b54 ≠ b115 := Nat.ne_of_lt (g115 ▸ f113.lt)
  have ne_b96_b115 : b96 ≠ b115 := Nat.ne_of_lt (g115 ▸ f114.lt)
  have ne_b105_b115 : b105 ≠ b115 := Nat.ne_of_lt (g115 ▸ V_b105.lt)
  have gg_b115 : n0 ≤ b115 := g115 ▸ own_le O106
  have sz_b115 : h0.size ≤ b115 := g115 ▸ kp107.1
  have O116 := O106.ext E115
  have kp117 := kp107.ext E115
  have V_b115 : Arv Z h115 b115 k115 .int (3 : Int32) [(.int 0), (.int 0), (.int 0)] (.int 0) := (Arv.new A115 (by decide)).pad (pad_rep [] (.int 0) 3)
  have f118 := (((f90.ext E96).ext E105).ext E115)
  obtain ⟨T119, X119, e119, st119⟩ := getF X115 hx hZ hown (host := "") (Or.inl (hw _ (own_m 67 rfl))) Via.refl e115 f118 (g := (mkF m 119 #[rv a, iv fl, rv b54, iv 3, rv b96, rv b105, rv b115, iv 0, .unset] [(.ref a), (.int 0)])) rfl rfl (hb hby own_d10_119)
  have f120 := (((f85.ext E96).ext E105).ext E115)
  obtain ⟨T121, X121, e121, st121⟩ := getF X119 hx hZ hown (host := "") (Or.inl (hw _ (own_m 22 rfl))) Via.refl e119 f120 (g := (mkF m 126 #[rv a, iv fl, rv b54, iv 3, rv b96, rv b105, rv b115, iv 0, .unset] [(.ref a)])) rfl rfl (hb hby own_d10_126)
  have f122 := (f109.ext E115)
  obtain ⟨c123, c123A, c123q, c123S, c123N, c123H, c123G⟩ := id f122
  have c123in : ¬ ((0 : Int32) < 0 ∨ c123.slots.size ≤ ((0 : Int32)).toNatClampNeg) := inb_of c123S ⟨by decide, by decide⟩
  have c123at : c123.slots[((0 : Int32)).toNatClampNeg]? = some (.ref o0) := Has.at c123H c123in rfl
  obtain ⟨_, _, ⟨T124, L124, k124, n124⟩, -, X124, ⟨Lc124, hQ124, l124, y124, z124⟩, st124⟩ := Jvm.LawKit.callS X121 hx (y := (⟨"com/example/quillgraph/quillgraph/sparql/RegexProgram$Builder", "isDropped", "(Lcom/example/quillgraph/quillgraph/sparql/RegexProgram$Op;Z)Z"⟩ : MethodName)) hown (mvT hZ (hw _ (own_m 87 rfl))) (mvT hZ (hw _ (own_m 88 rfl))) (mvT hZ (hw _ (own_m 13 rfl))) (mvT hZ (hw _ (own_m 89 rfl))) (by decide) (backOf (W := 0) (own_drop l Z a0 hw [] w_CHARACTER w_SPLIT w_JUMP w_TEXT_START w_LINE_START w_TEXT_END w_LINE_END w_SAVE w_BACK_REFERENCE w_MARK w_PROGRESS w_MATCH w_NOTHING w_DE k_DE o0 fl h115 n0 O116 U_CHARACTER U_SPLIT U_JUMP U_TEXT_START U_LINE_START U_TEXT_END U_LINE_END U_SAVE U_BACK_REFERENCE U_MARK U_PROGRESS U_MATCH U_NOTHING S_DE V_DE G0) hZ (hw _ (own_m 89 rfl)) (hw _ (own_m 13 rfl)) (by decide) (by decide)) (g := (mkF m 133 #[rv a, iv fl, rv b54, iv 3, rv b96, rv b105, rv b115, iv 0, .unset] [(.int fl), (.ref o0)])) rfl (by rw [hml]; rfl) (argsL := [(.ref o0), (.int fl)]) (rest := []) (lenOf own_pd3 rfl) rfl (by show 2 * 0 + _ ≤ _; exact Nat.le_of_eq rfl) (hb hby own_d10_133) (fun _ _ => ⟨rfl, e121, (by decide : 4 + 0 ≤ _), (by decide : 12 + 0 ≤ _)⟩)
  dsimp only [Pt.U, Pt.locs, Pt.cells, Pt.slots] at X124 l124 y124 z124 st124 hQ124
  subst l124 y124 z124
  obtain ⟨rfl, N124q, e124⟩ := hQ124
  have N124 := Fr.app N89 N124q
  have f125 := (f113.ext E115)
  obtain ⟨c126, c126A, c126q, c126S, c126N, c126H, c126G⟩ := id f125
  have c126in : ¬ ((0 : Int32) < 0 ∨ c126.slots.size ≤ ((0 : Int32)).toNatClampNeg) := inb_of c126S ⟨by decide, by decide⟩
  have c126at : c126.slots[((0 : Int32)).toNatClampNeg]? = some (.int 0) := Has.at c126H c126in rfl
  obtain ⟨T127, X127, e127, st127⟩ := getF X124 hx hZ hown (host := "") (Or.inl (hw _ (own_m 22 rfl))) Via.refl e124 f120 (g := (mkF m 150 #[rv a, iv fl, rv b54, iv 3, rv b96, rv b105, rv b115, iv 0, iv 0] [(.ref a), (.int 0), (.ref b96)])) rfl rfl (hb hby own_d10_150)
  obtain ⟨c128, c128A, c128q, c128S, c128N, c128H, c128G⟩ := id f122
  have c128in : ¬ ((0 : Int32) < 0 ∨ c128.slots.size ≤ ((0 : Int32)).toNatClampNeg) := inb_of c128S ⟨by decide, by decide⟩
  have c128at : c128.slots[((0 : Int32)).toNatClampNeg]? = some (.ref o0) := Has.at c128H c128in rfl
  have f129 := (f114.ext E115)
  obtain ⟨c130, c130A, c130q, c130S, c130N, c130H, c130G⟩ := id f129
  have c130in : ¬ ((0 : Int32) < 0 ∨ c130.slots.size ≤ ((0 : Int32)).toNatClampNeg) := inb_of c130S ⟨by decide, by decide⟩
  obtain ⟨T131, h131, X131, e131, W131, st131⟩ := stR X127 hx hZ e127 c130A (j := (0 : Int32)) c130in rfl (Sto.ofV c130A c130q O96 (Ins.self (G0.1.ext O116.2))) (g := (mkF m 156 #[rv a, iv fl, rv b54, iv 3, rv b96, rv b105, rv b115, iv 0, iv 0] [(.ref o0), (.int 0), (.ref b96)])) rfl rfl (hb hby own_d10_156)
  have V131 : Arv Z h131 b96 k96 (.object "com/example/quillgraph/quillgraph/sparql/RegexProgram$Op") (3 : Int32) [(.ref o0), .null, .null] .null := Arv.set c130A c130q c130S c130N c130H c130G rfl W131 0 rfl (Nat.le_of_ble_eq_true rfl)
  have O132 := O116.wr W131 gg_b96
  have kp133 := kp117.wr W131 (Or.inr sz_b96)
  have N131 := Fr.snoc X131 N124 gg_b96
  have f134 := (f120.other W131 (Or.inl ne_a_b96))
  obtain ⟨T135, X135, e135, st135⟩ := getF X131 hx hZ hown (host := "") (Or.inl (hw _ (own_m 22 rfl))) Via.refl e131 f134 (g := (mkF m 162 #[rv a, iv fl, rv b54, iv 3, rv b96, rv b105, rv b115, iv 0, iv 0] [(.ref a), (.int 0), (.ref b105)])) rfl rfl (hb hby own_d10_162)
  have f136 := (f122.other W131 ne_bo_b96)
  obtain ⟨c137, c137A, c137q, c137S, c137N, c137H, c137G⟩ := id f136
  have c137in : ¬ ((0 : Int32) < 0 ∨ c137.slots.size ≤ ((0 : Int32)).toNatClampNeg) := inb_of c137S ⟨by decide, by decide⟩
  have c137at : c137.slots[((0 : Int32)).toNatClampNeg]? = some (.ref o0) := Has.at c137H c137in rfl
  obtain ⟨T138, Lj138, hj138, X138, N138, e138, st138⟩ : ∃  (T138 : State) (Lj138 : List Loc), (True) ∧ Stand p l e ({ frames := 3, cells := 6, slots := 18, locals := 60 } : Room) s m #[(.ref a)] below meth c T138 Lj138 4 12 ∧ Fr n0 Lj138 ∧ T138.heap = h131 ∧ ∀ target, Steps p.tables e below (T138.setTop (mkF m 193 #[rv a, iv fl, rv b54, iv 3, rv b96, rv b105, rv b115, iv 0, iv 0] [(.int f0), (.int 0), (.ref b105)])) target → Steps p.tables e below (T135.setTop (mkF m 168 #[rv a, iv fl, rv b54, iv 3, rv b96, rv b105, rv b115, iv 0, iv 0] [(.ref o0), (.int 0), (.ref b105)])) target := by
    obtain ⟨_, _, ⟨T139, L139, k139, n139⟩, -, X139, ⟨Lc139, hQ139, l139, y139, z139⟩, st139⟩ := Jvm.LawKit.callS X135 hx (y := (⟨"com/example/quillgraph/quillgraph/sparql/RegexProgram$Builder", "isJump", "(Lcom/example/quillgraph/quillgraph/sparql/RegexProgram$Op;)Z"⟩ : MethodName)) hown (mvT hZ (hw _ (own_m 98 rfl))) (mvT hZ (hw _ (own_m 99 rfl))) (mvT hZ (hw _ (own_m 13 rfl))) (mvT hZ (hw _ (own_m 100 rfl))) (by decide) (backOf (W := 2) (own_isj l Z a0 hw [] w_CHARACTER w_SPLIT w_JUMP w_TEXT_START w_LINE_START w_TEXT_END w_LINE_END w_SAVE w_BACK_REFERENCE w_MARK w_PROGRESS w_MATCH w_NOTHING w_DE k_DE o0 h131 n0 O132 U_CHARACTER U_SPLIT U_JUMP U_TEXT_START U_LINE_START U_TEXT_END U_LINE_END U_SAVE U_BACK_REFERENCE U_MARK U_PROGRESS U_MATCH U_NOTHING S_DE V_DE ) hZ (hw _ (own_m 100 rfl)) (hw _ (own_m 13 rfl)) (by decide) (by decide)) (g := (mkF m 168 #[rv a, iv fl, rv b54, iv 3, rv b96, rv b105, rv b115, iv 0, iv 0] [(.ref o0), (.int 0), (.ref b105)])) rfl (by rw [hml]; rfl) (argsL := [(.ref o0)]) (rest := [(.int 0), (.ref b105)]) (lenOf own_pd4 rfl) rfl (by show 2 * 0 + _ ≤ _; exact Nat.le_of_eq rfl) (hb hby own_d10_168) (fun _ _ => ⟨rfl, e135, (by decide : 4 + 0 ≤ _), (by decide : 12 + 0 ≤ _)⟩)
    dsimp only [Pt.U, Pt.locs, Pt.cells, Pt.slots] at X139 l139 y139 z139 st139 hQ139
    subst l139 y139 z139
    obtain ⟨r139, rfl, hr139, N139q, e139⟩ := hQ139
    have N139 := Fr.app N131 N139q
    rcases hr139 with ⟨hy139, hj139q⟩ | ⟨hy139, hj139q⟩
    · have f140 := ((((((((q8.ext E54).other W60 (Or.inl ne_a_b54)).other W71 (Or.inl ne_a_b54)).other W82 (Or.inl ne_a_b54)).ext E96).ext E105).ext E115).other W131 (Or.inl ne_a_b96))
      obtain ⟨T141, X141, e141, st141⟩ := getF X139 hx hZ hown (host := "") (Or.inl (hw _ (own_m 25 rfl))) Via.refl e139 f140 (g := (mkF m 176 #[rv a, iv fl, rv b54, iv 3, rv b96, rv b105, rv b115, iv 0, iv 0] [(.ref a), (.ref b54), (.int 0), (.ref b105)])) rfl rfl (hb hby own_d10_176)
      have f142 := ((f110.ext E115).other W131 ne_bf_b96)
      obtain ⟨c143, c143A, c143q, c143S, c143N, c143H, c143G⟩ := id f142
      have c143in : ¬ ((0 : Int32) < 0 ∨ c143.slots.size ≤ ((0 : Int32)).toNatClampNeg) := inb_of c143S ⟨by decide, by decide⟩
      have c143at : c143.slots[((0 : Int32)).toNatClampNeg]? = some (.int f0) := Has.at c143H c143in rfl
      rcases J0 hj139q with hx182 | hx182 | hx182
      · have f144 := (f125.other W131 ne_b54_b96)
        obtain ⟨c145, c145A, c145q, c145S, c145N, c145H, c145G⟩ := id f144
        have c145in : ¬ ((0 : Int32) < 0 ∨ c145.slots.size ≤ ((0 : Int32)).toNatClampNeg) := inb_of c145S ⟨by decide, by decide⟩
        have c145at : c145.slots[((0 : Int32)).toNatClampNeg]? = some (.int 0) := Has.at c145H c145in rfl
        refine ⟨T141, _, trivial, X141, N139, e141, fun target kt => ?_⟩
        show Steps p.tables e below (T135.setTop (mkF m 168 #[rv a, iv fl, rv b54, iv 3, rv b96, rv b105, rv b115, iv 0, iv 0] [(.ref o0), (.int 0), (.ref b105)])) _
        refine st139 _ ?_
        show Steps p.tables e below (T139.setTop (mkF m 171 #[rv a, iv fl, rv b54, iv 3, rv b96, rv b105, rv b115, iv 0, iv 0] [(.int r139), (.int 0), (.ref b105)])) _
        refine own_top (v' := (.int 1)) (congrArg Value.int hy139) ?_
        show Steps p.tables e below (T139.setTop (mkF m 171 #[rv a, iv fl, rv b54, iv 3, rv b96, rv b105, rv b115, iv 0, iv 0] [(.int 1), (.int 0), (.ref b105)])) _
        refine XS.ifNo X139.here hx rfl (hb hby own_d10_171) rfl ((if0 _ _).trans (feq (by decide)).1) ?_
        show Steps p.tables e below (T139.setTop (mkF m 174 #[rv a, iv fl, rv b54, iv 3, rv b96, rv b105, rv b115, iv 0, iv 0] [(.int 0), (.ref b105)])) _
        refine XS.aloadN X139.here hx rfl (hb hby own_d10_174) rfl rfl ?_
        show Steps p.tables e below (T139.setTop (mkF m 175 #[rv a, iv fl, rv b54, iv 3, rv b96, rv b105, rv b115, iv 0, iv 0] [(.ref b54), (.int 0), (.ref b105)])) _
        refine XS.aloadN X139.here hx rfl (hb hby own_d10_175) rfl rfl ?_
        show Steps p.tables e below (T139.setTop (mkF m 176 #[rv a, iv fl, rv b54, iv 3, rv b96, rv b105, rv b115, iv 0, iv 0] [(.ref a), (.ref b54), (.int 0), (.ref b105)])) _
        refine st141 _ ?_
        show Steps p.tables e below (T141.setTop (mkF m 179 #[rv a, iv fl, rv b54, iv 3, rv b96, rv b105, rv b115, iv 0, iv 0] [(.ref bf), (.ref b54), (.int 0), (.ref b105)])) _
        refine XS.iload X141.here hx rfl (hb hby own_d10_179) rfl ?_
        show Steps p.tables e below (T141.setTop (mkF m 181 #[rv a, iv fl, rv b54, iv 3, rv b96, rv b105, rv b115, iv 0, iv 0] [(.int 0), (.ref bf), (.ref b54), (.int 0), (.ref b105)])) _
        refine X141.iaload hx (j := (0 : Int32)) (v := (.int f0)) (by rw [e141]; exact c143A.1) (State.isArrayOf_alike hZ.alike c143A.2.1) c143A.2.2 c143in c143at (g := (mkF m 181 #[rv a, iv fl, rv b54, iv 3, rv b96, rv b105, rv b115, iv 0, iv 0] [(.int 0), (.ref bf), (.ref b54), (.int 0), (.ref b105)])) rfl rfl (hb hby own_d10_181) _ ?_
        show Steps p.tables e below (T141.setTop (mkF m 182 #[rv a, iv fl, rv b54, iv 3, rv b96, rv b105, rv b115, iv 0, iv 0] [(.int f0), (.ref b54), (.int 0), (.ref b105)])) _
        refine own_top (v' := (.int 0)) (congrArg Value.int hx182) ?_
        show Steps p.tables e below (T141.setTop (mkF m 182 #[rv a, iv fl, rv b54, iv 3, rv b96, rv b105, rv b115, iv 0, iv 0] [(.int 0), (.ref b54), (.int 0), (.ref b105)])) _
        refine X141.iaload hx (j := (0 : Int32)) (v := (.int 0)) (by rw [e141]; exact c145A.1) (State.isArrayOf_alike hZ.alike c145A.2.1) c145A.2.2 c145in c145at (g := (mkF m 182 #[rv a, iv fl, rv b54, iv 3, rv b96, rv b105, rv b115, iv 0, iv 0] [(.int 0), (.ref b54), (.int 0), (.ref b105)])) rfl rfl (hb hby own_d10_182) _ ?_
        show Steps p.tables e below (T141.setTop (mkF m 183 #[rv a, iv fl, rv b54, iv 3, rv b96, rv b105, rv b115, iv 0, iv 0] [(.int 0), (.int 0), (.ref b105)])) _
        refine own_top (v' := (.int f0)) (congrArg Value.int hx182.symm) ?_
        show Steps p.tables e below (T141.setTop (mkF m 183 #[rv a, iv fl, rv b54, iv 3, rv b96, rv b105, rv b115, iv 0, iv 0] [(.int f0), (.int 0), (.ref b105)])) _
        refine XS.goto X141.here hx rfl (pc0 := 183) (pc' := 193) rfl (hb hby own_d10_183) (by decide) (by decide) ?_
        show Steps p.tables e below (T141.setTop (mkF m 193 #[rv a, iv fl, rv b54, iv 3, rv b96, rv b105, rv b115, iv 0, iv 0] [(.int f0), (.int 0), (.ref b105)])) _
        exact kt
      · have f146 := (f125.other W131 ne_b54_b96)
        obtain ⟨c147, c147A, c147q, c147S, c147N, c147H, c147G⟩ := id f146
        have c147in : ¬ ((1 : Int32) < 0 ∨ c147.slots.size ≤ ((1 : Int32)).toNatClampNeg) := inb_of c147S ⟨by decide, by decide⟩
        have c147at : c147.slots[((1 : Int32)).toNatClampNeg]? = some (.int 1) := Has.at c147H c147in rfl
        refine ⟨T141, _, trivial, X141, N139, e141, fun target kt => ?_⟩
        show Steps p.tables e below (T135.setTop (mkF m 168 #[rv a, iv fl, rv b54, iv 3, rv b96, rv b105, rv b115, iv 0, iv 0] [(.ref o0), (.int 0), (.ref b105)])) _
        refine st139 _ ?_
        show Steps p.tables e below (T139.setTop (mkF m 171 #[rv a, iv fl, rv b54, iv 3, rv b96, rv b105, rv b115, iv 0, iv 0] [(.int r139), (.int 0), (.ref b105)])) _
        refine own_top (v' := (.int 1)) (congrArg Value.int hy139) ?_
        show Steps p.tables e below (T139.setTop (mkF m 171 #[rv a, iv fl, rv b54, iv 3, rv b96, rv b105, rv b115, iv 0, iv 0] [(.int 1), (.int 0), (.ref b105)])) _
        refine XS.ifNo X139.here hx rfl (hb hby own_d10_171) rfl ((if0 _ _).trans (feq (by decide)).1) ?_
        show Steps p.tables e below (T139.setTop (mkF m 174 #[rv a, iv fl, rv b54, iv 3, rv b96, rv b105, rv b115, iv 0, iv 0] [(.int 0), (.ref b105)])) _
        refine XS.aloadN X139.here hx rfl (hb hby own_d10_174) rfl rfl ?_
        show Steps p.tables e below (T139.setTop (mkF m 175 #[rv a, iv fl, rv b54, iv 3, rv b96, rv b105, rv b115, iv 0, iv 0] [(.ref b54), (.int 0), (.ref b105)])) _
        refine XS.aloadN X139.here hx rfl (hb hby own_d10_175) rfl rfl ?_
        show Steps p.tables e below (T139.setTop (mkF m 176 #[rv a, iv fl, rv b54, iv 3, rv b96, rv b105, rv b115, iv 0, iv 0] [(.ref a), (.ref b54), (.int 0), (.ref b105)])) _
        refine st141 _ ?_
        show Steps p.tables e below (T141.setTop (mkF m 179 #[rv a, iv fl, rv b54, iv 3, rv b96, rv b105, rv b115, iv 0, iv 0] [(.ref bf), (.ref b54), (.int 0), (.ref b105)])) _
        refine XS.iload X141.here hx rfl (hb hby own_d10_179) rfl ?_
        show Steps p.tables e below (T141.setTop (mkF m 181 #[rv a, iv fl, rv b54, iv 3, rv b96, rv b105, rv b115, iv 0, iv 0] [(.int 0), (.ref bf), (.ref b54), (.int 0), (.ref b105)])) _
        refine X141.iaload hx (j := (0 : Int32)) (v := (.int f0)) (by rw [e141]; exact c143A.1) (State.isArrayOf_alike hZ.alike c143A.2.1) c143A.2.2 c143in c143at (g := (mkF m 181 #[rv a, iv fl, rv b54, iv 3, rv b96, rv b105, rv b115, iv 0, iv 0] [(.int 0), (.ref bf), (.ref b54), (.int 0), (.ref b105)])) rfl rfl (hb hby own_d10_181) _ ?_
        show Steps p.tables e below (T141.setTop (mkF m 182 #[rv a, iv fl, rv b54, iv 3, rv b96, rv b105, rv b115, iv 0, iv 0] [(.int f0), (.ref b54), (.int 0), (.ref b105)])) _
        refine own_top (v' := (.int 1)) (congrArg Value.int hx182) ?_
        show Steps p.tables e below (T141.setTop (mkF m 182 #[rv a, iv fl, rv b54, iv 3, rv b96, rv b105, rv b115, iv 0, iv 0] [(.int 1), (.ref b54), (.int 0), (.ref b105)])) _
        refine X141.iaload hx (j := (1 : Int32)) (v := (.int 1)) (by rw [e141]; exact c147A.1) (State.isArrayOf_alike hZ.alike c147A.2.1) c147A.2.2 c147in c147at (g := (mkF m 182 #[rv a, iv fl, rv b54, iv 3, rv b96, rv b105, rv b115, iv 0, iv 0] [(.int 1), (.ref b54), (.int 0), (.ref b105)])) rfl rfl (hb hby own_d10_182) _ ?_
        show Steps p.tables e below (T141.setTop (mkF m 183 #[rv a, iv fl, rv b54, iv 3, rv b96, rv b105, rv b115, iv 0, iv 0] [(.int 1), (.int 0), (.ref b105)])) _
        refine own_top (v' := (.int f0)) (congrArg Value.int hx182.symm) ?_
        show Steps p.tables e below (T141.setTop (mkF m 183 #[rv a, iv fl, rv b54, iv 3, rv b96, rv b105, rv b115, iv 0, iv 0] [(.int f0), (.int 0), (.ref b105)])) _
        refine XS.goto X141.here hx rfl (pc0 := 183) (pc' := 193) rfl (hb hby own_d10_183) (by decide) (by decide) ?_
        show Steps p.tables e below (T141.setTop (mkF m 193 #[rv a, iv fl, rv b54, iv 3, rv b96, rv b105, rv b115, iv 0, iv 0] [(.int f0), (.int 0), (.ref b105)])) _
        exact kt
      · have f148 := (f125.other W131 ne_b54_b96)
        obtain ⟨c149, c149A, c149q, c149S, c149N, c149H, c149G⟩ := id f148
        have c149in : ¬ ((2 : Int32) < 0 ∨ c149.slots.size ≤ ((2 : Int32)).toNatClampNeg) := inb_of c149S ⟨by decide, by decide⟩
        have c149at : c149.slots[((2 : Int32)).toNatClampNeg]? = some (.int 2) := Has.at c149H c149in rfl
        refine ⟨T141, _, trivial, X141, N139, e141, fun target kt => ?_⟩
        show Steps p.tables e below (T135.setTop (mkF m 168 #[rv a, iv fl, rv b54, iv 3, rv b96, rv b105, rv b115, iv 0, iv 0] [(.ref o0), (.int 0), (.ref b105)])) _
        refine st139 _ ?_
        show Steps p.tables e below (T139.setTop (mkF m 171 #[rv a, iv fl, rv b54, iv 3, rv b96, rv b105, rv b115, iv 0, iv 0] [(.int r139), (.int 0), (.ref b105)])) _
        refine own_top (v' := (.int 1)) (congrArg Value.int hy139) ?_
        show Steps p.tables e below (T139.setTop (mkF m 171 #[rv a, iv fl, rv b54, iv 3, rv b96, rv b105, rv b115, iv 0, iv 0] [(.int 1), (.int 0), (.ref b105)])) _
        refine XS.ifNo X139.here hx rfl (hb hby own_d10_171) rfl ((if0 _ _).trans (feq (by decide)).1) ?_
        show Steps p.tables e below (T139.setTop (mkF m 174 #[rv a, iv fl, rv b54, iv 3, rv b96, rv b105, rv b115, iv 0, iv 0] [(.int 0), (.ref b105)])) _
        refine XS.aloadN X139.here hx rfl (hb hby own_d10_174) rfl rfl ?_
        show Steps p.tables e below (T139.setTop (mkF m 175 #[rv a, iv fl, rv b54, iv 3, rv b96, rv b105, rv b115, iv 0, iv 0] [(.ref b54), (.int 0), (.ref b105)])) _
        refine XS.aloadN X139.here hx rfl (hb hby own_d10_175) rfl rfl ?_
        show Steps p.tables e below (T139.setTop (mkF m 176 #[rv a, iv fl, rv b54, iv 3, rv b96, rv b105, rv b115, iv 0, iv 0] [(.ref a), (.ref b54), (.int 0), (.ref b105)])) _
        refine st141 _ ?_
        show Steps p.tables e below (T141.setTop (mkF m 179 #[rv a, iv fl, rv b54, iv 3, rv b96, rv b105, rv b115, iv 0, iv 0] [(.ref bf), (.ref b54), (.int 0), (.ref b105)])) _
        refine XS.iload X141.here hx rfl (hb hby own_d10_179) rfl ?_
        show Steps p.tables e below (T141.setTop (mkF m 181 #[rv a, iv fl, rv b54, iv 3, rv b96, rv b105, rv b115, iv 0, iv 0] [(.int 0), (.ref bf), (.ref b54), (.int 0), (.ref b105)])) _
        refine X141.iaload hx (j := (0 : Int32)) (v := (.int f0)) (by rw [e141]; exact c143A.1) (State.isArrayOf_alike hZ.alike c143A.2.1) c143A.2.2 c143in c143at (g := (mkF m 181 #[rv a, iv fl, rv b54, iv 3, rv b96, rv b105, rv b115, iv 0, iv 0] [(.int 0), (.ref bf), (.ref b54), (.int 0), (.ref b105)])) rfl rfl (hb hby own_d10_181) _ ?_
        show Steps p.tables e below (T141.setTop (mkF m 182 #[rv a, iv fl, rv b54, iv 3, rv b96, rv b105, rv b115, iv 0, iv 0] [(.int f0), (.ref b54), (.int 0), (.ref b105)])) _
        refine own_top (v' := (.int 2)) (congrArg Value.int hx182) ?_
        show Steps p.tables e below (T141.setTop (mkF m 182 #[rv a, iv fl, rv b54, iv 3, rv b96, rv b105, rv b115, iv 0, iv 0] [(.int 2), (.ref b54), (.int 0), (.ref b105)])) _
        refine X141.iaload hx (j := (2 : Int32)) (v := (.int 2)) (by rw [e141]; exact c149A.1) (State.isArrayOf_alike hZ.alike c149A.2.1) c149A.2.2 c149in c149at (g := (mkF m 182 #[rv a, iv fl, rv b54, iv 3, rv b96, rv b105, rv b115, iv 0, iv 0] [(.int 2), (.ref b54), (.int 0), (.ref b105)])) rfl rfl (hb hby own_d10_182) _ ?_
        show Steps p.tables e below (T141.setTop (mkF m 183 #[rv a, iv fl, rv b54, iv 3, rv b96, rv b105, rv b115, iv 0, iv 0] [(.int 2), (.int 0), (.ref b105)])) _
        refine own_top (v' := (.int f0)) (congrArg Value.int hx182.symm) ?_
        show Steps p.tables e below (T141.setTop (mkF m 183 #[rv a, iv fl, rv b54, iv 3, rv b96, rv b105, rv b115, iv 0, iv 0] [(.int f0), (.int 0), (.ref b105)])) _
        refine XS.goto X141.here hx rfl (pc0 := 183) (pc' := 193) rfl (hb hby own_d10_183) (by decide) (by decide) ?_
        show Steps p.tables e below (T141.setTop (mkF m 193 #[rv a, iv fl, rv b54, iv 3, rv b96, rv b105, rv b115, iv 0, iv 0] [(.int f0), (.int 0), (.ref b105)])) _
        exact kt
    · have f150 := ((((((((q8.ext E54).other W60 (Or.inl ne_a_b54)).other W71 (Or.inl ne_a_b54)).other W82 (Or.inl ne_a_b54)).ext E96).ext E105).ext E115).other W131 (Or.inl ne_a_b96))
      obtain ⟨T151, X151, e151, st151⟩ := getF X139 hx hZ hown (host := "") (Or.inl (hw _ (own_m 25 rfl))) Via.refl e139 f150 (g := (mkF m 187 #[rv a, iv fl, rv b54, iv 3, rv b96, rv b105, rv b115, iv 0, iv 0] [(.ref a), (.int 0), (.ref b105)])) rfl rfl (hb hby own_d10_187)
      have f152 := ((f110.ext E115).other W131 ne_bf_b96)
      obtain ⟨c153, c153A, c153q, c153S, c153N, c153H, c153G⟩ := id f152
      have c153in : ¬ ((0 : Int32) < 0 ∨ c153.slots.size ≤ ((0 : Int32)).toNatClampNeg) := inb_of c153S ⟨by decide, by decide⟩
      have c153at : c153.slots[((0 : Int32)).toNatClampNeg]? = some (.int f0) := Has.at c153H c153in rfl
      refine ⟨T151, _, trivial, X151, N139, e151, fun target kt => ?_⟩
      show Steps p.tables e below (T135.setTop (mkF m 168 #[rv a, iv fl, rv b54, iv 3, rv b96, rv b105, rv b115, iv 0, iv 0] [(.ref o0), (.int 0), (.ref b105)])) _
      refine st139 _ ?_
      show Steps p.tables e below (T139.setTop (mkF m 171 #[rv a, iv fl, rv b54, iv 3, rv b96, rv b105, rv b115, iv 0, iv 0] [(.int r139), (.int 0), (.ref b105)])) _
      refine own_top (v' := (.int 0)) (congrArg Value.int hy139) ?_
      show Steps p.tables e below (T139.setTop (mkF m 171 #[rv a, iv fl, rv b54, iv 3, rv b96, rv b105, rv b115, iv 0, iv 0] [(.int 0), (.int 0), (.ref b105)])) _
      refine XS.ifYes X139.here hx rfl (pc0 := 171) (pc' := 186) rfl (hb hby own_d10_171) rfl ((if0 _ _).trans (teq (by decide)).1) (by decide) (by decide) ?_
      show Steps p.tables e below (T139.setTop (mkF m 186 #[rv a, iv fl, rv b54, iv 3, rv b96, rv b105, rv b115, iv 0, iv 0] [(.int 0), (.ref b105)])) _
      refine XS.aloadN X139.here hx rfl (hb hby own_d10_186) rfl rfl ?_
      show Steps p.tables e below (T139.setTop (mkF m 187 #[rv a, iv fl, rv b54, iv 3, rv b96, rv b105, rv b115, iv 0, iv 0] [(.ref a), (.int 0), (.ref b105)])) _
      refine st151 _ ?_
      show Steps p.tables e below (T151.setTop (mkF m 190 #[rv a, iv fl, rv b54, iv 3, rv b96, rv b105, rv b115, iv 0, iv 0] [(.ref bf), (.int 0), (.ref b105)])) _
      refine XS.iload X151.here hx rfl (hb hby own_d10_190) rfl ?_
      show Steps p.tables e below (T151.setTop (mkF m 192 #[rv a, iv fl, rv b54, iv 3, rv b96, rv b105, rv b115, iv 0, iv 0] [(.int 0), (.ref bf), (.int 0), (.ref b105)])) _
      refine X151.iaload hx (j := (0 : Int32)) (v := (.int f0)) (by rw [e151]; exact c153A.1) (State.isArrayOf_alike hZ.alike c153A.2.1) c153A.2.2 c153in c153at (g := (mkF m 192 #[rv a, iv fl, rv b54, iv 3, rv b96, rv b105, rv b115, iv 0, iv 0] [(.int 0), (.ref bf), (.int 0), (.ref b105)])) rfl rfl (hb hby own_d10_192) _ ?_
      show Steps p.tables e below (T151.setTop (mkF m 193 #[rv a, iv fl, rv b54, iv 3, rv b96, rv b105, rv b115, iv 0, iv 0] [(.int f0), (.int 0), (.ref b105)])) _
      exact kt
  have f154 := ((V_b105.ext E115).other W131 (Ne.symm ne_b96_b105))
  obtain ⟨c155, c155A, c155q, c155S, c155N, c155H, c155G⟩ := id f154
  have c155in : ¬ ((0 : Int32) < 0 ∨ c155.slots.size ≤ ((0 : Int32)).toNatClampNeg) := inb_of c155S ⟨by decide, by decide⟩
  obtain ⟨T156, h156, X156, e156, W156, st156⟩ := stI X138 hx hZ e138 c155A (j := (0 : Int32)) c155in (g := (mkF m 193 #[rv a, iv fl, rv b54, iv 3, rv b96, rv b105, rv b115, iv 0, iv 0] [(.int f0), (.int 0), (.ref b105)])) rfl rfl (hb hby own_d10_193)
  have V156 : Arv Z h156 b105 k105 .int (3 : Int32) [(.int f0), (.int 0), (.int 0)] (.int 0) := Arv.set c155A c155q c155S c155N c155H c155G rfl W156 0 rfl (Nat.le_of_ble_eq_true rfl)
  have O157 := O132.wr W156 gg_b105
  have kp158 := kp133.wr W156 (Or.inr sz_b105)
  have N156 := Fr.snoc X156 N138 gg_b105
  have f159 := (f134.other W156 (Or.inl ne_a_b105))
  obtain ⟨T160, X160, e160, st160⟩ := getF X156 hx hZ hown (host := "") (Or.inl (hw _ (own_m 22 rfl))) Via.refl e156 f159 (g := (mkF m 199 #[rv a, iv fl, rv b54, iv 3, rv b96, rv b105, rv b115, iv 0, iv 0] [(.ref a), (.int 0), (.ref b115)])) rfl rfl (hb hby own_d10_199)
  have f161 := (f136.other W156 ne_bo_b105)
  obtain ⟨c162, c162A, c162q, c162S, c162N, c162H, c162G⟩ := id f161
  have c162in : ¬ ((0 : Int32) < 0 ∨ c162.slots.size ≤ ((0 : Int32)).toNatClampNeg) := inb_of c162S ⟨by decide, by decide⟩
  have c162at : c162.slots[((0 : Int32)).toNatClampNeg]? = some (.ref o0) := Has.at c162H c162in rfl
  obtain ⟨T163, Lj163, hj163, X163, N163, e163, st163⟩ : ∃  (T163 : State) (Lj163 : List Loc), (True) ∧ Stand p l e ({ frames := 3, cells := 6, slots := 18, locals := 60 } : Room) s m #[(.ref a)] below meth c T163 Lj163 4 12 ∧ Fr n0 Lj163 ∧ T163.heap = h156 ∧ ∀ target, Steps p.tables e below (T163.setTop (mkF m 230 #[rv a, iv fl, rv b54, iv 3, rv b96, rv b105, rv b115, iv 0, iv 0] [(.int s0), (.int 0), (.ref b115)])) target → Steps p.tables e below (T160.setTop (mkF m 205 #[rv a, iv fl, rv b54, iv 3, rv b96, rv b105, rv b115, iv 0, iv 0] [(.ref o0), (.int 0), (.ref b115)])) target := by
    obtain ⟨T164, X164, e164, st164⟩ := getS2 X160 hx hZ hown (host := "") (Or.inl (hw _ (own_m 101 rfl))) Via.refl e160 (U_SPLIT.1.ext O157.2) (g := (mkF m 205 #[rv a, iv fl, rv b54, iv 3, rv b96, rv b105, rv b115, iv 0, iv 0] [(.ref o0), (.int 0), (.ref b115)])) rfl (hb hby own_d10_205)
    by_cases ha165 : o0 = w_SPLIT
    · have f166 := (((((((((q9.ext E54).other W60 (Or.inl ne_a_b54)).other W71 (Or.inl ne_a_b54)).other W82 (Or.inl ne_a_b54)).ext E96).ext E105).ext E115).other W131 (Or.inl ne_a_b96)).other W156 (Or.inl ne_a_b105))
      obtain ⟨T167, X167, e167, st167⟩ := getF X164 hx hZ hown (host := "") (Or.inl (hw _ (own_m 27 rfl))) Via.refl e164 f166 (g := (mkF m 213 #[rv a, iv fl, rv b54, iv 3, rv b96, rv b105, rv b115, iv 0, iv 0] [(.ref a), (.ref b54), (.int 0), (.ref b115)])) rfl rfl (hb hby own_d10_213)
      have f168 := (((f111.ext E115).other W131 ne_bs_b96).other W156 ne_bs_b105)
      obtain ⟨c169, c169A, c169q, c169S, c169N, c169H, c169G⟩ := id f168
      have c169in : ¬ ((0 : Int32) < 0 ∨ c169.slots.size ≤ ((0 : Int32)).toNatClampNeg) := inb_of c169S ⟨by decide, by decide⟩
      have c169at : c169.slots[((0 : Int32)).toNatClampNeg]? = some (.int s0) := Has.at c169H c169in rfl
      rcases P0 ha165 with hx219 | hx219 | hx219
      · have f170 := ((f125.other W131 ne_b54_b96).other W156 ne_b54_b105)
        obtain ⟨c171, c171A, c171q, c171S, c171N, c171H, c171G⟩ := id f170
        have c171in : ¬ ((0 : Int32) < 0 ∨ c171.slots.size ≤ ((0 : Int32)).toNatClampNeg) := inb_of c171S ⟨by decide, by decide⟩
        have c171at : c171.slots[((0 : Int32)).toNatClampNeg]? = some (.int 0) := Has.at c171H c171in rfl
        refine ⟨T167, _, trivial, X167, N156, e167, fun target kt => ?_⟩
        show Steps p.tables e below (T160.setTop (mkF m 205 #[rv a, iv fl, rv b54, iv 3, rv b96, rv b105, rv b115, iv 0, iv 0] [(.ref o0), (.int 0), (.ref b115)])) _
        refine st164 _ ?_
        show Steps p.tables e below (T164.setTop (mkF m 208 #[rv a, iv fl, rv b54, iv 3, rv b96, rv b105, rv b115, iv 0, iv 0] [(.ref w_SPLIT), (.ref o0), (.int 0), (.ref b115)])) _
        refine Jvm.RoadKit.acmp (g := (mkF m 208 #[rv a, iv fl, rv b54, iv 3, rv b96, rv b105, rv b115, iv 0, iv 0] [(.ref w_SPLIT), (.ref o0), (.int 0), (.ref b115)])) X164 hx rfl rfl rfl (pc0 := 208) (pc' := 211) (same := true) rfl (hb hby own_d10_208) rfl (decide_eq_true (congrArg Value.ref ha165)) (by decide) (by decide) ?_
        show Steps p.tables e below (T164.setTop (mkF m 211 #[rv a, iv fl, rv b54, iv 3, rv b96, rv b105, rv b115, iv 0, iv 0] [(.int 0), (.ref b115)])) _
        refine XS.aloadN X164.here hx rfl (hb hby own_d10_211) rfl rfl ?_
        show Steps p.tables e below (T164.setTop (mkF m 212 #[rv a, iv fl, rv b54, iv 3, rv b96, rv b105, rv b115, iv 0, iv 0] [(.ref b54), (.int 0), (.ref b115)])) _
        refine XS.aloadN X164.here hx rfl (hb hby own_d10_212) rfl rfl ?_
        show Steps p.tables e below (T164.setTop (mkF m 213 #[rv a, iv fl, rv b54, iv 3, rv b96, rv b105, rv b115, iv 0, iv 0] [(.ref a), (.ref b54), (.int 0), (.ref b115)])) _
        refine st167 _ ?_
        show Steps p.tables e below (T167.setTop (mkF m 216 #[rv a, iv fl, rv b54, iv 3, rv b96, rv b105, rv b115, iv 0, iv 0] [(.ref bs), (.ref b54), (.int 0), (.ref b115)])) _
        refine XS.iload X167.here hx rfl (hb hby own_d10_216) rfl ?_
        show Steps p.tables e below (T167.setTop (mkF m 218 #[rv a, iv fl, rv b54, iv 3, rv b96, rv b105, rv b115, iv 0, iv 0] [(.int 0), (.ref bs), (.ref b54), (.int 0), (.ref b115)])) _
        refine X167.iaload hx (j := (0 : Int32)) (v := (.int s0)) (by rw [e167]; exact c169A.1) (State.isArrayOf_alike hZ.alike c169A.2.1) c169A.2.2 c169in c169at (g := (mkF m 218 #[rv a, iv fl, rv b54, iv 3, rv b96, rv b105, rv b115, iv 0, iv 0] [(.int 0), (.ref bs), (.ref b54), (.int 0), (.ref b115)])) rfl rfl (hb hby own_d10_218) _ ?_
        show Steps p.tables e below (T167.setTop (mkF m 219 #[rv a, iv fl, rv b54, iv 3, rv b96, rv b105, rv b115, iv 0, iv 0] [(.int s0), (.ref b54), (.int 0), (.ref b115)])) _
        refine own_top (v' := (.int 0)) (congrArg Value.int hx219) ?_
        show Steps p.tables e below (T167.setTop (mkF m 219 #[rv a, iv fl, rv b54, iv 3, rv b96, rv b105, rv b115, iv 0, iv 0] [(.int 0), (.ref b54), (.int 0), (.ref b115)])) _
        refine X167.iaload hx (j := (0 : Int32)) (v := (.int 0)) (by rw [e167]; exact c171A.1) (State.isArrayOf_alike hZ.alike c171A.2.1) c171A.2.2 c171in c171at (g := (mkF m 219 #[rv a, iv fl, rv b54, iv 3, rv b96, rv b105, rv b115, iv 0, iv 0] [(.int 0), (.ref b54), (.int 0), (.ref b115)])) rfl rfl (hb hby own_d10_219) _ ?_
        show Steps p.tables e below (T167.setTop (mkF m 220 #[rv a, iv fl, rv b54, iv 3, rv b96, rv b105, rv b115, iv 0, iv 0] [(.int 0), (.int 0), (.ref b115)])) _
        refine own_top (v' := (.int s0)) (congrArg Value.int hx219.symm) ?_
        show Steps p.tables e below (T167.setTop (mkF m 220 #[rv a, iv fl, rv b54, iv 3, rv b96, rv b105, rv b115, iv 0, iv 0] [(.int s0), (.int 0), (.ref b115)])) _
        refine XS.goto X167.here hx rfl (pc0 := 220) (pc' := 230) rfl (hb hby own_d10_220) (by decide) (by decide) ?_
        show Steps p.tables e below (T167.setTop (mkF m 230 #[rv a, iv fl, rv b54, iv 3, rv b96, rv b105, rv b115, iv 0, iv 0] [(.int s0), (.int 0), (.ref b115)])) _
        exact kt
      · have f172 := ((f125.other W131 ne_b54_b96).other W156 ne_b54_b105)
        obtain ⟨c173, c173A, c173q, c173S, c173N, c173H, c173G⟩ := id f172
        have c173in : ¬ ((1 : Int32) < 0 ∨ c173.slots.size ≤ ((1 : Int32)).toNatClampNeg) := inb_of c173S ⟨by decide, by decide⟩
        have c173at : c173.slots[((1 : Int32)).toNatClampNeg]? = some (.int 1) := Has.at c173H c173in rfl
        refine ⟨T167, _, trivial, X167, N156, e167, fun target kt => ?_⟩
        show Steps p.tables e below (T160.setTop (mkF m 205 #[rv a, iv fl, rv b54, iv 3, rv b96, rv b105, rv b115, iv 0, iv 0] [(.ref o0), (.int 0), (.ref b115)])) _
        refine st164 _ ?_
        show Steps p.tables e below (T164.setTop (mkF m 208 #[rv a, iv fl, rv b54, iv 3, rv b96, rv b105, rv b115, iv 0, iv 0] [(.ref w_SPLIT), (.ref o0), (.int 0), (.ref b115)])) _
        refine Jvm.RoadKit.acmp (g := (mkF m 208 #[rv a, iv fl, rv b54, iv 3, rv b96, rv b105, rv b115, iv 0, iv 0] [(.ref w_SPLIT), (.ref o0), (.int 0), (.ref b115)])) X164 hx rfl rfl rfl (pc0 := 208) (pc' := 211) (same := true) rfl (hb hby own_d10_208) rfl (decide_eq_true (congrArg Value.ref ha165)) (by decide) (by decide) ?_
        show Steps p.tables e below (T164.setTop (mkF m 211 #[rv a, iv fl, rv b54, iv 3, rv b96, rv b105, rv b115, iv 0, iv 0] [(.int 0), (.ref b115)])) _
        refine XS.aloadN X164.here hx rfl (hb hby own_d10_211) rfl rfl ?_
        show Steps p.tables e below (T164.setTop (mkF m 212 #[rv a, iv fl, rv b54, iv 3, rv b96, rv b105, rv b115, iv 0, iv 0] [(.ref b54), (.int 0), (.ref b115)])) _
        refine XS.aloadN X164.here hx rfl (hb hby own_d10_212) rfl rfl ?_
        show Steps p.tables e below (T164.setTop (mkF m 213 #[rv a, iv fl, rv b54, iv 3, rv b96, rv b105, rv b115, iv 0, iv 0] [(.ref a), (.ref b54), (.int 0), (.ref b115)])) _
        refine st167 _ ?_
        show Steps p.tables e below (T167.setTop (mkF m 216 #[rv a, iv fl, rv b54, iv 3, rv b96, rv b105, rv b115, iv 0, iv 0] [(.ref bs), (.ref b54), (.int 0), (.ref b115)])) _
        refine XS.iload X167.here hx rfl (hb hby own_d10_216) rfl ?_
        show Steps p.tables e below (T167.setTop (mkF m 218 #[rv a, iv fl, rv b54, iv 3, rv b96, rv b105, rv b115, iv 0, iv 0] [(.int 0), (.ref bs), (.ref b54), (.int 0), (.ref b115)])) _
        refine X167.iaload hx (j := (0 : Int32)) (v := (.int s0)) (by rw [e167]; exact c169A.1) (State.isArrayOf_alike hZ.alike c169A.2.1) c169A.2.2 c169in c169at (g := (mkF m 218 #[rv a, iv fl, rv b54, iv 3, rv b96, rv b105, rv b115, iv 0, iv 0] [(.int 0), (.ref bs), (.ref b54), (.int 0), (.ref b115)])) rfl rfl (hb hby own_d10_218) _ ?_
        show Steps p.tables e below (T167.setTop (mkF m 219 #[rv a, iv fl, rv b54, iv 3, rv b96, rv b105, rv b115, iv 0, iv 0] [(.int s0), (.ref b54), (.int 0), (.ref b115)])) _
        refine own_top (v' := (.int 1)) (congrArg Value.int hx219) ?_
        show Steps p.tables e below (T167.setTop (mkF m 219 #[rv a, iv fl, rv b54, iv 3, rv b96, rv b105, rv b115, iv 0, iv 0] [(.int 1), (.ref b54), (.int 0), (.ref b115)])) _
        refine X167.iaload hx (j := (1 : Int32)) (v := (.int 1)) (by rw [e167]; exact c173A.1) (State.isArrayOf_alike hZ.alike c173A.2.1) c173A.2.2 c173in c173at (g := (mkF m 219 #[rv a, iv fl, rv b54, iv 3, rv b96, rv b105, rv b115, iv 0, iv 0] [(.int 1), (.ref b54), (.int 0), (.ref b115)])) rfl rfl (hb hby own_d10_219) _ ?_
        show Steps p.tables e below (T167.setTop (mkF m 220 #[rv a, iv fl, rv b54, iv 3, rv b96, rv b105, rv b115, iv 0, iv 0] [(.int 1), (.int 0), (.ref b115)])) _
        refine own_top (v' := (.int s0)) (congrArg Value.int hx219.symm) ?_
        show Steps p.tables e below (T167.setTop (mkF m 220 #[rv a, iv fl, rv b54, iv 3, rv b96, rv b105, rv b115, iv 0, iv 0] [(.int s0), (.int 0), (.ref b115)])) _
        refine XS.goto X167.here hx rfl (pc0 := 220) (pc' := 230) rfl (hb hby own_d10_220) (by decide) (by decide) ?_
        show Steps p.tables e below (T167.setTop (mkF m 230 #[rv a, iv fl, rv b54, iv 3, rv b96, rv b105, rv b115, iv 0, iv 0] [(.int s0), (.int 0), (.ref b115)])) _
        exact kt
      · have f174 := ((f125.other W131 ne_b54_b96).other W156 ne_b54_b105)
        obtain ⟨c175, c175A, c175q, c175S, c175N, c175H, c175G⟩ := id f174
        have c175in : ¬ ((2 : Int32) < 0 ∨ c175.slots.size ≤ ((2 : Int32)).toNatClampNeg) := inb_of c175S ⟨by decide, by decide⟩
        have c175at : c175.slots[((2 : Int32)).toNatClampNeg]? = some (.int 2) := Has.at c175H c175in rfl
        refine ⟨T167, _, trivial, X167, N156, e167, fun target kt => ?_⟩
        show Steps p.tables e below (T160.setTop (mkF m 205 #[rv a, iv fl, rv b54, iv 3, rv b96, rv b105, rv b115, iv 0, iv 0] [(.ref o0), (.int 0), (.ref b115)])) _
        refine st164 _ ?_
        show Steps p.tables e below (T164.setTop (mkF m 208 #[rv a, iv fl, rv b54, iv 3, rv b96, rv b105, rv b115, iv 0, iv 0] [(.ref w_SPLIT), (.ref o0), (.int 0), (.ref b115)])) _
        refine Jvm.RoadKit.acmp (g := (mkF m 208 #[rv a, iv fl, rv b54, iv 3, rv b96, rv b105, rv b115, iv 0, iv 0] [(.ref w_SPLIT), (.ref o0), (.int 0), (.ref b115)])) X164 hx rfl rfl rfl (pc0 := 208) (pc' := 211) (same := true) rfl (hb hby own_d10_208) rfl (decide_eq_true (congrArg Value.ref ha165)) (by decide) (by decide) ?_
        show Steps p.tables e below (T164.setTop (mkF m 211 #[rv a, iv fl, rv b54, iv 3, rv b96, rv b105, rv b115, iv 0, iv 0] [(.int 0), (.ref b115)])) _
        refine XS.aloadN X164.here hx rfl (hb hby own_d10_211) rfl rfl ?_
        show Steps p.tables e below (T164.setTop (mkF m 212 #[rv a, iv fl, rv b54, iv 3, rv b96, rv b105, rv b115, iv 0, iv 0] [(.ref b54), (.int 0), (.ref b115)])) _
        refine XS.aloadN X164.here hx rfl (hb hby own_d10_212) rfl rfl ?_
        show Steps p.tables e below (T164.setTop (mkF m 213 #[rv a, iv fl, rv b54, iv 3, rv b96, rv b105, rv b115, iv 0, iv 0] [(.ref a), (.ref b54), (.int 0), (.ref b115)])) _
        refine st167 _ ?_
        show Steps p.tables e below (T167.setTop (mkF m 216 #[rv a, iv fl, rv b54, iv 3, rv b96, rv b105, rv b115, iv 0, iv 0] [(.ref bs), (.ref b54), (.int 0), (.ref b115)])) _
        refine XS.iload X167.here hx rfl (hb hby own_d10_216) rfl ?_
        show Steps p.tables e below (T167.setTop (mkF m 218 #[rv a, iv fl, rv b54, iv 3, rv b96, rv b105, rv b115, iv 0, iv 0] [(.int 0), (.ref bs), (.ref b54), (.int 0), (.ref b115)])) _
        refine X167.iaload hx (j := (0 : Int32)) (v := (.int s0)) (by rw [e167]; exact c169A.1) (State.isArrayOf_alike hZ.alike c169A.2.1) c169A.2.2 c169in c169at (g := (mkF m 218 #[rv a, iv fl, rv b54, iv 3, rv b96, rv b105, rv b115, iv 0, iv 0] [(.int 0), (.ref bs), (.ref b54), (.int 0), (.ref b115)])) rfl rfl (hb hby own_d10_218) _ ?_
        show Steps p.tables e below (T167.setTop (mkF m 219 #[rv a, iv fl, rv b54, iv 3, rv b96, rv b105, rv b115, iv 0, iv 0] [(.int s0), (.ref b54), (.int 0), (.ref b115)])) _
        refine own_top (v' := (.int 2)) (congrArg Value.int hx219) ?_
        show Steps p.tables e below (T167.setTop (mkF m 219 #[rv a, iv fl, rv b54, iv 3, rv b96, rv b105, rv b115, iv 0, iv 0] [(.int 2), (.ref b54), (.int 0), (.ref b115)])) _
        refine X167.iaload hx (j := (2 : Int32)) (v := (.int 2)) (by rw [e167]; exact c175A.1) (State.isArrayOf_alike hZ.alike c175A.2.1) c175A.2.2 c175in c175at (g := (mkF m 219 #[rv a, iv fl, rv b54, iv 3, rv b96, rv b105, rv b115, iv 0, iv 0] [(.int 2), (.ref b54), (.int 0), (.ref b115)])) rfl rfl (hb hby own_d10_219) _ ?_
        show Steps p.tables e below (T167.setTop (mkF m 220 #[rv a, iv fl, rv b54, iv 3, rv b96, rv b105, rv b115, iv 0, iv 0] [(.int 2), (.int 0), (.ref b115)])) _
        refine own_top (v' := (.int s0)) (congrArg Value.int hx219.symm) ?_
        show Steps p.tables e below (T167.setTop (mkF m 220 #[rv a, iv fl, rv b54, iv 3, rv b96, rv b105, rv b115, iv 0, iv 0] [(.int s0), (.int 0), (.ref b115)])) _
        refine XS.goto X167.here hx rfl (pc0 := 220) (pc' := 230) rfl (hb hby own_d10_220) (by decide) (by decide) ?_
        show Steps p.tables e below (T167.setTop (mkF m 230 #[rv a, iv fl, rv b54, iv 3, rv b96, rv b105, rv b115, iv 0, iv 0] [(.int s0), (.int 0), (.ref b115)])) _
        exact kt
    · have f176 := (((((((((q9.ext E54).other W60 (Or.inl ne_a_b54)).other W71 (Or.inl ne_a_b54)).other W82 (Or.inl ne_a_b54)).ext E96).ext E105).ext E115).other W131 (Or.inl ne_a_b96)).other W156 (Or.inl ne_a_b105))
      obtain ⟨T177, X177, e177, st177⟩ := getF X164 hx hZ hown (host := "") (Or.inl (hw _ (own_m 27 rfl))) Via.refl e164 f176 (g := (mkF m 224 #[rv a, iv fl, rv b54, iv 3, rv b96, rv b105, rv b115, iv 0, iv 0] [(.ref a), (.int 0), (.ref b115)])) rfl rfl (hb hby own_d10_224)
      have f178 := (((f111.ext E115).other W131 ne_bs_b96).other W156 ne_bs_b105)
      obtain ⟨c179, c179A, c179q, c179S, c179N, c179H, c179G⟩ := id f178
      have c179in : ¬ ((0 : Int32) < 0 ∨ c179.slots.size ≤ ((0 : Int32)).toNatClampNeg) := inb_of c179S ⟨by decide, by decide⟩
      have c179at : c179.slots[((0 : Int32)).toNatClampNeg]? = some (.int s0) := Has.at c179H c179in rfl
      refine ⟨T177, _, trivial, X177, N156, e177, fun target kt => ?_⟩
      show Steps p.tables e below (T160.setTop (mkF m 205 #[rv a, iv fl, rv b54, iv 3, rv b96, rv b105, rv b115, iv 0, iv 0] [(.ref o0), (.int 0), (.ref b115)])) _
      refine st164 _ ?_
      show Steps p.tables e below (T164.setTop (mkF m 208 #[rv a, iv fl, rv b54, iv 3, rv b96, rv b105, rv b115, iv 0, iv 0] [(.ref w_SPLIT), (.ref o0), (.int 0), (.ref b115)])) _
      refine Jvm.RoadKit.acmp (g := (mkF m 208 #[rv a, iv fl, rv b54, iv 3, rv b96, rv b105, rv b115, iv 0, iv 0] [(.ref w_SPLIT), (.ref o0), (.int 0), (.ref b115)])) X164 hx rfl rfl rfl (pc0 := 208) (pc' := 223) (same := false) rfl (hb hby own_d10_208) rfl (decide_eq_false fun q => ha165 (Value.ref.inj q)) (by decide) (by decide) ?_
      show Steps p.tables e below (T164.setTop (mkF m 223 #[rv a, iv fl, rv b54, iv 3, rv b96, rv b105, rv b115, iv 0, iv 0] [(.int 0), (.ref b115)])) _
      refine XS.aloadN X164.here hx rfl (hb hby own_d10_223) rfl rfl ?_
      show Steps p.tables e below (T164.setTop (mkF m 224 #[rv a, iv fl, rv b54, iv 3, rv b96, rv b105, rv b115, iv 0, iv 0] [(.ref a), (.int 0), (.ref b115)])) _
      refine st177 _ ?_
      show Steps p.tables e below (T177.setTop (mkF m 227 #[rv a, iv fl, rv b54, iv 3, rv b96, rv b105, rv b115, iv 0, iv 0] [(.ref bs), (.int 0), (.ref b115)])) _
      refine XS.iload X177.here hx rfl (hb hby own_d10_227) rfl ?_
      show Steps p.tables e below (T177.setTop (mkF m 229 #[rv a, iv fl, rv b54, iv 3, rv b96, rv b105, rv b115, iv 0, iv 0] [(.int 0), (.ref bs), (.int 0), (.ref b115)])) _
      refine X177.iaload hx (j := (0 : Int32)) (v := (.int s0)) (by rw [e177]; exact c179A.1) (State.isArrayOf_alike hZ.alike c179A.2.1) c179A.2.2 c179in c179at (g := (mkF m 229 #[rv a, iv fl, rv b54, iv 3, rv b96, rv b105, rv b115, iv 0, iv 0] [(.int 0), (.ref bs), (.int 0), (.ref b115)])) rfl rfl (hb hby own_d10_229) _ ?_
      show Steps p.tables e below (T177.setTop (mkF m 230 #[rv a, iv fl, rv b54, iv 3, rv b96, rv b105, rv b115, iv 0, iv 0] [(.int s0), (.int 0), (.ref b115)])) _
      exact kt
  have f180 := ((V_b115.other W131 (Ne.symm ne_b96_b115)).other W156 (Ne.symm ne_b105_b115))
  obtain ⟨c181, c181A, c181q, c181S, c181N, c181H, c181G⟩ := id f180
  have c181in : ¬ ((0 : Int32) < 0 ∨ c181.slots.size ≤ ((0 : Int32)).toNatClampNeg) := inb_of c181S ⟨by decide, by decide⟩
  obtain ⟨T182, h182, X182, e182, W182, st182⟩ := stI X163 hx hZ e163 c181A (j := (0 : Int32)) c181in (g := (mkF m 230 #[rv a, iv fl, rv b54, iv 3, rv b96, rv b105, rv b115, iv 0, iv 0] [(.int s0), (.int 0), (.ref b115)])) rfl rfl (hb hby own_d10_230)
  have V182 : Arv Z h182 b115 k115 .int (3 : Int32) [(.int s0), (.int 0), (.int 0)] (.int 0) := Arv.set c181A c181q c181S c181N c181H c181G rfl W182 0 rfl (Nat.le_of_ble_eq_true rfl)
  have O183 := O157.wr W182 gg_b115
  have kp184 := kp158.wr W182 (Or.inr sz_b115)
  have N182 := Fr.snoc X182 N163 gg_b115
  have f185 := (((f118.other W131 (Or.inl ne_a_b96)).other W156 (Or.inl ne_a_b105)).other W182 (Or.inl ne_a_b115))
  obtain ⟨T186, X186, e186, st186⟩ := getF X182 hx hZ hown (host := "") (Or.inl (hw _ (own_m 67 rfl))) Via.refl e182 f185 (g := (mkF m 119 #[rv a, iv fl, rv b54, iv 3, rv b96, rv b105, rv b115, iv 1, iv 0] [(.ref a), (.int 1)])) rfl rfl (hb hby own_d10_119)
  have f187 := (f159.other W182 (Or.inl ne_a_b115))
  obtain ⟨T188, X188, e188, st188⟩ := getF X186 hx hZ hown (host := "") (Or.inl (hw _ (own_m 22 rfl))) Via.refl e186 f187 (g := (mkF m 126 #[rv a, iv fl, rv b54, iv 3, rv b96, rv b105, rv b115, iv 1, iv 0] [(.ref a)])) rfl rfl (hb hby own_d10_126)
  have f189 := (f161.other W182 ne_bo_b115)
  obtain ⟨c190, c190A, c190q, c190S, c190N, c190H, c190G⟩ := id f189
  have c190in : ¬ ((1 : Int32) < 0 ∨ c190.slots.size ≤ ((1 : Int32)).toNatClampNeg) := inb_of c190S ⟨by decide, by decide⟩
  have c190at : c190.slots[((1 : Int32)).toNatClampNeg]? = some (.ref o1) := Has.at c190H c190in rfl
  obtain ⟨_, _, ⟨T191, L191, k191, n191⟩, -, X191, ⟨Lc191, hQ191, l191, y191, z191⟩, st191⟩ := Jvm.LawKit.callS X188 hx (y := (⟨"com/example/quillgraph/quillgraph/sparql/RegexProgram$Builder", "isDropped", "(Lcom/example/quillgraph/quillgraph/sparql/RegexProgram$Op;Z)Z"⟩ : MethodName)) hown (mvT hZ (hw _ (own_m 87 rfl))) (mvT hZ (hw _ (own_m 88 rfl))) (mvT hZ (hw _ (own_m 13 rfl))) (mvT hZ (hw _ (own_m 89 rfl))) (by decide) (backOf (W := 0) (own_drop l Z a0 hw [] w_CHARACTER w_SPLIT w_JUMP w_TEXT_START w_LINE_START w_TEXT_END w_LINE_END w_SAVE w_BACK_REFERENCE w_MARK w_PROGRESS w_MATCH w_NOTHING w_DE k_DE o1 fl h182 n0 O183 U_CHARACTER U_SPLIT U_JUMP U_TEXT_START U_LINE_START U_TEXT_END U_LINE_END U_SAVE U_BACK_REFERENCE U_MARK U_PROGRESS U_MATCH U_NOTHING S_DE V_DE G1) hZ (hw _ (own_m 89 rfl)) (hw _ (own_m 13 rfl)) (by decide) (by decide)) (g := (mkF m 133 #[rv a, iv fl, rv b54, iv 3, rv b96, rv b105, rv b115, iv 1, iv 0] [(.int fl), (.ref o1)])) rfl (by rw [hml]; rfl) (argsL := [(.ref o1), (.int fl)]) (rest := []) (lenOf own_pd3 rfl) rfl (by show 2 * 0 + _ ≤ _; exact Nat.le_of_eq rfl) (hb hby own_d10_133) (fun _ _ => ⟨rfl, e188, (by decide : 4 + 0 ≤ _), (by decide : 12 + 0 ≤ _)⟩)
  dsimp only [Pt.U, Pt.locs, Pt.cells, Pt.slots] at X191 l191 y191 z191 st191 hQ191
  subst l191 y191 z191
  obtain ⟨rfl, N191q, e191⟩ := hQ191
  have N191 := Fr.app N182 N191q
  have f192 := (((f125.other W131 ne_b54_b96).other W156 ne_b54_b105).other W182 ne_b54_b115)
  obtain ⟨c193, c193A, c193q, c193S, c193N, c193H, c193G⟩ := id f192
  have c193in : ¬ ((1 : Int32) < 0 ∨ c193.slots.size ≤ ((1 : Int32)).toNatClampNeg) := inb_of c193S ⟨by decide, by decide⟩
  have c193at : c193.slots[((1 : Int32)).toNatClampNeg]? = some (.int 1) := Has.at c193H c193in rfl
  obtain ⟨T194, X194, e194, st194⟩ := getF X191 hx hZ hown (host := "") (Or.inl (hw _ (own_m 22 rfl))) Via.refl e191 f187 (g := (mkF m 150 #[rv a, iv fl, rv b54, iv 3, rv b96, rv b105, rv b115, iv 1, iv 1] [(.ref a), (.int 1), (.ref b96)])) rfl rfl (hb hby own_d10_150)
  obtain ⟨c195, c195A, c195q, c195S, c195N, c195H, c195G⟩ := id f189
  have c195in : ¬ ((1 : Int32) < 0 ∨ c195.slots.size ≤ ((1 : Int32)).toNatClampNeg) := inb_of c195S ⟨by decide, by decide⟩
  have c195at : c195.slots[((1 : Int32)).toNatClampNeg]? = some (.ref o1) := Has.at c195H c195in rfl
  have f196 := ((V131.other W156 ne_b96_b105).other W182 ne_b96_b115)
  obtain ⟨c197, c197A, c197q, c197S, c197N, c197H, c197G⟩ := id f196
  have c197in : ¬ ((1 : Int32) < 0 ∨ c197.slots.size ≤ ((1 : Int32)).toNatClampNeg) := inb_of c197S ⟨by decide, by decide⟩
  obtain ⟨T198, h198, X198, e198, W198, st198⟩ := stR X194 hx hZ e194 c197A (j := (1 : Int32)) c197in rfl (Sto.ofV c197A c197q O96 (Ins.self (G1.1.ext O183.2))) (g := (mkF m 156 #[rv a, iv fl, rv b54, iv 3, rv b96, rv b105, rv b115, iv 1, iv 1] [(.ref o1), (.int 1), (.ref b96)])) rfl rfl (hb hby own_d10_156)
  have V198 : Arv Z h198 b96 k96 (.object "com/example/quillgraph/quillgraph/sparql/RegexProgram$Op") (3 : Int32) [(.ref o0), (.ref o1), .null] .null := Arv.set c197A c197q c197S c197N c197H c197G rfl W198 1 rfl (Nat.le_of_ble_eq_true rfl)
  have O199 := O183.wr W198 gg_b96
  have kp200 := kp184.wr W198 (Or.inr sz_b96)
  have N198 := Fr.snoc X198 N191 gg_b96
  have f201 := (f187.other W198 (Or.inl ne_a_b96))
  obtain ⟨T202, X202, e202, st202⟩ := getF X198 hx hZ hown (host := "") (Or.inl (hw _ (own_m 22 rfl))) Via.refl e198 f201 (g := (mkF m 162 #[rv a, iv fl, rv b54, iv 3, rv b96, rv b105, rv b115, iv 1, iv 1] [(.ref a), (.int 1), (.ref b105)])) rfl rfl (hb hby own_d10_162)
  have f203 := (f189.other W198 ne_bo_b96)
  obtain ⟨c204, c204A, c204q, c204S, c204N, c204H, c204G⟩ := id f203
  have c204in : ¬ ((1 : Int32) < 0 ∨ c204.slots.size ≤ ((1 : Int32)).toNatClampNeg) := inb_of c204S ⟨by decide, by decide⟩
  have c204at : c204.slots[((1 : Int32)).toNatClampNeg]? = some (.ref o1) := Has.at c204H c204in rfl
  obtain ⟨T205, Lj205, hj205, X205, N205, e205, st205⟩ : ∃  (T205 : State) (Lj205 : List Loc), (True) ∧ Stand p l e ({ frames := 3, cells := 6, slots := 18, locals := 60 } : Room) s m #[(.ref a)] below meth c T205 Lj205 4 12 ∧ Fr n0 Lj205 ∧ T205.heap = h198 ∧ ∀ target, Steps p.tables e below (T205.setTop (mkF m 193 #[rv a, iv fl, rv b54, iv 3, rv b96, rv b105, rv b115, iv 1, iv 1] [(.int f1), (.int 1), (.ref b105)])) target → Steps p.tables e below (T202.setTop (mkF m 168 #[rv a, iv fl, rv b54, iv 3, rv b96, rv b105, rv b115, iv 1, iv 1] [(.ref o1), (.int 1), (.ref b105)])) target := by
    obtain ⟨_, _, ⟨T206, L206, k206, n206⟩, -, X206, ⟨Lc206, hQ206, l206, y206, z206⟩, st206⟩ := Jvm.LawKit.callS X202 hx (y := (⟨"com/example/quillgraph/quillgraph/sparql/RegexProgram$Builder", "isJump", "(Lcom/example/quillgraph/quillgraph/sparql/RegexProgram$Op;)Z"⟩ : MethodName)) hown (mvT hZ (hw _ (own_m 98 rfl))) (mvT hZ (hw _ (own_m 99 rfl))) (mvT hZ (hw _ (own_m 13 rfl))) (mvT hZ (hw _ (own_m 100 rfl))) (by decide) (backOf (W := 2) (own_isj l Z a0 hw [] w_CHARACTER w_SPLIT w_JUMP w_TEXT_START w_LINE_START w_TEXT_END w_LINE_END w_SAVE w_BACK_REFERENCE w_MARK w_PROGRESS w_MATCH w_NOTHING w_DE k_DE o1 h198 n0 O199 U_CHARACTER U_SPLIT U_JUMP U_TEXT_START U_LINE_START U_TEXT_END U_LINE_END U_SAVE U_BACK_REFERENCE U_MARK U_PROGRESS U_MATCH U_NOTHING S_DE V_DE ) hZ (hw _ (own_m 100 rfl)) (hw _ (own_m 13 rfl)) (by decide) (by decide)) (g := (mkF m 168 #[rv a, iv fl, rv b54, iv 3, rv b96, rv b105, rv b115, iv 1, iv 1] [(.ref o1), (.int 1), (.ref b105)])) rfl (by rw [hml]; rfl) (argsL := [(.ref o1)]) (rest := [(.int 1), (.ref b105)]) (lenOf own_pd4 rfl) rfl (by show 2 * 0 + _ ≤ _; exact Nat.le_of_eq rfl) (hb hby own_d10_168) (fun _ _ => ⟨rfl, e202, (by decide : 4 + 0 ≤ _), (by decide : 12 + 0 ≤ _)⟩)
    dsimp only [Pt.U, Pt.locs, Pt.cells, Pt.slots] at X206 l206 y206 z206 st206 hQ206
    subst l206 y206 z206
    obtain ⟨r206, rfl, hr206, N206q, e206⟩ := hQ206
    have N206 := Fr.app N198 N206q
    rcases hr206 with ⟨hy206, hj206q⟩ | ⟨hy206, hj206q⟩
    · have f207 := (((((((((((q8.ext E54).other W60 (Or.inl ne_a_b54)).other W71 (Or.inl ne_a_b54)).other W82 (Or.inl ne_a_b54)).ext E96).ext E105).ext E115).other W131 (Or.inl ne_a_b96)).other W156 (Or.inl ne_a_b105)).other W182 (Or.inl ne_a_b115)).other W198 (Or.inl ne_a_b96))
      obtain ⟨T208, X208, e208, st208⟩ := getF X206 hx hZ hown (host := "") (Or.inl (hw _ (own_m 25 rfl))) Via.refl e206 f207 (g := (mkF m 176 #[rv a, iv fl, rv b54, iv 3, rv b96, rv b105, rv b115, iv 1, iv 1] [(.ref a), (.ref b54), (.int 1), (.ref b105)])) rfl rfl (hb hby own_d10_176)
      have f209 := (((((f110.ext E115).other W131 ne_bf_b96).other W156 ne_bf_b105).other W182 ne_bf_b115).other W198 ne_bf_b96)
      obtain ⟨c210, c210A, c210q, c210S, c210N, c210H, c210G⟩ := id f209
      have c210in : ¬ ((1 : Int32) < 0 ∨ c210.slots.size ≤ ((1 : Int32)).toNatClampNeg) := inb_of c210S ⟨by decide, by decide⟩
      have c210at : c210.slots[((1 : Int32)).toNatClampNeg]? = some (.int f1) := Has.at c210H c210in rfl
      rcases J1 hj206q with hx182 | hx182 | hx182
      · have f211 := (f192.other W198 ne_b54_b96)
        obtain ⟨c212, c212A, c212q, c212S, c212N, c212H, c212G⟩ := id f211
        have c212in : ¬ ((0 : Int32) < 0 ∨ c212.slots.size ≤ ((0 : Int32)).toNatClampNeg) := inb_of c212S ⟨by decide, by decide⟩
        have c212at : c212.slots[((0 : Int32)).toNatClampNeg]? = some (.int 0) := Has.at c212H c212in rfl
        refine ⟨T208, _, trivial, X208, N206, e208, fun target kt => ?_⟩
        show Steps p.tables e below (T202.setTop (mkF m 168 #[rv a, iv fl, rv b54, iv 3, rv b96, rv b105, rv b115, iv 1, iv 1] [(.ref o1), (.int 1), (.ref b105)])) _
        refine st206 _ ?_
        show Steps p.tables e below (T206.setTop (mkF m 171 #[rv a, iv fl, rv b54, iv 3, rv b96, rv b105, rv b115, iv 1, iv 1] [(.int r206), (.int 1), (.ref b105)])) _
        refine own_top (v' := (.int 1)) (congrArg Value.int hy206) ?_
        show Steps p.tables e below (T206.setTop (mkF m 171 #[rv a, iv fl, rv b54, iv 3, rv b96, rv b105, rv b115, iv 1, iv 1] [(.int 1), (.int 1), (.ref b105)])) _
        refine XS.ifNo X206.here hx rfl (hb hby own_d10_171) rfl ((if0 _ _).trans (feq (by decide)).1) ?_
        show Steps p.tables e below (T206.setTop (mkF m 174 #[rv a, iv fl, rv b54, iv 3, rv b96, rv b105, rv b115, iv 1, iv 1] [(.int 1), (.ref b105)])) _
        refine XS.aloadN X206.here hx rfl (hb hby own_d10_174) rfl rfl ?_
        show Steps p.tables e below (T206.setTop (mkF m 175 #[rv a, iv fl, rv b54, iv 3, rv b96, rv b105, rv b115, iv 1, iv 1] [(.ref b54), (.int 1), (.ref b105)])) _
        refine XS.aloadN X206.here hx rfl (hb hby own_d10_175) rfl rfl ?_
        show Steps p.tables e below (T206.setTop (mkF m 176 #[rv a, iv fl, rv b54, iv 3, rv b96, rv b105, rv b115, iv 1, iv 1] [(.ref a), (.ref b54), (.int 1), (.ref b105)])) _
        refine st208 _ ?_
        show Steps p.tables e below (T208.setTop (mkF m 179 #[rv a, iv fl, rv b54, iv 3, rv b96, rv b105, rv b115, iv 1, iv 1] [(.ref bf), (.ref b54), (.int 1), (.ref b105)])) _
        refine XS.iload X208.here hx rfl (hb hby own_d10_179) rfl ?_
        show Steps p.tables e below (T208.setTop (mkF m 181 #[rv a, iv fl, rv b54, iv 3, rv b96, rv b105, rv b115, iv 1, iv 1] [(.int 1), (.ref bf), (.ref b54), (.int 1), (.ref b105)])) _
        refine X208.iaload hx (j := (1 : Int32)) (v := (.int f1)) (by rw [e208]; exact c210A.1) (State.isArrayOf_alike hZ.alike c210A.2.1) c210A.2.2 c210in c210at (g := (mkF m 181 #[rv a, iv fl, rv b54, iv 3, rv b96, rv b105, rv b115, iv 1, iv 1] [(.int 1), (.ref bf), (.ref b54), (.int 1), (.ref b105)])) rfl rfl (hb hby own_d10_181) _ ?_
        show Steps p.tables e below (T208.setTop (mkF m 182 #[rv a, iv fl, rv b54, iv 3, rv b96, rv b105, rv b115, iv 1, iv 1] [(.int f1), (.ref b54), (.int 1), (.ref b105)])) _
        refine own_top (v' := (.int 0)) (congrArg Value.int hx182) ?_
        show Steps p.tables e below (T208.setTop (mkF m 182 #[rv a, iv fl, rv b54, iv 3, rv b96, rv b105, rv b115, iv 1, iv 1] [(.int 0), (.ref b54), (.int 1), (.ref b105)])) _
        refine X208.iaload hx (j := (0 : Int32)) (v := (.int 0)) (by rw [e208]; exact c212A.1) (State.isArrayOf_alike hZ.alike c212A.2.1) c212A.2.2 c212in c212at (g := (mkF m 182 #[rv a, iv fl, rv b54, iv 3, rv b96, rv b105, rv b115, iv 1, iv 1] [(.int 0), (.ref b54), (.int 1), (.ref b105)])) rfl rfl (hb hby own_d10_182) _ ?_
        show Steps p.tables e below (T208.setTop (mkF m 183 #[rv a, iv fl, rv b54, iv 3, rv b96, rv b105, rv b115, iv 1, iv 1] [(.int 0), (.int 1), (.ref b105)])) _
        refine own_top (v' := (.int f1)) (congrArg Value.int hx182.symm) ?_
        show Steps p.tables e below (T208.setTop (mkF m 183 #[rv a, iv fl, rv b54, iv 3, rv b96, rv b105, rv b115, iv 1, iv 1] [(.int f1), (.int 1), (.ref b105)])) _
        refine XS.goto X208.here hx rfl (pc0 := 183) (pc' := 193) rfl (hb hby own_d10_183) (by decide) (by decide) ?_
        show Steps p.tables e below (T208.setTop (mkF m 193 #[rv a, iv fl, rv b54, iv 3, rv b96, rv b105, rv b115, iv 1, iv 1] [(.int f1), (.int 1), (.ref b105)])) _
        exact kt
      · have f213 := (f192.other W198 ne_b54_b96)
        obtain ⟨c214, c214A, c214q, c214S, c214N, c214H, c214G⟩ := id f213
        have c214in : ¬ ((1 : Int32) < 0 ∨ c214.slots.size ≤ ((1 : Int32)).toNatClampNeg) := inb_of c214S ⟨by decide, by decide⟩
        have c214at : c214.slots[((1 : Int32)).toNatClampNeg]? = some (.int 1) := Has.at c214H c214in rfl
        refine ⟨T208, _, trivial, X208, N206, e208, fun target kt => ?_⟩
        show Steps p.tables e below (T202.setTop (mkF m 168 #[rv a, iv fl, rv b54, iv 3, rv b96, rv b105, rv b115, iv 1, iv 1] [(.ref o1), (.int 1), (.ref b105)])) _
        refine st206 _ ?_
        show Steps p.tables e below (T206.setTop (mkF m 171 #[rv a, iv fl, rv b54, iv 3, rv b96, rv b105, rv b115, iv 1, iv 1] [(.int r206), (.int 1), (.ref b105)])) _
        refine own_top (v' := (.int 1)) (congrArg Value.int hy206) ?_
        show Steps p.tables e below (T206.setTop (mkF m 171 #[rv a, iv fl, rv b54, iv 3, rv b96, rv b105, rv b115, iv 1, iv 1] [(.int 1), (.int 1), (.ref b105)])) _
        refine XS.ifNo X206.here hx rfl (hb hby own_d10_171) rfl ((if0 _ _).trans (feq (by decide)).1) ?_
        show Steps p.tables e below (T206.setTop (mkF m 174 #[rv a, iv fl, rv b54, iv 3, rv b96, rv b105, rv b115, iv 1, iv 1] [(.int 1), (.ref b105)])) _
        refine XS.aloadN X206.here hx rfl (hb hby own_d10_174) rfl rfl ?_
        show Steps p.tables e below (T206.setTop (mkF m 175 #[rv a, iv fl, rv b54, iv 3, rv b96, rv b105, rv b115, iv 1, iv 1] [(.ref b54), (.int 1), (.ref b105)])) _
        refine XS.aloadN X206.here hx rfl (hb hby own_d10_175) rfl rfl ?_
        show Steps p.tables e below (T206.setTop (mkF m 176 #[rv a, iv fl, rv b54, iv 3, rv b96, rv b105, rv b115, iv 1, iv 1] [(.ref a), (.ref b54), (.int 1), (.ref b105)])) _
        refine st208 _ ?_
        show Steps p.tables e below (T208.setTop (mkF m 179 #[rv a, iv fl, rv b54, iv 3, rv b96, rv b105, rv b115, iv 1, iv 1] [(.ref bf), (.ref b54), (.int 1), (.ref b105)])) _
        refine XS.iload X208.here hx rfl (hb hby own_d10_179) rfl ?_
        show Steps p.tables e below (T208.setTop (mkF m 181 #[rv a, iv fl, rv b54, iv 3, rv b96, rv b105, rv b115, iv 1, iv 1] [(.int 1), (.ref bf), (.ref b54), (.int 1), (.ref b105)])) _
        refine X208.iaload hx (j := (1 : Int32)) (v := (.int f1)) (by rw [e208]; exact c210A.1) (State.isArrayOf_alike hZ.alike c210A.2.1) c210A.2.2 c210in c210at (g := (mkF m 181 #[rv a, iv fl, rv b54, iv 3, rv b96, rv b105, rv b115, iv 1, iv 1] [(.int 1), (.ref bf), (.ref b54), (.int 1), (.ref b105)])) rfl rfl (hb hby own_d10_181) _ ?_
        show Steps p.tables e below (T208.setTop (mkF m 182 #[rv a, iv fl, rv b54, iv 3, rv b96, rv b105, rv b115, iv 1, iv 1] [(.int f1), (.ref b54), (.int 1), (.ref b105)])) _
        refine own_top (v' := (.int 1)) (congrArg Value.int hx182) ?_
        show Steps p.tables e below (T208.setTop (mkF m 182 #[rv a, iv fl, rv b54, iv 3, rv b96, rv b105, rv b115, iv 1, iv 1] [(.int 1), (.ref b54), (.int 1), (.ref b105)])) _
        refine X208.iaload hx (j := (1 : Int32)) (v := (.int 1)) (by rw [e208]; exact c214A.1) (State.isArrayOf_alike hZ.alike c214A.2.1) c214A.2.2 c214in c214at (g := (mkF m 182 #[rv a, iv fl, rv b54, iv 3, rv b96, rv b105, rv b115, iv 1, iv 1] [(.int 1), (.ref b54), (.int 1), (.ref b105)])) rfl rfl (hb hby own_d10_182) _ ?_
        show Steps p.tables e below (T208.setTop (mkF m 183 #[rv a, iv fl, rv b54, iv 3, rv b96, rv b105, rv b115, iv 1, iv 1] [(.int 1), (.int 1), (.ref b105)])) _
        refine own_top (v' := (.int f1)) (congrArg Value.int hx182.symm) ?_
        show Steps p.tables e below (T208.setTop (mkF m 183 #[rv a, iv fl, rv b54, iv 3, rv b96, rv b105, rv b115, iv 1, iv 1] [(.int f1), (.int 1), (.ref b105)])) _
        refine XS.goto X208.here hx rfl (pc0 := 183) (pc' := 193) rfl (hb hby own_d10_183) (by decide) (by decide) ?_
        show Steps p.tables e below (T208.setTop (mkF m 193 #[rv a, iv fl, rv b54, iv 3, rv b96, rv b105, rv b115, iv 1, iv 1] [(.int f1), (.int 1), (.ref b105)])) _
        exact kt
      · have f215 := (f192.other W198 ne_b54_b96)
        obtain ⟨c216, c216A, c216q, c216S, c216N, c216H, c216G⟩ := id f215
        have c216in : ¬ ((2 : Int32) < 0 ∨ c216.slots.size ≤ ((2 : Int32)).toNatClampNeg) := inb_of c216S ⟨by decide, by decide⟩
        have c216at : c216.slots[((2 : Int32)).toNatClampNeg]? = some (.int 2) := Has.at c216H c216in rfl
        refine ⟨T208, _, trivial, X208, N206, e208, fun target kt => ?_⟩
        show Steps p.tables e below (T202.setTop (mkF m 168 #[rv a, iv fl, rv b54, iv 3, rv b96, rv b105, rv b115, iv 1, iv 1] [(.ref o1), (.int 1), (.ref b105)])) _
        refine st206 _ ?_
        show Steps p.tables e below (T206.setTop (mkF m 171 #[rv a, iv fl, rv b54, iv 3, rv b96, rv b105, rv b115, iv 1, iv 1] [(.int r206), (.int 1), (.ref b105)])) _
        refine own_top (v' := (.int 1)) (congrArg Value.int hy206) ?_
        show Steps p.tables e below (T206.setTop (mkF m 171 #[rv a, iv fl, rv b54, iv 3, rv b96, rv b105, rv b115, iv 1, iv 1] [(.int 1), (.int 1), (.ref b105)])) _
        refine XS.ifNo X206.here hx rfl (hb hby own_d10_171) rfl ((if0 _ _).trans (feq (by decide)).1) ?_
        show Steps p.tables e below (T206.setTop (mkF m 174 #[rv a, iv fl, rv b54, iv 3, rv b96, rv b105, rv b115, iv 1, iv 1] [(.int 1), (.ref b105)])) _
        refine XS.aloadN X206.here hx rfl (hb hby own_d10_174) rfl rfl ?_
        show Steps p.tables e below (T206.setTop (mkF m 175 #[rv a, iv fl, rv b54, iv 3, rv b96, rv b105, rv b115, iv 1, iv 1] [(.ref b54), (.int 1), (.ref b105)])) _
        refine XS.aloadN X206.here hx rfl (hb hby own_d10_175) rfl rfl ?_
        show Steps p.tables e below (T206.setTop (mkF m 176 #[rv a, iv fl, rv b54, iv 3, rv b96, rv b105, rv b115, iv 1, iv 1] [(.ref a), (.ref b54), (.int 1), (.ref b105)])) _
        refine st208 _ ?_
        show Steps p.tables e below (T208.setTop (mkF m 179 #[rv a, iv fl, rv b54, iv 3, rv b96, rv b105, rv b115, iv 1, iv 1] [(.ref bf), (.ref b54), (.int 1), (.ref b105)])) _
        refine XS.iload X208.here hx rfl (hb hby own_d10_179) rfl ?_
        show Steps p.tables e below (T208.setTop (mkF m 181 #[rv a, iv fl, rv b54, iv 3, rv b96, rv b105, rv b115, iv 1, iv 1] [(.int 1), (.ref bf), (.ref b54), (.int 1), (.ref b105)])) _
        refine X208.iaload hx (j := (1 : Int32)) (v := (.int f1)) (by rw [e208]; exact c210A.1) (State.isArrayOf_alike hZ.alike c210A.2.1) c210A.2.2 c210in c210at (g := (mkF m 181 #[rv a, iv fl, rv b54, iv 3, rv b96, rv b105, rv b115, iv 1, iv 1] [(.int 1), (.ref bf), (.ref b54), (.int 1), (.ref b105)])) rfl rfl (hb hby own_d10_181) _ ?_
        show Steps p.tables e below (T208.setTop (mkF m 182 #[rv a, iv fl, rv b54, iv 3, rv b96, rv b105, rv b115, iv 1, iv 1] [(.int f1), (.ref b54), (.int 1), (.ref b105)])) _
        refine own_top (v' := (.int 2)) (congrArg Value.int hx182) ?_
        show Steps p.tables e below (T208.setTop (mkF m 182 #[rv a, iv fl, rv b54, iv 3, rv b96, rv b105, rv b115, iv 1, iv 1] [(.int 2), (.ref b54), (.int 1), (.ref b105)])) _
        refine X208.iaload hx (j := (2 : Int32)) (v := (.int 2)) (by rw [e208]; exact c216A.1) (State.isArrayOf_alike hZ.alike c216A.2.1) c216A.2.2 c216in c216at (g := (mkF m 182 #[rv a, iv fl, rv b54, iv 3, rv b96, rv b105, rv b115, iv 1, iv 1] [(.int 2), (.ref b54), (.int 1), (.ref b105)])) rfl rfl (hb hby own_d10_182) _ ?_
        show Steps p.tables e below (T208.setTop (mkF m 183 #[rv a, iv fl, rv b54, iv 3, rv b96, rv b105, rv b115, iv 1, iv 1] [(.int 2), (.int 1), (.ref b105)])) _
        refine own_top (v' := (.int f1)) (congrArg Value.int hx182.symm) ?_
        show Steps p.tables e below (T208.setTop (mkF m 183 #[rv a, iv fl, rv b54, iv 3, rv b96, rv b105, rv b115, iv 1, iv 1] [(.int f1), (.int 1), (.ref b105)])) _
        refine XS.goto X208.here hx rfl (pc0 := 183) (pc' := 193) rfl (hb hby own_d10_183) (by decide) (by decide) ?_
        show Steps p.tables e below (T208.setTop (mkF m 193 #[rv a, iv fl, rv b54, iv 3, rv b96, rv b105, rv b115, iv 1, iv 1] [(.int f1), (.int 1), (.ref b105)])) _
        exact kt
    · have f217 := (((((((((((q8.ext E54).other W60 (Or.inl ne_a_b54)).other W71 (Or.inl ne_a_b54)).other W82 (Or.inl ne_a_b54)).ext E96).ext E105).ext E115).other W131 (Or.inl ne_a_b96)).other W156 (Or.inl ne_a_b105)).other W182 (Or.inl ne_a_b115)).other W198 (Or.inl ne_a_b96))
      obtain ⟨T218, X218, e218, st218⟩ := getF X206 hx hZ hown (host := "") (Or.inl (hw _ (own_m 25 rfl))) Via.refl e206 f217 (g := (mkF m 187 #[rv a, iv fl, rv b54, iv 3, rv b96, rv b105, rv b115, iv 1, iv 1] [(.ref a), (.int 1), (.ref b105)])) rfl rfl (hb hby own_d10_187)
      have f219 := (((((f110.ext E115).other W131 ne_bf_b96).other W156 ne_bf_b105).other W182 ne_bf_b115).other W198 ne_bf_b96)
      obtain ⟨c220, c220A, c220q, c220S, c220N, c220H, c220G⟩ := id f219
      have c220in : ¬ ((1 : Int32) < 0 ∨ c220.slots.size ≤ ((1 : Int32)).toNatClampNeg) := inb_of c220S ⟨by decide, by decide⟩
      have c220at : c220.slots[((1 : Int32)).toNatClampNeg]? = some (.int f1) := Has.at c220H c220in rfl
      refine ⟨T218, _, trivial, X218, N206, e218, fun target kt => ?_⟩
      show Steps p.tables e below (T202.setTop (mkF m 168 #[rv a, iv fl, rv b54, iv 3, rv b96, rv b105, rv b115, iv 1, iv 1] [(.ref o1), (.int 1), (.ref b105)])) _
      refine st206 _ ?_
      show Steps p.tables e below (T206.setTop (mkF m 171 #[rv a, iv fl, rv b54, iv 3, rv b96, rv b105, rv b115, iv 1, iv 1] [(.int r206), (.int 1), (.ref b105)])) _
      refine own_top (v' := (.int 0)) (congrArg Value.int hy206) ?_
      show Steps p.tables e below (T206.setTop (mkF m 171 #[rv a, iv fl, rv b54, iv 3, rv b96, rv b105, rv b115, iv 1, iv 1] [(.int 0), (.int 1), (.ref b105)])) _
      refine XS.ifYes X206.here hx rfl (pc0 := 171) (pc' := 186) rfl (hb hby own_d10_171) rfl ((if0 _ _).trans (teq (by decide)).1) (by decide) (by decide) ?_
      show Steps p.tables e below (T206.setTop (mkF m 186 #[rv a, iv fl, rv b54, iv 3, rv b96, rv b105, rv b115, iv 1, iv 1] [(.int 1), (.ref b105)])) _
      refine XS.aloadN X206.here hx rfl (hb hby own_d10_186) rfl rfl ?_
      show Steps p.tables e below (T206.setTop (mkF m 187 #[rv a, iv fl, rv b54, iv 3, rv b96, rv b105, rv b115, iv 1, iv 1] [(.ref a), (.int 1), (.ref b105)])) _
      refine st218 _ ?_
      show Steps p.tables e below (T218.setTop (mkF m 190 #[rv a, iv fl, rv b54, iv 3, rv b96, rv b105, rv b115, iv 1, iv 1] [(.ref bf), (.int 1), (.ref b105)])) _
      refine XS.iload X218.here hx rfl (hb hby own_d10_190) rfl ?_
      show Steps p.tables e below (T218.setTop (mkF m 192 #[rv a, iv fl, rv b54, iv 3, rv b96, rv b105, rv b115, iv 1, iv 1] [(.int 1), (.ref bf), (.int 1), (.ref b105)])) _
      refine X218.iaload hx (j := (1 : Int32)) (v := (.int f1)) (by rw [e218]; exact c220A.1) (State.isArrayOf_alike hZ.alike c220A.2.1) c220A.2.2 c220in c220at (g := (mkF m 192 #[rv a, iv fl, rv b54, iv 3, rv b96, rv b105, rv b115, iv 1, iv 1] [(.int 1), (.ref bf), (.int 1), (.ref b105)])) rfl rfl (hb hby own_d10_192) _ ?_
      show Steps p.tables e below (T218.setTop (mkF m 193 #[rv a, iv fl, rv b54, iv 3, rv b96, rv b105, rv b115, iv 1, iv 1] [(.int f1), (.int 1), (.ref b105)])) _
      exact kt
  have f221 := ((V156.other W182 ne_b105_b115).other W198 (Ne.symm ne_b96_b105))
  obtain ⟨c222, c222A, c222q, c222S, c222N, c222H, c222G⟩ := id f221
  have c222in : ¬ ((1 : Int32) < 0 ∨ c222.slots.size ≤ ((1 : Int32)).toNatClampNeg) := inb_of c222S ⟨by decide, by decide⟩
  obtain ⟨T223, h223, X223, e223, W223, st223⟩ := stI X205 hx hZ e205 c222A (j := (1 : Int32)) c222in (g := (mkF m 193 #[rv a, iv fl, rv b54, iv 3, rv b96, rv b105, rv b115, iv 1, iv 1] [(.int f1), (.int 1), (.ref b105)])) rfl rfl (hb hby own_d10_193)
  have V223 : Arv Z h223 b105 k105 .int (3 : Int32) [(.int f0), (.int f1), (.int 0)] (.int 0) := Arv.set c222A c222q c222S c222N c222H c222G rfl W223 1 rfl (Nat.le_of_ble_eq_true rfl)
  have O224 := O199.wr W223 gg_b105
  have kp225 := kp200.wr W223 (Or.inr sz_b105)
  have N223 := Fr.snoc X223 N205 gg_b105
  have f226 := (f201.other W223 (Or.inl ne_a_b105))
  obtain ⟨T227, X227, e227, st227⟩ := getF X223 hx hZ hown (host := "") (Or.inl (hw _ (own_m 22 rfl))) Via.refl e223 f226 (g := (mkF m 199 #[rv a, iv fl, rv b54, iv 3, rv b96, rv b105, rv b115, iv 1, iv 1] [(.ref a), (.int 1), (.ref b115)])) rfl rfl (hb hby own_d10_199)
  have f228 := (f203.other W223 ne_bo_b105)
  obtain ⟨c229, c229A, c229q, c229S, c229N, c229H, c229G⟩ := id f228
  have c229in : ¬ ((1 : Int32) < 0 ∨ c229.slots.size ≤ ((1 : Int32)).toNatClampNeg) := inb_of c229S ⟨by decide, by decide⟩
  have c229at : c229.slots[((1 : Int32)).toNatClampNeg]? = some (.ref o1) := Has.at c229H c229in rfl
  obtain ⟨T230, Lj230, hj230, X230, N230, e230, st230⟩ : ∃  (T230 : State) (Lj230 : List Loc), (True) ∧ Stand p l e ({ frames := 3, cells := 6, slots := 18, locals := 60 } : Room) s m #[(.ref a)] below meth c T230 Lj230 4 12 ∧ Fr n0 Lj230 ∧ T230.heap = h223 ∧ ∀ target, Steps p.tables e below (T230.setTop (mkF m 230 #[rv a, iv fl, rv b54, iv 3, rv b96, rv b105, rv b115, iv 1, iv 1] [(.int s1), (.int 1), (.ref b115)])) target → Steps p.tables e below (T227.setTop (mkF m 205 #[rv a, iv fl, rv b54, iv 3, rv b96, rv b105, rv b115, iv 1, iv 1] [(.ref o1), (.int 1), (.ref b115)])) target := by
    obtain ⟨T231, X231, e231, st231⟩ := getS2 X227 hx hZ hown (host := "") (Or.inl (hw _ (own_m 101 rfl))) Via.refl e227 (U_SPLIT.1.ext O224.2) (g := (mkF m 205 #[rv a, iv fl, rv b54, iv 3, rv b96, rv b105, rv b115, iv 1, iv 1] [(.ref o1), (.int 1), (.ref b115)])) rfl (hb hby own_d10_205)
    by_cases ha232 : o1 = w_SPLIT
    · have f233 := ((((((((((((q9.ext E54).other W60 (Or.inl ne_a_b54)).other W71 (Or.inl ne_a_b54)).other W82 (Or.inl ne_a_b54)).ext E96).ext E105).ext E115).other W131 (Or.inl ne_a_b96)).other W156 (Or.inl ne_a_b105)).other W182 (Or.inl ne_a_b115)).other W198 (Or.inl ne_a_b96)).other W223 (Or.inl ne_a_b105))
      obtain ⟨T234, X234, e234, st234⟩ := getF X231 hx hZ hown (host := "") (Or.inl (hw _ (own_m 27 rfl))) Via.refl e231 f233 (g := (mkF m 213 #[rv a, iv fl, rv b54, iv 3, rv b96, rv b105, rv b115, iv 1, iv 1] [(.ref a), (.ref b54), (.int 1), (.ref b115)])) rfl rfl (hb hby own_d10_213)
      have f235 := ((((((f111.ext E115).other W131 ne_bs_b96).other W156 ne_bs_b105).other W182 ne_bs_b115).other W198 ne_bs_b96).other W223 ne_bs_b105)
      obtain ⟨c236, c236A, c236q, c236S, c236N, c236H, c236G⟩ := id f235
      have c236in : ¬ ((1 : Int32) < 0 ∨ c236.slots.size ≤ ((1 : Int32)).toNatClampNeg) := inb_of c236S ⟨by decide, by decide⟩
      have c236at : c236.slots[((1 : Int32)).toNatClampNeg]? = some (.int s1) := Has.at c236H c236in rfl
      rcases P1 ha232 with hx219 | hx219 | hx219
      · have f237 := ((f192.other W198 ne_b54_b96).other W223 ne_b54_b105)
        obtain ⟨c238, c238A, c238q, c238S, c238N, c238H, c238G⟩ := id f237
        have c238in : ¬ ((0 : Int32) < 0 ∨ c238.slots.size ≤ ((0 : Int32)).toNatClampNeg) := inb_of c238S ⟨by decide, by decide⟩
        have c238at : c238.slots[((0 : Int32)).toNatClampNeg]? = some (.int 0) := Has.at c238H c238in rfl
        refine ⟨T234, _, trivial, X234, N223, e234, fun target kt => ?_⟩
        show Steps p.tables e below (T227.setTop (mkF m 205 #[rv a, iv fl, rv b54, iv 3, rv b96, rv b105, rv b115, iv 1, iv 1] [(.ref o1), (.int 1), (.ref b115)])) _
        refine st231 _ ?_
        show Steps p.tables e below (T231.setTop (mkF m 208 #[rv a, iv fl, rv b54, iv 3, rv b96, rv b105, rv b115, iv 1, iv 1] [(.ref w_SPLIT), (.ref o1), (.int 1), (.ref b115)])) _
        refine Jvm.RoadKit.acmp (g := (mkF m 208 #[rv a, iv fl, rv b54, iv 3, rv b96, rv b105, rv b115, iv 1, iv 1] [(.ref w_SPLIT), (.ref o1), (.int 1), (.ref b115)])) X231 hx rfl rfl rfl (pc0 := 208) (pc' := 211) (same := true) rfl (hb hby own_d10_208) rfl (decide_eq_true (congrArg Value.ref ha232)) (by decide) (by decide) ?_
        show Steps p.tables e below (T231.setTop (mkF m 211 #[rv a, iv fl, rv b54, iv 3, rv b96, rv b105, rv b115, iv 1, iv 1] [(.int 1), (.ref b115)])) _
        refine XS.aloadN X231.here hx rfl (hb hby own_d10_211) rfl rfl ?_
        show Steps p.tables e below (T231.setTop (mkF m 212 #[rv a, iv fl, rv b54, iv 3, rv b96, rv b105, rv b115, iv 1, iv 1] [(.ref b54), (.int 1), (.ref b115)])) _
        refine XS.aloadN X231.here hx rfl (hb hby own_d10_212) rfl rfl ?_
        show Steps p.tables e below (T231.setTop (mkF m 213 #[rv a, iv fl, rv b54, iv 3, rv b96, rv b105, rv b115, iv 1, iv 1] [(.ref a), (.ref b54), (.int 1), (.ref b115)])) _
        refine st234 _ ?_
        show Steps p.tables e below (T234.setTop (mkF m 216 #[rv a, iv fl, rv b54, iv 3, rv b96, rv b105, rv b115, iv 1, iv 1] [(.ref bs), (.ref b54), (.int 1), (.ref b115)])) _
        refine XS.iload X234.here hx rfl (hb hby own_d10_216) rfl ?_
        show Steps p.tables e below (T234.setTop (mkF m 218 #[rv a, iv fl, rv b54, iv 3, rv b96, rv b105, rv b115, iv 1, iv 1] [(.int 1), (.ref bs), (.ref b54), (.int 1), (.ref b115)])) _
        refine X234.iaload hx (j := (1 : Int32)) (v := (.int s1)) (by rw [e234]; exact c236A.1) (State.isArrayOf_alike hZ.alike c236A.2.1) c236A.2.2 c236in c236at (g := (mkF m 218 #[rv a, iv fl, rv b54, iv 3, rv b96, rv b105, rv b115, iv 1, iv 1] [(.int 1), (.ref bs), (.ref b54), (.int 1), (.ref b115)])) rfl rfl (hb hby own_d10_218) _ ?_
        show Steps p.tables e below (T234.setTop (mkF m 219 #[rv a, iv fl, rv b54, iv 3, rv b96, rv b105, rv b115, iv 1, iv 1] [(.int s1), (.ref b54), (.int 1), (.ref b115)])) _
        refine own_top (v' := (.int 0)) (congrArg Value.int hx219) ?_
        show Steps p.tables e below (T234.setTop (mkF m 219 #[rv a, iv fl, rv b54, iv 3, rv b96, rv b105, rv b115, iv 1, iv 1] [(.int 0), (.ref b54), (.int 1), (.ref b115)])) _
        refine X234.iaload hx (j := (0 : Int32)) (v := (.int 0)) (by rw [e234]; exact c238A.1) (State.isArrayOf_alike hZ.alike c238A.2.1) c238A.2.2 c238in c238at (g := (mkF m 219 #[rv a, iv fl, rv b54, iv 3, rv b96, rv b105, rv b115, iv 1, iv 1] [(.int 0), (.ref b54), (.int 1), (.ref b115)])) rfl rfl (hb hby own_d10_219) _ ?_
        show Steps p.tables e below (T234.setTop (mkF m 220 #[rv a, iv fl, rv b54, iv 3, rv b96, rv b105, rv b115, iv 1, iv 1] [(.int 0), (.int 1), (.ref b115)])) _
        refine own_top (v' := (.int s1)) (congrArg Value.int hx219.symm) ?_
        show Steps p.tables e below (T234.setTop (mkF m 220 #[rv a, iv fl, rv b54, iv 3, rv b96, rv b105, rv b115, iv 1, iv 1] [(.int s1), (.int 1), (.ref b115)])) _
        refine XS.goto X234.here hx rfl (pc0 := 220) (pc' := 230) rfl (hb hby own_d10_220) (by decide) (by decide) ?_
        show Steps p.tables e below (T234.setTop (mkF m 230 #[rv a, iv fl, rv b54, iv 3, rv b96, rv b105, rv b115, iv 1, iv 1] [(.int s1), (.int 1), (.ref b115)])) _
        exact kt
      · have f239 := ((f192.other W198 ne_b54_b96).other W223 ne_b54_b105)
        obtain ⟨c240, c240A, c240q, c240S, c240N, c240H, c240G⟩ := id f239
        have c240in : ¬ ((1 : Int32) < 0 ∨ c240.slots.size ≤ ((1 : Int32)).toNatClampNeg) := inb_of c240S ⟨by decide, by decide⟩
        have c240at : c240.slots[((1 : Int32)).toNatClampNeg]? = some (.int 1) := Has.at c240H c240in rfl
        refine ⟨T234, _, trivial, X234, N223, e234, fun target kt => ?_⟩
        show Steps p.tables e below (T227.setTop (mkF m 205 #[rv a, iv fl, rv b54, iv 3, rv b96, rv b105, rv b115, iv 1, iv 1] [(.ref o1), (.int 1), (.ref b115)])) _
        refine st231 _ ?_
        show Steps p.tables e below (T231.setTop (mkF m 208 #[rv a, iv fl, rv b54, iv 3, rv b96, rv b105, rv b115, iv 1, iv 1] [(.ref w_SPLIT), (.ref o1), (.int 1), (.ref b115)])) _
        refine Jvm.RoadKit.acmp (g := (mkF m 208 #[rv a, iv fl, rv b54, iv 3, rv b96, rv b105, rv b115, iv 1, iv 1] [(.ref w_SPLIT), (.ref o1), (.int 1), (.ref b115)])) X231 hx rfl rfl rfl (pc0 := 208) (pc' := 211) (same := true) rfl (hb hby own_d10_208) rfl (decide_eq_true (congrArg Value.ref ha232)) (by decide) (by decide) ?_
        show Steps p.tables e below (T231.setTop (mkF m 211 #[rv a, iv fl, rv b54, iv 3, rv b96, rv b105, rv b115, iv 1, iv 1] [(.int 1), (.ref b115)])) _
        refine XS.aloadN X231.here hx rfl (hb hby own_d10_211) rfl rfl ?_
        show Steps p.tables e below (T231.setTop (mkF m 212 #[rv a, iv fl, rv b54, iv 3, rv b96, rv b105, rv b115, iv 1, iv 1] [(.ref b54), (.int 1), (.ref b115)])) _
        refine XS.aloadN X231.here hx rfl (hb hby own_d10_212) rfl rfl ?_
        show Steps p.tables e below (T231.setTop (mkF m 213 #[rv a, iv fl, rv b54, iv 3, rv b96, rv b105, rv b115, iv 1, iv 1] [(.ref a), (.ref b54), (.int 1), (.ref b115)])) _
        refine st234 _ ?_
        show Steps p.tables e below (T234.setTop (mkF m 216 #[rv a, iv fl, rv b54, iv 3, rv b96, rv b105, rv b115, iv 1, iv 1] [(.ref bs), (.ref b54), (.int 1), (.ref b115)])) _
        refine XS.iload X234.here hx rfl (hb hby own_d10_216) rfl ?_
        show Steps p.tables e below (T234.setTop (mkF m 218 #[rv a, iv fl, rv b54, iv 3, rv b96, rv b105, rv b115, iv 1, iv 1] [(.int 1), (.ref bs), (.ref b54), (.int 1), (.ref b115)])) _
        refine X234.iaload hx (j := (1 : Int32)) (v := (.int s1)) (by rw [e234]; exact c236A.1) (State.isArrayOf_alike hZ.alike c236A.2.1) c236A.2.2 c236in c236at (g := (mkF m 218 #[rv a, iv fl, rv b54, iv 3, rv b96, rv b105, rv b115, iv 1, iv 1] [(.int 1), (.ref bs), (.ref b54), (.int 1), (.ref b115)])) rfl rfl (hb hby own_d10_218) _ ?_
        show Steps p.tables e below (T234.setTop (mkF m 219 #[rv a, iv fl, rv b54, iv 3, rv b96, rv b105, rv b115, iv 1, iv 1] [(.int s1), (.ref b54), (.int 1), (.ref b115)])) _
        refine own_top (v' := (.int 1)) (congrArg Value.int hx219) ?_
        show Steps p.tables e below (T234.setTop (mkF m 219 #[rv a, iv fl, rv b54, iv 3, rv b96, rv b105, rv b115, iv 1, iv 1] [(.int 1), (.ref b54), (.int 1), (.ref b115)])) _
        refine X234.iaload hx (j := (1 : Int32)) (v := (.int 1)) (by rw [e234]; exact c240A.1) (State.isArrayOf_alike hZ.alike c240A.2.1) c240A.2.2 c240in c240at (g := (mkF m 219 #[rv a, iv fl, rv b54, iv 3, rv b96, rv b105, rv b115, iv 1, iv 1] [(.int 1), (.ref b54), (.int 1), (.ref b115)])) rfl rfl (hb hby own_d10_219) _ ?_
        show Steps p.tables e below (T234.setTop (mkF m 220 #[rv a, iv fl, rv b54, iv 3, rv b96, rv b105, rv b115, iv 1, iv 1] [(.int 1), (.int 1), (.ref b115)])) _
        refine own_top (v' := (.int s1)) (congrArg Value.int hx219.symm) ?_
        show Steps p.tables e below (T234.setTop (mkF m 220 #[rv a, iv fl, rv b54, iv 3, rv b96, rv b105, rv b115, iv 1, iv 1] [(.int s1), (.int 1), (.ref b115)])) _
        refine XS.goto X234.here hx rfl (pc0 := 220) (pc' := 230) rfl (hb hby own_d10_220) (by decide) (by decide) ?_
        show Steps p.tables e below (T234.setTop (mkF m 230 #[rv a, iv fl, rv b54, iv 3, rv b96, rv b105, rv b115, iv 1, iv 1] [(.int s1), (.int 1), (.ref b115)])) _
        exact kt
      · have f241 := ((f192.other W198 ne_b54_b96).other W223 ne_b54_b105)
        obtain ⟨c242, c242A, c242q, c242S, c242N, c242H, c242G⟩ := id f241
        have c242in : ¬ ((2 : Int32) < 0 ∨ c242.slots.size ≤ ((2 : Int32)).toNatClampNeg) := inb_of c242S ⟨by decide, by decide⟩
        have c242at : c242.slots[((2 : Int32)).toNatClampNeg]? = some (.int 2) := Has.at c242H c242in rfl
        refine ⟨T234, _, trivial, X234, N223, e234, fun target kt => ?_⟩
        show Steps p.tables e below (T227.setTop (mkF m 205 #[rv a, iv fl, rv b54, iv 3, rv b96, rv b105, rv b115, iv 1, iv 1] [(.ref o1), (.int 1), (.ref b115)])) _
        refine st231 _ ?_
        show Steps p.tables e below (T231.setTop (mkF m 208 #[rv a, iv fl, rv b54, iv 3, rv b96, rv b105, rv b115, iv 1, iv 1] [(.ref w_SPLIT), (.ref o1), (.int 1), (.ref b115)])) _
        refine Jvm.RoadKit.acmp (g := (mkF m 208 #[rv a, iv fl, rv b54, iv 3, rv b96, rv b105, rv b115, iv 1, iv 1] [(.ref w_SPLIT), (.ref o1), (.int 1), (.ref b115)])) X231 hx rfl rfl rfl (pc0 := 208) (pc' := 211) (same := true) rfl (hb hby own_d10_208) rfl (decide_eq_true (congrArg Value.ref ha232)) (by decide) (by decide) ?_
        show Steps p.tables e below (T231.setTop (mkF m 211 #[rv a, iv fl, rv b54, iv 3, rv b96, rv b105, rv b115, iv 1, iv 1] [(.int 1), (.ref b115)])) _
        refine XS.aloadN X231.here hx rfl (hb hby own_d10_211) rfl rfl ?_
        show Steps p.tables e below (T231.setTop (mkF m 212 #[rv a, iv fl, rv b54, iv 3, rv b96, rv b105, rv b115, iv 1, iv 1] [(.ref b54), (.int 1), (.ref b115)])) _
        refine XS.aloadN X231.here hx rfl (hb hby own_d10_212) rfl rfl ?_
        show Steps p.tables e below (T231.setTop (mkF m 213 #[rv a, iv fl, rv b54, iv 3, rv b96, rv b105, rv b115, iv 1, iv 1] [(.ref a), (.ref b54), (.int 1), (.ref b115)])) _
        refine st234 _ ?_
        show Steps p.tables e below (T234.setTop (mkF m 216 #[rv a, iv fl, rv b54, iv 3, rv b96, rv b105, rv b115, iv 1, iv 1] [(.ref bs), (.ref b54), (.int 1), (.ref b115)])) _
        refine XS.iload X234.here hx rfl (hb hby own_d10_216) rfl ?_
        show Steps p.tables e below (T234.setTop (mkF m 218 #[rv a, iv fl, rv b54, iv 3, rv b96, rv b105, rv b115, iv 1, iv 1] [(.int 1), (.ref bs), (.ref b54), (.int 1), (.ref b115)])) _
        refine X234.iaload hx (j := (1 : Int32)) (v := (.int s1)) (by rw [e234]; exact c236A.1) (State.isArrayOf_alike hZ.alike c236A.2.1) c236A.2.2 c236in c236at (g := (mkF m 218 #[rv a, iv fl, rv b54, iv 3, rv b96, rv b105, rv b115, iv 1, iv 1] [(.int 1), (.ref bs), (.ref b54), (.int 1), (.ref b115)])) rfl rfl (hb hby own_d10_218) _ ?_
        show Steps p.tables e below (T234.setTop (mkF m 219 #[rv a, iv fl, rv b54, iv 3, rv b96, rv b105, rv b115, iv 1, iv 1] [(.int s1), (.ref b54), (.int 1), (.ref b115)])) _
        refine own_top (v' := (.int 2)) (congrArg Value.int hx219) ?_
        show Steps p.tables e below (T234.setTop (mkF m 219 #[rv a, iv fl, rv b54, iv 3, rv b96, rv b105, rv b115, iv 1, iv 1] [(.int 2), (.ref b54), (.int 1), (.ref b115)])) _
        refine X234.iaload hx (j := (2 : Int32)) (v := (.int 2)) (by rw [e234]; exact c242A.1) (State.isArrayOf_alike hZ.alike c242A.2.1) c242A.2.2 c242in c242at (g := (mkF m 219 #[rv a, iv fl, rv b54, iv 3, rv b96, rv b105, rv b115, iv 1, iv 1] [(.int 2), (.ref b54), (.int 1), (.ref b115)])) rfl rfl (hb hby own_d10_219) _ ?_
        show Steps p.tables e below (T234.setTop (mkF m 220 #[rv a, iv fl, rv b54, iv 3, rv b96, rv b105, rv b115, iv 1, iv 1] [(.int 2), (.int 1), (.ref b115)])) _
        refine own_top (v' := (.int s1)) (congrArg Value.int hx219.symm) ?_
        show Steps p.tables e below (T234.setTop (mkF m 220 #[rv a, iv fl, rv b54, iv 3, rv b96, rv b105, rv b115, iv 1, iv 1] [(.int s1), (.int 1), (.ref b115)])) _
        refine XS.goto X234.here hx rfl (pc0 := 220) (pc' := 230) rfl (hb hby own_d10_220) (by decide) (by decide) ?_
        show Steps p.tables e below (T234.setTop (mkF m 230 #[rv a, iv fl, rv b54, iv 3, rv b96, rv b105, rv b115, iv 1, iv 1] [(.int s1), (.int 1), (.ref b115)])) _
        exact kt
    · have f243 := ((((((((((((q9.ext E54).other W60 (Or.inl ne_a_b54)).other W71 (Or.inl ne_a_b54)).other W82 (Or.inl ne_a_b54)).ext E96).ext E105).ext E115).other W131 (Or.inl ne_a_b96)).other W156 (Or.inl ne_a_b105)).other W182 (Or.inl ne_a_b115)).other W198 (Or.inl ne_a_b96)).other W223 (Or.inl ne_a_b105))
      obtain ⟨T244, X244, e244, st244⟩ := getF X231 hx hZ hown (host := "") (Or.inl (hw _ (own_m 27 rfl))) Via.refl e231 f243 (g := (mkF m 224 #[rv a, iv fl, rv b54, iv 3, rv b96, rv b105, rv b115, iv 1, iv 1] [(.ref a), (.int 1), (.ref b115)])) rfl rfl (hb hby own_d10_224)
      have f245 := ((((((f111.ext E115).other W131 ne_bs_b96).other W156 ne_bs_b105).other W182 ne_bs_b115).other W198 ne_bs_b96).other W223 ne_bs_b105)
      obtain ⟨c246, c246A, c246q, c246S, c246N, c246H, c246G⟩ := id f245
      have c246in : ¬ ((1 : Int32) < 0 ∨ c246.slots.size ≤ ((1 : Int32)).toNatClampNeg) := inb_of c246S ⟨by decide, by decide⟩
      have c246at : c246.slots[((1 : Int32)).toNatClampNeg]? = some (.int s1) := Has.at c246H c246in rfl
      refine ⟨T244, _, trivial, X244, N223, e244, fun target kt => ?_⟩
      show Steps p.tables e below (T227.setTop (mkF m 205 #[rv a, iv fl, rv b54, iv 3, rv b96, rv b105, rv b115, iv 1, iv 1] [(.ref o1), (.int 1), (.ref b115)])) _
      refine st231 _ ?_
      show Steps p.tables e below (T231.setTop (mkF m 208 #[rv a, iv fl, rv b54, iv 3, rv b96, rv b105, rv b115, iv 1, iv 1] [(.ref w_SPLIT), (.ref o1), (.int 1), (.ref b115)])) _
      refine Jvm.RoadKit.acmp (g := (mkF m 208 #[rv a, iv fl, rv b54, iv 3, rv b96, rv b105, rv b115, iv 1, iv 1] [(.ref w_SPLIT), (.ref o1), (.int 1), (.ref b115)])) X231 hx rfl rfl rfl (pc0 := 208) (pc' := 223) (same := false) rfl (hb hby own_d10_208) rfl (decide_eq_false fun q => ha232 (Value.ref.inj q)) (by decide) (by decide) ?_
      show Steps p.tables e below (T231.setTop (mkF m 223 #[rv a, iv fl, rv b54, iv 3, rv b96, rv b105, rv b115, iv 1, iv 1] [(.int 1), (.ref b115)])) _
      refine XS.aloadN X231.here hx rfl (hb hby own_d10_223) rfl rfl ?_
      show Steps p.tables e below (T231.setTop (mkF m 224 #[rv a, iv fl, rv b54, iv 3, rv b96, rv b105, rv b115, iv 1, iv 1] [(.ref a), (.int 1), (.ref b115)])) _
      refine st244 _ ?_
      show Steps p.tables e below (T244.setTop (mkF m 227 #[rv a, iv fl, rv b54, iv 3, rv b96, rv b105, rv b115, iv 1, iv 1] [(.ref bs), (.int 1), (.ref b115)])) _
      refine XS.iload X244.here hx rfl (hb hby own_d10_227) rfl ?_
      show Steps p.tables e below (T244.setTop (mkF m 229 #[rv a, iv fl, rv b54, iv 3, rv b96, rv b105, rv b115, iv 1, iv 1] [(.int 1), (.ref bs), (.int 1), (.ref b115)])) _
      refine X244.iaload hx (j := (1 : Int32)) (v := (.int s1)) (by rw [e244]; exact c246A.1) (State.isArrayOf_alike hZ.alike c246A.2.1) c246A.2.2 c246in c246at (g := (mkF m 229 #[rv a, iv fl, rv b54, iv 3, rv b96, rv b105, rv b115, iv 1, iv 1] [(.int 1), (.ref bs), (.int 1), (.ref b115)])) rfl rfl (hb hby own_d10_229) _ ?_
      show Steps p.tables e below (T244.setTop (mkF m 230 #[rv a, iv fl, rv b54, iv 3, rv b96, rv b105, rv b115, iv 1, iv 1] [(.int s1), (.int 1), (.ref b115)])) _
      exact kt
  have f247 := ((V182.other W198 (Ne.symm ne_b96_b115)).other W223 (Ne.symm ne_b105_b115))
  obtain ⟨c248, c248A, c248q, c248S, c248N, c248H, c248G⟩ := id f247
  have c248in : ¬ ((1 : Int32) < 0 ∨ c248.slots.size ≤ ((1 : Int32)).toNatClampNeg) := inb_of c248S ⟨by decide, by decide⟩
  obtain ⟨T249, h249, X249, e249, W249, st249⟩ := stI X230 hx hZ e230 c248A (j := (1 : Int32)) c248in (g := (mkF m 230 #[rv a, iv fl, rv b54, iv 3, rv b96, rv b105, rv b115, iv 1, iv 1] [(.int s1), (.int 1), (.ref b115)])) rfl rfl (hb hby own_d10_230)
  have V249 : Arv Z h249 b115 k115 .int (3 : Int32) [(.int s0), (.int s1), (.int 0)] (.int 0) := Arv.set c248A c248q c248S c248N c248H c248G rfl W249 1 rfl (Nat.le_of_ble_eq_true rfl)
  have O250 := O224.wr W249 gg_b115
  have kp251 := kp225.wr W249 (Or.inr sz_b115)
  have N249 := Fr.snoc X249 N230 gg_b115
  have f252 := (((f185.other W198 (Or.inl ne_a_b96)).other W223 (Or.inl ne_a_b105)).other W249 (Or.inl ne_a_b115))
  obtain ⟨T253, X253, e253, st253⟩ := getF X249 hx hZ hown (host := "") (Or.inl (hw _ (own_m 67 rfl))) Via.refl e249 f252 (g := (mkF m 119 #[rv a, iv fl, rv b54, iv 3, rv b96, rv b105, rv b115, iv 2, iv 1] [(.ref a), (.int 2)])) rfl rfl (hb hby own_d10_119)
  have f254 := (f226.other W249 (Or.inl ne_a_b115))
  obtain ⟨T255, X255, e255, st255⟩ := getF X253 hx hZ hown (host := "") (Or.inl (hw _ (own_m 22 rfl))) Via.refl e253 f254 (g := (mkF m 126 #[rv a, iv fl, rv b54, iv 3, rv b96, rv b105, rv b115, iv 2, iv 1] [(.ref a)])) rfl rfl (hb hby own_d10_126)
  have f256 := (f228.other W249 ne_bo_b115)
  obtain ⟨c257, c257A, c257q, c257S, c257N, c257H, c257G⟩ := id f256
  have c257in : ¬ ((2 : Int32) < 0 ∨ c257.slots.size ≤ ((2 : Int32)).toNatClampNeg) := inb_of c257S ⟨by decide, by decide⟩
  have c257at : c257.slots[((2 : Int32)).toNatClampNeg]? = some (.ref w_MATCH) := Has.at c257H c257in rfl
  obtain ⟨_, _, ⟨T258, L258, k258, n258⟩, -, X258, ⟨Lc258, hQ258, l258, y258, z258⟩, st258⟩ := Jvm.LawKit.callS X255 hx (y := (⟨"com/example/quillgraph/quillgraph/sparql/RegexProgram$Builder", "isDropped", "(Lcom/example/quillgraph/quillgraph/sparql/RegexProgram$Op;Z)Z"⟩ : MethodName)) hown (mvT hZ (hw _ (own_m 87 rfl))) (mvT hZ (hw _ (own_m 88 rfl))) (mvT hZ (hw _ (own_m 13 rfl))) (mvT hZ (hw _ (own_m 89 rfl))) (by decide) (backOf (W := 0) (own_drop l Z a0 hw [] w_CHARACTER w_SPLIT w_JUMP w_TEXT_START w_LINE_START w_TEXT_END w_LINE_END w_SAVE w_BACK_REFERENCE w_MARK w_PROGRESS w_MATCH w_NOTHING w_DE k_DE w_MATCH fl h249 n0 O250 U_CHARACTER U_SPLIT U_JUMP U_TEXT_START U_LINE_START U_TEXT_END U_LINE_END U_SAVE U_BACK_REFERENCE U_MARK U_PROGRESS U_MATCH U_NOTHING S_DE V_DE ⟨U_MATCH.2.1, Fld.ne U_MATCH.2.2 U_NOTHING.2.2 (by decide), Fld.ne U_MATCH.2.2 U_SAVE.2.2 (by decide), Fld.ne U_MATCH.2.2 U_MARK.2.2 (by decide), Fld.ne U_MATCH.2.2 U_PROGRESS.2.2 (by decide)⟩) hZ (hw _ (own_m 89 rfl)) (hw _ (own_m 13 rfl)) (by decide) (by decide)) (g := (mkF m 133 #[rv a, iv fl, rv b54, iv 3, rv b96, rv b105, rv b115, iv 2, iv 1] [(.int fl), (.ref w_MATCH)])) rfl (by rw [hml]; rfl) (argsL := [(.ref w_MATCH), (.int fl)]) (rest := []) (lenOf own_pd3 rfl) rfl (by show 2 * 0 + _ ≤ _; exact Nat.le_of_eq rfl) (hb hby own_d10_133) (fun _ _ => ⟨rfl, e255, (by decide : 4 + 0 ≤ _), (by decide : 12 + 0 ≤ _)⟩)
  dsimp only [Pt.U, Pt.locs, Pt.cells, Pt.slots] at X258 l258 y258 z258 st258 hQ258
  subst l258 y258 z258
  obtain ⟨rfl, N258q, e258⟩ := hQ258
  have N258 := Fr.app N249 N258q
  have f259 := (((f192.other W198 ne_b54_b96).other W223 ne_b54_b105).other W249 ne_b54_b115)
  obtain ⟨c260, c260A, c260q, c260S, c260N, c260H, c260G⟩ := id f259
  have c260in : ¬ ((2 : Int32) < 0 ∨ c260.slots.size ≤ ((2 : Int32)).toNatClampNeg) := inb_of c260S ⟨by decide, by decide⟩
  have c260at : c260.slots[((2 : Int32)).toNatClampNeg]? = some (.int 2) := Has.at c260H c260in rfl
  obtain ⟨T261, X261, e261, st261⟩ := getF X258 hx hZ hown (host := "") (Or.inl (hw _ (own_m 22 rfl))) Via.refl e258 f254 (g := (mkF m 150 #[rv a, iv fl, rv b54, iv 3, rv b96, rv b105, rv b115, iv 2, iv 2] [(.ref a), (.int 2), (.ref b96)])) rfl rfl (hb hby own_d10_150)
  obtain ⟨c262, c262A, c262q, c262S, c262N, c262H, c262G⟩ := id f256
  have c262in : ¬ ((2 : Int32) < 0 ∨ c262.slots.size ≤ ((2 : Int32)).toNatClampNeg) := inb_of c262S ⟨by decide, by decide⟩
  have c262at : c262.slots[((2 : Int32)).toNatClampNeg]? = some (.ref w_MATCH) := Has.at c262H c262in rfl
  have f263 := ((V198.other W223 ne_b96_b105).other W249 ne_b96_b115)
  obtain ⟨c264, c264A, c264q, c264S, c264N, c264H, c264G⟩ := id f263
  have c264in : ¬ ((2 : Int32) < 0 ∨ c264.slots.size ≤ ((2 : Int32)).toNatClampNeg) := inb_of c264S ⟨by decide, by decide⟩
  obtain ⟨T265, h265, X265, e265, W265, st265⟩ := stR X261 hx hZ e261 c264A (j := (2 : Int32)) c264in rfl (Sto.ofV c264A c264q O96 (Ins.self (U_MATCH.2.1.ext O250.2))) (g := (mkF m 156 #[rv a, iv fl, rv b54, iv 3, rv b96, rv b105, rv b115, iv 2, iv 2] [(.ref w_MATCH), (.int 2), (.ref b96)])) rfl rfl (hb hby own_d10_156)
  have V265 : Arv Z h265 b96 k96 (.object "com/example/quillgraph/quillgraph/sparql/RegexProgram$Op") (3 : Int32) [(.ref o0), (.ref o1), (.ref w_MATCH)] .null := Arv.set c264A c264q c264S c264N c264H c264G rfl W265 2 rfl (Nat.le_of_ble_eq_true rfl)
  have O266 := O250.wr W265 gg_b96
  have kp267 := kp251.wr W265 (Or.inr sz_b96)
  have N265 := Fr.snoc X265 N258 gg_b96
  have f268 := (f254.other W265 (Or.inl ne_a_b96))
  obtain ⟨T269, X269, e269, st269⟩ := getF X265 hx hZ hown (host := "") (Or.inl (hw _ (own_m 22 rfl))) Via.refl e265 f268 (g := (mkF m 162 #[rv a, iv fl, rv b54, iv 3, rv b96, rv b105, rv b115, iv 2, iv 2] [(.ref a), (.int 2), (.ref b105)])) rfl rfl (hb hby own_d10_162)
  have f270 := (f256.other W265 ne_bo_b96)
  obtain ⟨c271, c271A, c271q, c271S, c271N, c271H, c271G⟩ := id f270
  have c271in : ¬ ((2 : Int32) < 0 ∨ c271.slots.size ≤ ((2 : Int32)).toNatClampNeg) := inb_of c271S ⟨by decide, by decide⟩
  have c271at : c271.slots[((2 : Int32)).toNatClampNeg]? = some (.ref w_MATCH) := Has.at c271H c271in rfl
  obtain ⟨_, _, ⟨T272, L272, k272, n272⟩, -, X272, ⟨Lc272, hQ272, l272, y272, z272⟩, st272⟩ := Jvm.LawKit.callS X269 hx (y := (⟨"com/example/quillgraph/quillgraph/sparql/RegexProgram$Builder", "isJump", "(Lcom/example/quillgraph/quillgraph/sparql/RegexProgram$Op;)Z"⟩ : MethodName)) hown (mvT hZ (hw _ (own_m 98 rfl))) (mvT hZ (hw _ (own_m 99 rfl))) (mvT hZ (hw _ (own_m 13 rfl))) (mvT hZ (hw _ (own_m 100 rfl))) (by decide) (backOf (W := 2) (own_isj l Z a0 hw [] w_CHARACTER w_SPLIT w_JUMP w_TEXT_START w_LINE_START w_TEXT_END w_LINE_END w_SAVE w_BACK_REFERENCE w_MARK w_PROGRESS w_MATCH w_NOTHING w_DE k_DE w_MATCH h265 n0 O266 U_CHARACTER U_SPLIT U_JUMP U_TEXT_START U_LINE_START U_TEXT_END U_LINE_END U_SAVE U_BACK_REFERENCE U_MARK U_PROGRESS U_MATCH U_NOTHING S_DE V_DE ) hZ (hw _ (own_m 100 rfl)) (hw _ (own_m 13 rfl)) (by decide) (by decide)) (g := (mkF m 168 #[rv a, iv fl, rv b54, iv 3, rv b96, rv b105, rv b115, iv 2, iv 2] [(.ref w_MATCH), (.int 2), (.ref b105)])) rfl (by rw [hml]; rfl) (argsL := [(.ref w_MATCH)]) (rest := [(.int 2), (.ref b105)]) (lenOf own_pd4 rfl) rfl (by show 2 * 0 + _ ≤ _; exact Nat.le_of_eq rfl) (hb hby own_d10_168) (fun _ _ => ⟨rfl, e269, (by decide : 4 + 0 ≤ _), (by decide : 12 + 0 ≤ _)⟩)
  dsimp only [Pt.U, Pt.locs, Pt.cells, Pt.slots] at X272 l272 y272 z272 st272 hQ272
  subst l272 y272 z272
  obtain ⟨r272, rfl, hr272, N272q, e272⟩ := hQ272
  have N272 := Fr.app N265 N272q
  have hz272 : r272 = (0 : Int32) := by
    rcases hr272 with ⟨-, q⟩ | ⟨q, -⟩
    · exact absurd q (fun z => z.elim (Fld.ne U_MATCH.2.2 U_SPLIT.2.2 (by decide)) (Fld.ne U_MATCH.2.2 U_JUMP.2.2 (by decide)))
    · exact q
  have f273 := ((((((((((((((q8.ext E54).other W60 (Or.inl ne_a_b54)).other W71 (Or.inl ne_a_b54)).other W82 (Or.inl ne_a_b54)).ext E96).ext E105).ext E115).other W131 (Or.inl ne_a_b96)).other W156 (Or.inl ne_a_b105)).other W182 (Or.inl ne_a_b115)).other W198 (Or.inl ne_a_b96)).other W223 (Or.inl ne_a_b105)).other W249 (Or.inl ne_a_b115)).other W265 (Or.inl ne_a_b96))
  obtain ⟨T274, X274, e274, st274⟩ := getF X272 hx hZ hown (host := "") (Or.inl (hw _ (own_m 25 rfl))) Via.refl e272 f273 (g := (mkF m 187 #[rv a, iv fl, rv b54, iv 3, rv b96, rv b105, rv b115, iv 2, iv 2] [(.ref a), (.int 2), (.ref b105)])) rfl rfl (hb hby own_d10_187)
  have f275 := ((((((((f110.ext E115).other W131 ne_bf_b96).other W156 ne_bf_b105).other W182 ne_bf_b115).other W198 ne_bf_b96).other W223 ne_bf_b105).other W249 ne_bf_b115).other W265 ne_bf_b96)
  obtain ⟨c276, c276A, c276q, c276S, c276N, c276H, c276G⟩ := id f275
  have c276in : ¬ ((2 : Int32) < 0 ∨ c276.slots.size ≤ ((2 : Int32)).toNatClampNeg) := inb_of c276S ⟨by decide, by decide⟩
  have c276at : c276.slots[((2 : Int32)).toNatClampNeg]? = some (.int 0) := Has.at c276H c276in rfl
  have f277 := ((V223.other W249 ne_b105_b115).other W265 (Ne.symm ne_b96_b105))
  obtain ⟨c278, c278A, c278q, c278S, c278N, c278H, c278G⟩ := id f277
  have c278in : ¬ ((2 : Int32) < 0 ∨ c278.slots.size ≤ ((2 : Int32)).toNatClampNeg) := inb_of c278S ⟨by decide, by decide⟩
  obtain ⟨T279, h279, X279, e279, W279, st279⟩ := stI X274 hx hZ e274 c278A (j := (2 : Int32)) c278in (g := (mkF m 193 #[rv a, iv fl, rv b54, iv 3, rv b96, rv b105, rv b115, iv 2, iv 2] [(.int 0), (.int 2), (.ref b105)])) rfl rfl (hb hby own_d10_193)
  have V279 : Arv Z h279 b105 k105 .int (3 : Int32) [(.int f0), (.int f1), (.int 0)] (.int 0) := Arv.set c278A c278q c278S c278N c278H c278G rfl W279 2 rfl (Nat.le_of_ble_eq_true rfl)
  have O280 := O266.wr W279 gg_b105
  have kp281 := kp267.wr W279 (Or.inr sz_b105)
  have N279 := Fr.snoc X279 N272 gg_b105
  have f282 := (f268.other W279 (Or.inl ne_a_b105))
  obtain ⟨T283, X283, e283, st283⟩ := getF X279 hx hZ hown (host := "") (Or.inl (hw _ (own_m 22 rfl))) Via.refl e279 f282 (g := (mkF m 199 #[rv a, iv fl, rv b54, iv 3, rv b96, rv b105, rv b115, iv 2, iv 2] [(.ref a), (.int 2), (.ref b115)])) rfl rfl (hb hby own_d10_199)
  have f284 := (f270.other W279 ne_bo_b105)
  obtain ⟨c285, c285A, c285q, c285S, c285N, c285H, c285G⟩ := id f284
  have c285in : ¬ ((2 : Int32) < 0 ∨ c285.slots.size ≤ ((2 : Int32)).toNatClampNeg) := inb_of c285S ⟨by decide, by decide⟩
  have c285at : c285.slots[((2 : Int32)).toNatClampNeg]? = some (.ref w_MATCH) := Has.at c285H c285in rfl
  obtain ⟨T286, X286, e286, st286⟩ := getS2 X283 hx hZ hown (host := "") (Or.inl (hw _ (own_m 101 rfl))) Via.refl e283 (U_SPLIT.1.ext O280.2) (g := (mkF m 205 #[rv a, iv fl, rv b54, iv 3, rv b96, rv b105, rv b115, iv 2, iv 2] [(.ref w_MATCH), (.int 2), (.ref b115)])) rfl (hb hby own_d10_205)
  have f287 := (((((((((((((((q9.ext E54).other W60 (Or.inl ne_a_b54)).other W71 (Or.inl ne_a_b54)).other W82 (Or.inl ne_a_b54)).ext E96).ext E105).ext E115).other W131 (Or.inl ne_a_b96)).other W156 (Or.inl ne_a_b105)).other W182 (Or.inl ne_a_b115)).other W198 (Or.inl ne_a_b96)).other W223 (Or.inl ne_a_b105)).other W249 (Or.inl ne_a_b115)).other W265 (Or.inl ne_a_b96)).other W279 (Or.inl ne_a_b105))
  obtain ⟨T288, X288, e288, st288⟩ := getF X286 hx hZ hown (host := "") (Or.inl (hw _ (own_m 27 rfl))) Via.refl e286 f287 (g := (mkF m 224 #[rv a, iv fl, rv b54, iv 3, rv b96, rv b105, rv b115, iv 2, iv 2] [(.ref a), (.int 2), (.ref b115)])) rfl rfl (hb hby own_d10_224)
  have f289 := (((((((((f111.ext E115).other W131 ne_bs_b96).other W156 ne_bs_b105).other W182 ne_bs_b115).other W198 ne_bs_b96).other W223 ne_bs_b105).other W249 ne_bs_b115).other W265 ne_bs_b96).other W279 ne_bs_b105)
  obtain ⟨c290, c290A, c290q, c290S, c290N, c290H, c290G⟩ := id f289
  have c290in : ¬ ((2 : Int32) < 0 ∨ c290.slots.size ≤ ((2 : Int32)).toNatClampNeg) := inb_of c290S ⟨by decide, by decide⟩
  have c290at : c290.slots[((2 : Int32)).toNatClampNeg]? = some (.int 0) := Has.at c290H c290in rfl
  have f291 := ((V249.other W265 (Ne.symm ne_b96_b115)).other W279 (Ne.symm ne_b105_b115))
  obtain ⟨c292, c292A, c292q, c292S, c292N, c292H, c292G⟩ := id f291
  have c292in : ¬ ((2 : Int32) < 0 ∨ c292.slots.size ≤ ((2 : Int32)).toNatClampNeg) := inb_of c292S ⟨by decide, by decide⟩
  obtain ⟨T293, h293, X293, e293, W293, st293⟩ := stI X288 hx hZ e288 c292A (j := (2 : Int32)) c292in (g := (mkF m 230 #[rv a, iv fl, rv b54, iv 3, rv b96, rv b105, rv b115, iv 2, iv 2] [(.int 0), (.int 2), (.ref b115)])) rfl rfl (hb hby own_d10_230)
  have V293 : Arv Z h293 b115 k115 .int (3 : Int32) [(.int s0), (.int s1), (.int 0)] (.int 0) := Arv.set c292A c292q c292S c292N c292H c292G rfl W293 2 rfl (Nat.le_of_ble_eq_true rfl)
  have O294 := O280.wr W293 gg_b115
  have kp295 := kp281.wr W293 (Or.inr sz_b115)
  have N293 := Fr.snoc X293 N279 gg_b115
  have f296 := (((f252.other W265 (Or.inl ne_a_b96)).other W279 (Or.inl ne_a_b105)).other W293 (Or.inl ne_a_b115))
  obtain ⟨T297, X297, e297, st297⟩ := getF X293 hx hZ hown (host := "") (Or.inl (hw _ (own_m 67 rfl))) Via.refl e293 f296 (g := (mkF m 119 #[rv a, iv fl, rv b54, iv 3, rv b96, rv b105, rv b115, iv 3, iv 2] [(.ref a), (.int 3)])) rfl rfl (hb hby own_d10_119)
  have f298 := ((((((((((f108.ext E115).wr W131).wr W156).wr W182).wr W198).wr W223).wr W249).wr W265).wr W279).wr W293)
  have f299 := (f284.other W293 ne_bo_b115)
  have f300 := ((f275.other W279 ne_bf_b105).other W293 ne_bf_b115)
  have f301 := (f289.other W293 ne_bs_b115)
  have f302 := ((((((((((f112.ext E115).wr W131).wr W156).wr W182).wr W198).wr W223).wr W249).wr W265).wr W279).wr W293)
  have f303 := (((f259.other W265 ne_b54_b96).other W279 ne_b54_b105).other W293 ne_b54_b115)
  have f304 := ((V265.other W279 ne_b96_b105).other W293 ne_b96_b115)
  have f305 := (V279.other W293 ne_b105_b115)
  obtain ⟨T306, h306, X306, e306, E306, A306, D306, -, st306⟩ := newO X297 hx hZ hown (hw _ (own_m 103 rfl)) (hw _ (own_m 104 rfl)) (hw _ (own_m 105 rfl)) e297 (g := (mkF m 237 #[rv a, iv fl, rv b54, iv 3, rv b96, rv b105, rv b115, iv 3, iv 2] [])) rfl (hb hby own_d10_237) (by decide) (by decide)
  obtain ⟨b306, g306⟩ : ∃ z, z = h293.size := ⟨_, rfl⟩
  rw [← g306] at A306 D306 st306
  have ne_a_b306 : a ≠ b306 := Nat.ne_of_lt (g306 ▸ f298.lt)
  have ne_bo_b306 : bo ≠ b306 := Nat.ne_of_lt (g306 ▸ f299.lt)
  have ne_bf_b306 : bf ≠ b306 := Nat.ne_of_lt (g306 ▸ f300.lt)
  have ne_bs_b306 : bs ≠ b306 := Nat.ne_of_lt (g306 ▸ f301.lt)
  have ne_ll_b306 : ll ≠ b306 := Nat.ne_of_lt (g306 ▸ f302.lt)
  have ne_b54_b306 : b54 ≠ b306 := Nat.ne_of_lt (g306 ▸ f303.lt)
  have ne_b96_b306 : b96 ≠ b306 := Nat.ne_of_lt (g306 ▸ f304.lt)
  have ne_b105_b306 : b105 ≠ b306 := Nat.ne_of_lt (g306 ▸ f305.lt)
  have ne_b115_b306 : b115 ≠ b306 := Nat.ne_of_lt (g306 ▸ V293.lt)
  have gg_b306 : n0 ≤ b306 := g306 ▸ own_le O294
  have sz_b306 : h0.size ≤ b306 := g306 ▸ kp295.1
  have O307 := O294.ext E306
  have kp308 := kp295.ext E306
  have F_ops_b306 : Fld Z h306 b306 "com/example/quillgraph/quillgraph/sparql/RegexProgram" "ops" "[Lcom/example/quillgraph/quillgraph/sparql/RegexProgram$Op;" .null := D306 (Or.inr (hw _ (own_m 132 rfl))) (ty := (.array (.object "com/example/quillgraph/quillgraph/sparql/RegexProgram$Op"))) (by decide)
  have F_first_b306 : Fld Z h306 b306 "com/example/quillgraph/quillgraph/sparql/RegexProgram" "first" "[I" .null := D306 (Or.inr (hw _ (own_m 134 rfl))) (ty := (.array .int)) (by decide)
  have F_second_b306 : Fld Z h306 b306 "com/example/quillgraph/quillgraph/sparql/RegexProgram" "second" "[I" .null := D306 (Or.inr (hw _ (own_m 136 rfl))) (ty := (.array .int)) (by decide)
  have F_classes_b306 : Fld Z h306 b306 "com/example/quillgraph/quillgraph/sparql/RegexProgram" "classes" "[Lcom/example/quillgraph/quillgraph/sparql/CodePointSet;" .null := D306 (Or.inr (hw _ (own_m 138 rfl))) (ty := (.array (.object "com/example/quillgraph/quillgraph/sparql/CodePointSet"))) (by decide)
  have F_registers_b306 : Fld Z h306 b306 "com/example/quillgraph/quillgraph/sparql/RegexProgram" "registers" "I" (.int 0) := D306 (Or.inr (hw _ (own_m 140 rfl))) (ty := .int) (by decide)
  have F_backReferences_b306 : Fld Z h306 b306 "com/example/quillgraph/quillgraph/sparql/RegexProgram" "backReferences" "Z" (.int 0) := D306 (Or.inr (hw _ (own_m 142 rfl))) (ty := .boolean) (by decide)
  have f309 := (((((((((((((((((q10.ext E54).other W60 (Or.inl ne_a_b54)).other W71 (Or.inl ne_a_b54)).other W82 (Or.inl ne_a_b54)).ext E96).ext E105).ext E115).other W131 (Or.inl ne_a_b96)).other W156 (Or.inl ne_a_b105)).other W182 (Or.inl ne_a_b115)).other W198 (Or.inl ne_a_b96)).other W223 (Or.inl ne_a_b105)).other W249 (Or.inl ne_a_b115)).other W265 (Or.inl ne_a_b96)).other W279 (Or.inl ne_a_b105)).other W293 (Or.inl ne_a_b115)).ext E306)
  obtain ⟨T310, X310, e310, st310⟩ := getF X306 hx hZ hown (host := "") (Or.inl (hw _ (own_m 53 rfl))) Via.refl e306 f309 (g := (mkF m 248 #[rv a, iv fl, rv b54, iv 3, rv b96, rv b105, rv b115, iv 3, iv 2] [(.ref a), (.ref b115), (.ref b105), (.ref b96), (.ref b306), (.ref b306)])) rfl rfl (hb hby own_d10_248)
  have f311 := (f298.ext E306)
  have f312 := (f299.ext E306)
  have f313 := (f300.ext E306)
  have f314 := (f301.ext E306)
  have f315 := (f302.ext E306)
  have f316 := (f303.ext E306)
  have f317 := (f304.ext E306)
  have f318 := (f305.ext E306)
  have f319 := (V293.ext E306)
  obtain ⟨T320, h320, k320, X320, e320, E320, A320, B320, O320, st320⟩ := newRE X310 hx hZ hown (hw _ (own_m 106 rfl)) (hw _ (own_m 107 rfl)) e310 (g := (mkF m 252 #[rv a, iv fl, rv b54, iv 3, rv b96, rv b105, rv b115, iv 3, iv 2] [(.int 0), (.ref ll), (.ref b115), (.ref b105), (.ref b96), (.ref b306), (.ref b306)])) rfl (hb hby own_d10_252) rfl (by decide) (cap := 0) (by decide) (by decide) (by decide) (by decide) (ad := "[Lcom/example/quillgraph/quillgraph/sparql/CodePointSet;") (by first | decide +kernel | rfl)
  obtain ⟨b320, g320⟩ : ∃ z, z = h306.size := ⟨_, rfl⟩
  rw [← g320] at A320 B320 st320
  have ne_a_b320 : a ≠ b320 := Nat.ne_of_lt (g320 ▸ f311.lt)
  have ne_bo_b320 : bo ≠ b320 := Nat.ne_of_lt (g320 ▸ f312.lt)
  have ne_bf_b320 : bf ≠ b320 := Nat.ne_of_lt (g320 ▸ f313.lt)
  have ne_bs_b320 : bs ≠ b320 := Nat.ne_of_lt (g320 ▸ f314.lt)
  have ne_ll_b320 : ll ≠ b320 := Nat.ne_of_lt (g320 ▸ f315.lt)
  have ne_b54_b320 : b54 ≠ b320 := Nat.ne_of_lt (g320 ▸ f316.lt)
  have ne_b96_b320 : b96 ≠ b320 := Nat.ne_of_lt (g320 ▸ f317.lt)
  have ne_b105_b320 : b105 ≠ b320 := Nat.ne_of_lt (g320 ▸ f318.lt)
  have ne_b115_b320 : b115 ≠ b320 := Nat.ne_of_lt (g320 ▸ f319.lt)
  have ne_b306_b320 : b306 ≠ b320 := Nat.ne_of_lt (g320 ▸ A306.lt)
  have gg_b320 : n0 ≤ b320 := g320 ▸ own_le O307
  have sz_b320 : h0.size ≤ b320 := g320 ▸ kp308.1
  have O321 := O307.ext E320
  have kp322 := kp308.ext E320
  have V_b320 : Arv Z h320 b320 k320 (.object "com/example/quillgraph/quillgraph/sparql/CodePointSet") (0 : Int32) [] .null := (Arv.new A320 (by decide)).pad (pad_rep [] .null 0)
  have f323 := (f315.ext E320)
  have f324 := (((((((((((((((((((Fl_elementData.keep K2 (ninS n_ll_a (ninS (Ne.symm n_bo_ll) (ninS (Ne.symm n_bf_ll) (ninS (Ne.symm n_bs_ll) nin0))))).ext E54).other W60 (Or.inl ne_ll_b54)).other W71 (Or.inl ne_ll_b54)).other W82 (Or.inl ne_ll_b54)).ext E96).ext E105).ext E115).other W131 (Or.inl ne_ll_b96)).other W156 (Or.inl ne_ll_b105)).other W182 (Or.inl ne_ll_b115)).other W198 (Or.inl ne_ll_b96)).other W223 (Or.inl ne_ll_b105)).other W249 (Or.inl ne_ll_b115)).other W265 (Or.inl ne_ll_b96)).other W279 (Or.inl ne_ll_b105)).other W293 (Or.inl ne_ll_b115)).ext E306).ext E320)
  have f325 := (((((((((((((((((((Fl_size.keep K2 (ninS n_ll_a (ninS (Ne.symm n_bo_ll) (ninS (Ne.symm n_bf_ll) (ninS (Ne.symm n_bs_ll) nin0))))).ext E54).other W60 (Or.inl ne_ll_b54)).other W71 (Or.inl ne_ll_b54)).other W82 (Or.inl ne_ll_b54)).ext E96).ext E105).ext E115).other W131 (Or.inl ne_ll_b96)).other W156 (Or.inl ne_ll_b105)).other W182 (Or.inl ne_ll_b115)).other W198 (Or.inl ne_ll_b96)).other W223 (Or.inl ne_ll_b105)).other W249 (Or.inl ne_ll_b115)).other W265 (Or.inl ne_ll_b96)).other W279 (Or.inl ne_ll_b105)).other W293 (Or.inl ne_ll_b115)).ext E306).ext E320)
  have f326 := (((((((((((((((((((Fl_modCount.keep K2 (ninS n_ll_a (ninS (Ne.symm n_bo_ll) (ninS (Ne.symm n_bf_ll) (ninS (Ne.symm n_bs_ll) nin0))))).ext E54).other W60 (Or.inl ne_ll_b54)).other W71 (Or.inl ne_ll_b54)).other W82 (Or.inl ne_ll_b54)).ext E96).ext E105).ext E115).other W131 (Or.inl ne_ll_b96)).other W156 (Or.inl ne_ll_b105)).other W182 (Or.inl ne_ll_b115)).other W198 (Or.inl ne_ll_b96)).other W223 (Or.inl ne_ll_b105)).other W249 (Or.inl ne_ll_b115)).other W265 (Or.inl ne_ll_b96)).other W279 (Or.inl ne_ll_b105)).other W293 (Or.inl ne_ll_b115)).ext E306).ext E320)
  obtain ⟨cq327, kq327, q327a, q327b, q327c⟩ := isOf hZ e320 f323
  obtain ⟨_, _, ⟨T327, L327, k327, n327⟩, -, X327, ⟨Lc327, hQ327, l327, y327, z327⟩, st327⟩ := X320.interfaceBack hx (xi := (⟨"java/util/List", "toArray", "([Ljava/lang/Object;)[Ljava/lang/Object;"⟩ : MethodName)) (y := (⟨"java/util/ArrayList", "toArray", "([Ljava/lang/Object;)[Ljava/lang/Object;"⟩ : MethodName)) hown (mvT hZ (hw _ (own_m 108 rfl))) (mvT hZ (hw _ (own_m 109 rfl))) (mvT hZ (hw _ (own_m 110 rfl))) (mvT hZ (hw _ (own_m 111 rfl))) (mvT hZ (hw _ (own_m 112 rfl))) (mvT hZ (hw _ (own_m 113 rfl))) (mvT hZ (hw _ (own_m 114 rfl))) (mvT hZ (hw _ (own_m 115 rfl))) (by decide) (backOf (W := 5) (own_toa l Z a0 hw [] w_CHARACTER w_SPLIT w_JUMP w_TEXT_START w_LINE_START w_TEXT_END w_LINE_END w_SAVE w_BACK_REFERENCE w_MARK w_PROGRESS w_MATCH w_NOTHING w_DE k_DE ll b320 k320 h320 n0 O321 U_CHARACTER U_SPLIT U_JUMP U_TEXT_START U_LINE_START U_TEXT_END U_LINE_END U_SAVE U_BACK_REFERENCE U_MARK U_PROGRESS U_MATCH U_NOTHING S_DE V_DE gl f323 f324 f325 f326 gg_b320 (Ne.symm ne_ll_b320) V_b320) hZ (hw _ (own_m 116 rfl)) (hw _ (own_m 31 rfl)) (by decide) (by decide)) q327a q327b q327c (g := (mkF m 255 #[rv a, iv fl, rv b54, iv 3, rv b96, rv b105, rv b115, iv 3, iv 2] [(.ref b320), (.ref ll), (.ref b115), (.ref b105), (.ref b96), (.ref b306), (.ref b306)])) rfl (by rw [hml]; rfl) (Steps.refl _) (argsL := [(.ref b320)]) (rest := [(.ref b115), (.ref b105), (.ref b96), (.ref b306), (.ref b306)]) (lenOf own_pd5 rfl) rfl (by show 2 * 0 + _ ≤ _; exact Nat.le_of_eq rfl) (hb hby own_d10_255) (fun _ _ => ⟨rfl, e320, (by decide : 6 + 0 ≤ _), (by decide : 18 + 0 ≤ _)⟩)
  dsimp only [Pt.U, Pt.locs, Pt.cells, Pt.slots] at X327 l327 y327 z327 st327 hQ327
  subst l327 y327 z327
  obtain ⟨rfl, N327q, K327⟩ := hQ327
  have N327 := Fr.app N293 N327q
  have O328 := O321.keep K327 (allS gg_b320 all0)
  have kp329 := kp322.trans K327 ((allS (P := fun x => x ∈ ([a, bo, bf, bs] : List Addr) ∨ h0.size ≤ x) (Or.inr sz_b320) all0))
  have f330 := (B320.keep K327)
  obtain ⟨T331, X331, e331, st331⟩ := castY X327 hx hZ hown (hw _ (own_m 123 rfl)) rfl (Ins.self f330) (g := (mkF m 260 #[rv a, iv fl, rv b54, iv 3, rv b96, rv b105, rv b115, iv 3, iv 2] [(.ref b320), (.ref b115), (.ref b105), (.ref b96), (.ref b306), (.ref b306)])) rfl rfl (hb hby own_d10_260)
  have f332 := (((((((((((((((((((q13.ext E54).other W60 (Or.inl ne_a_b54)).other W71 (Or.inl ne_a_b54)).other W82 (Or.inl ne_a_b54)).ext E96).ext E105).ext E115).other W131 (Or.inl ne_a_b96)).other W156 (Or.inl ne_a_b105)).other W182 (Or.inl ne_a_b115)).other W198 (Or.inl ne_a_b96)).other W223 (Or.inl ne_a_b105)).other W249 (Or.inl ne_a_b115)).other W265 (Or.inl ne_a_b96)).other W279 (Or.inl ne_a_b105)).other W293 (Or.inl ne_a_b115)).ext E306).ext E320).keep K327 (ninS ne_a_b320 nin0))
  obtain ⟨T333, X333, e333, st333⟩ := getF X331 hx hZ hown (host := "") (Or.inl (hw _ (own_m 125 rfl))) Via.refl e331 f332 (g := (mkF m 264 #[rv a, iv fl, rv b54, iv 3, rv b96, rv b105, rv b115, iv 3, iv 2] [(.ref a), (.ref b320), (.ref b115), (.ref b105), (.ref b96), (.ref b306), (.ref b306)])) rfl rfl (hb hby own_d10_264)
  have f334 := ((A306.ext E320).keep K327)
  have f335 := ((F_ops_b306.ext E320).keep K327 (ninS ne_b306_b320 nin0))
  have f336 := ((F_first_b306.ext E320).keep K327 (ninS ne_b306_b320 nin0))
  have f337 := ((F_second_b306.ext E320).keep K327 (ninS ne_b306_b320 nin0))
  have f338 := ((F_classes_b306.ext E320).keep K327 (ninS ne_b306_b320 nin0))
  have f339 := ((F_registers_b306.ext E320).keep K327 (ninS ne_b306_b320 nin0))
  have f340 := ((F_backReferences_b306.ext E320).keep K327 (ninS ne_b306_b320 nin0))
  obtain ⟨_, _, ⟨T341, L341, k341, n341⟩, -, X341, ⟨Lc341, hQ341, l341, y341, z341⟩, st341⟩ := X333.specialBackNest hx (y := (⟨"com/example/quillgraph/quillgraph/sparql/RegexProgram", "<init>", "([Lcom/example/quillgraph/quillgraph/sparql/RegexProgram$Op;[I[I[Lcom/example/quillgraph/quillgraph/sparql/CodePointSet;IZ)V"⟩ : MethodName)) rfl hown (Cond.methodLinkNest_wide hZ (hw _ (own_m 127 rfl)) :) (mvT hZ (hw _ (own_m 128 rfl))) (mvT hZ (hw _ (own_m 129 rfl))) (by decide) (backOf (W := 1) (own_prg l Z a0 hw [] w_CHARACTER w_SPLIT w_JUMP w_TEXT_START w_LINE_START w_TEXT_END w_LINE_END w_SAVE w_BACK_REFERENCE w_MARK w_PROGRESS w_MATCH w_NOTHING w_DE k_DE b306 b96 b105 b115 b320 (0 : Int32) fl T327.heap n0 O328 U_CHARACTER U_SPLIT U_JUMP U_TEXT_START U_LINE_START U_TEXT_END U_LINE_END U_SAVE U_BACK_REFERENCE U_MARK U_PROGRESS U_MATCH U_NOTHING S_DE V_DE gg_b306 f334 f335 f336 f337 f338 f339 f340 hj16) hZ (hw _ (own_m 129 rfl)) (hw _ (own_m 105 rfl)) (by decide) (by decide)) (g := (mkF m 268 #[rv a, iv fl, rv b54, iv 3, rv b96, rv b105, rv b115, iv 3, iv 2] [(.int fl), (.int 0), (.ref b320), (.ref b115), (.ref b105), (.ref b96), (.ref b306), (.ref b306)])) rfl (by rw [hml]; rfl) (Steps.refl _) (a := b306) (argsL := [(.ref b96), (.ref b105), (.ref b115), (.ref b320), (.int 0), (.int fl)]) (rest := [(.ref b306)]) (lenOf own_pd6 rfl) rfl (by show 2 * 0 + _ ≤ _; exact Nat.le_of_eq rfl) (hb hby own_d10_268) (fun _ _ => ⟨rfl, e333, (by decide : 6 + 0 ≤ _), (by decide : 18 + 0 ≤ _)⟩)
  dsimp only [Pt.U, Pt.locs, Pt.cells, Pt.slots] at X341 l341 y341 z341 st341 hQ341
  subst l341 y341 z341
  obtain ⟨rfl, N341q, K341, q342, q343, q344, q345⟩ := hQ341
  have N341 := Fr.app N327 N341q
  have O346 := O328.keep K341 (allS gg_b306 all0)
  have kp347 := kp329.trans K341 ((allS (P := fun x => x ∈ ([a, bo, bf, bs] : List Addr) ∨ h0.size ≤ x) (Or.inr sz_b306) all0))
  have f348 := (((f317.ext E320).keep K327 (ninS ne_b96_b320 nin0)).keep K341 (ninS ne_b96_b306 nin0))
  have f349 := (((f318.ext E320).keep K327 (ninS ne_b105_b320 nin0)).keep K341 (ninS ne_b105_b306 nin0))
  have f350 := (((f319.ext E320).keep K327 (ninS ne_b115_b320 nin0)).keep K341 (ninS ne_b115_b306 nin0))
  obtain ⟨fs, hr, hrun, hended, hW, hsame⟩ := X341.leave (v := some (.ref b306)) (fun h => by rw [Bd.returns] at h; cases h)
  refine ⟨_, _, pre0 _ ?_, hrun, hended, _, _, rfl, ?_, ⟨_, rfl⟩, hW, hsame.mono (by decide) (by decide)⟩
  · show Steps p.tables e below (s₁.setTop (mkF m 0 #[rv a, .unset, .unset, .unset, .unset, .unset, .unset, .unset, .unset] [])) _
    refine XS.aloadN X0.here hx rfl (hb hby own_d10_0) rfl rfl ?_
    show Steps p.tables e below (s₁.setTop (mkF m 1 #[rv a, .unset, .unset, .unset, .unset, .unset, .unset, .unset, .unset] [(.ref a)])) _
    refine st1 _ ?_
    show Steps p.tables e below (T1.setTop (mkF m 4 #[rv a, .unset, .unset, .unset, .unset, .unset, .unset, .unset, .unset] [(.ref w_MATCH), (.ref a)])) _
    refine XS.iconst X1.here hx rfl (hb hby own_d10_4) ?_
    show Steps p.tables e below (T1.setTop (mkF m 5 #[rv a, .unset, .unset, .unset, .unset, .unset, .unset, .unset, .unset] [(.int 0), (.ref w_MATCH), (.ref a)])) _
    refine XS.iconst X1.here hx rfl (hb hby own_d10_5) ?_
    show Steps p.tables e below (T1.setTop (mkF m 6 #[rv a, .unset, .unset, .unset, .unset, .unset, .unset, .unset, .unset] [(.int 0), (.int 0), (.ref w_MATCH), (.ref a)])) _
    refine st2.trans ?_
    show Steps p.tables e below (T2.setTop (mkF m 9 #[rv a, .unset, .unset, .unset, .unset, .unset, .unset, .unset, .unset] [(.int 2)])) _
    refine XS.pop X2.here hx rfl (hb hby own_d10_9) rfl rfl ?_
    show Steps p.tables e below (T2.setTop (mkF m 10 #[rv a, .unset, .unset, .unset, .unset, .unset, .unset, .unset, .unset] [])) _
    refine XS.iconst X2.here hx rfl (hb hby own_d10_10) ?_
    show Steps p.tables e below (T2.setTop (mkF m 11 #[rv a, .unset, .unset, .unset, .unset, .unset, .unset, .unset, .unset] [(.int 0)])) _
    refine XS.istoreN X2.here hx rfl (hb hby own_d10_11) rfl (l' := #[rv a, iv 0, .unset, .unset, .unset, .unset, .unset, .unset, .unset]) rfl ?_
    show Steps p.tables e below (T2.setTop (mkF m 12 #[rv a, iv 0, .unset, .unset, .unset, .unset, .unset, .unset, .unset] [])) _
    refine st16 _ ?_
    show Steps p.tables e below (T16.setTop (mkF m 48 #[rv a, iv fl, iv 3, .unset, .unset, .unset, .unset, .unset, .unset] [])) _
    refine XS.aloadN X16.here hx rfl (hb hby own_d10_48) rfl rfl ?_
    show Steps p.tables e below (T16.setTop (mkF m 49 #[rv a, iv fl, iv 3, .unset, .unset, .unset, .unset, .unset, .unset] [(.ref a)])) _
    refine st52 _ ?_
    show Steps p.tables e below (T52.setTop (mkF m 52 #[rv a, iv fl, iv 3, .unset, .unset, .unset, .unset, .unset, .unset] [(.int 3)])) _
    refine st54 _ ?_
    show Steps p.tables e below (T54.setTop (mkF m 54 #[rv a, iv fl, iv 3, .unset, .unset, .unset, .unset, .unset, .unset] [(.ref b54)])) _
    refine XS.astoreN X54.here hx rfl (hb hby own_d10_54) rfl rfl (l' := #[rv a, iv fl, rv b54, .unset, .unset, .unset, .unset, .unset, .unset]) rfl ?_
    show Steps p.tables e below (T54.setTop (mkF m 55 #[rv a, iv fl, rv b54, .unset, .unset, .unset, .unset, .unset, .unset] [])) _
    refine XS.iconst X54.here hx rfl (hb hby own_d10_55) ?_
    show Steps p.tables e below (T54.setTop (mkF m 56 #[rv a, iv fl, rv b54, .unset, .unset, .unset, .unset, .unset, .unset] [(.int 0)])) _
    refine XS.istoreN X54.here hx rfl (hb hby own_d10_56) rfl (l' := #[rv a, iv fl, rv b54, iv 0, .unset, .unset, .unset, .unset, .unset]) rfl ?_
    show Steps p.tables e below (T54.setTop (mkF m 57 #[rv a, iv fl, rv b54, iv 0, .unset, .unset, .unset, .unset, .unset] [])) _
    refine XS.iconst X54.here hx rfl (hb hby own_d10_57) ?_
    show Steps p.tables e below (T54.setTop (mkF m 58 #[rv a, iv fl, rv b54, iv 0, .unset, .unset, .unset, .unset, .unset] [(.int 0)])) _
    refine XS.istore X54.here hx rfl (hb hby own_d10_58) rfl (l' := #[rv a, iv fl, rv b54, iv 0, iv 0, .unset, .unset, .unset, .unset]) rfl ?_
    show Steps p.tables e below (T54.setTop (mkF m 60 #[rv a, iv fl, rv b54, iv 0, iv 0, .unset, .unset, .unset, .unset] [])) _
    refine XS.iload X54.here hx rfl (hb hby own_d10_60) rfl ?_
    show Steps p.tables e below (T54.setTop (mkF m 62 #[rv a, iv fl, rv b54, iv 0, iv 0, .unset, .unset, .unset, .unset] [(.int 0)])) _
    refine XS.aloadN X54.here hx rfl (hb hby own_d10_62) rfl rfl ?_
    show Steps p.tables e below (T54.setTop (mkF m 63 #[rv a, iv fl, rv b54, iv 0, iv 0, .unset, .unset, .unset, .unset] [(.ref a), (.int 0)])) _
    refine st58 _ ?_
    show Steps p.tables e below (T58.setTop (mkF m 66 #[rv a, iv fl, rv b54, iv 0, iv 0, .unset, .unset, .unset, .unset] [(.int 3), (.int 0)])) _
    refine XS.icmpNo X58.here hx rfl (hb hby own_d10_66) rfl (tlt (by decide)).2.1 ?_
    show Steps p.tables e below (T58.setTop (mkF m 69 #[rv a, iv fl, rv b54, iv 0, iv 0, .unset, .unset, .unset, .unset] [])) _
    refine XS.aloadN X58.here hx rfl (hb hby own_d10_69) rfl rfl ?_
    show Steps p.tables e below (T58.setTop (mkF m 70 #[rv a, iv fl, rv b54, iv 0, iv 0, .unset, .unset, .unset, .unset] [(.ref b54)])) _
    refine XS.iload X58.here hx rfl (hb hby own_d10_70) rfl ?_
    show Steps p.tables e below (T58.setTop (mkF m 72 #[rv a, iv fl, rv b54, iv 0, iv 0, .unset, .unset, .unset, .unset] [(.int 0), (.ref b54)])) _
    refine XS.iloadN X58.here hx rfl (hb hby own_d10_72) rfl ?_
    show Steps p.tables e below (T58.setTop (mkF m 73 #[rv a, iv fl, rv b54, iv 0, iv 0, .unset, .unset, .unset, .unset] [(.int 0), (.int 0), (.ref b54)])) _
    refine st60 _ ?_
    show Steps p.tables e below (T60.setTop (mkF m 74 #[rv a, iv fl, rv b54, iv 0, iv 0, .unset, .unset, .unset, .unset] [])) _
    refine XS.aloadN X60.here hx rfl (hb hby own_d10_74) rfl rfl ?_
    show Steps p.tables e below (T60.setTop (mkF m 75 #[rv a, iv fl, rv b54, iv 0, iv 0, .unset, .unset, .unset, .unset] [(.ref a)])) _
    refine st64 _ ?_
    show Steps p.tables e below (T64.setTop (mkF m 78 #[rv a, iv fl, rv b54, iv 0, iv 0, .unset, .unset, .unset, .unset] [(.ref bo)])) _
    refine XS.iload X64.here hx rfl (hb hby own_d10_78) rfl ?_
    show Steps p.tables e below (T64.setTop (mkF m 80 #[rv a, iv fl, rv b54, iv 0, iv 0, .unset, .unset, .unset, .unset] [(.int 0), (.ref bo)])) _
    refine X64.aaload hx (j := (0 : Int32)) (v := (.ref o0)) (by rw [e64]; exact c66A.1) (State.isArrayOf_alike hZ.alike c66A.2.1) rfl c66A.2.2 c66in c66at (g := (mkF m 80 #[rv a, iv fl, rv b54, iv 0, iv 0, .unset, .unset, .unset, .unset] [(.int 0), (.ref bo)])) rfl rfl (hb hby own_d10_80) _ ?_
    show Steps p.tables e below (T64.setTop (mkF m 81 #[rv a, iv fl, rv b54, iv 0, iv 0, .unset, .unset, .unset, .unset] [(.ref o0)])) _
    refine XS.iloadN X64.here hx rfl (hb hby own_d10_81) rfl ?_
    show Steps p.tables e below (T64.setTop (mkF m 82 #[rv a, iv fl, rv b54, iv 0, iv 0, .unset, .unset, .unset, .unset] [(.int fl), (.ref o0)])) _
    refine st67 _ ?_
    show Steps p.tables e below (T67.setTop (mkF m 85 #[rv a, iv fl, rv b54, iv 0, iv 0, .unset, .unset, .unset, .unset] [(.int 0)])) _
    refine XS.ifNo X67.here hx rfl (hb hby own_d10_85) rfl ((if0 _ _).trans (teq (by decide)).2) ?_
    show Steps p.tables e below (T67.setTop (mkF m 88 #[rv a, iv fl, rv b54, iv 0, iv 0, .unset, .unset, .unset, .unset] [])) _
    refine XS.iinc X67.here hx rfl (hb hby own_d10_88) rfl (l' := #[rv a, iv fl, rv b54, .val (.int ((0 : Int32) + (1 : Int32))), iv 0, .unset, .unset, .unset, .unset]) rfl ?_
    show Steps p.tables e below (T67.setTop (mkF m 91 #[rv a, iv fl, rv b54, .val (.int ((0 : Int32) + (1 : Int32))), iv 0, .unset, .unset, .unset, .unset] [])) _
    refine castTop (congrArg (fun zz : Int32 => (mkF m 91 #[rv a, iv fl, rv b54, iv zz, iv 0, .unset, .unset, .unset, .unset] [])) (by decide : ((0 : Int32) + (1 : Int32)) = (1 : Int32))) ?_
    show Steps p.tables e below (T67.setTop (mkF m 91 #[rv a, iv fl, rv b54, iv 1, iv 0, .unset, .unset, .unset, .unset] [])) _
    refine XS.iinc X67.here hx rfl (hb hby own_d10_91) rfl (l' := #[rv a, iv fl, rv b54, iv 1, .val (.int ((0 : Int32) + (1 : Int32))), .unset, .unset, .unset, .unset]) rfl ?_
    show Steps p.tables e below (T67.setTop (mkF m 94 #[rv a, iv fl, rv b54, iv 1, .val (.int ((0 : Int32) + (1 : Int32))), .unset, .unset, .unset, .unset] [])) _
    refine castTop (congrArg (fun zz : Int32 => (mkF m 94 #[rv a, iv fl, rv b54, iv 1, iv zz, .unset, .unset, .unset, .unset] [])) (by decide : ((0 : Int32) + (1 : Int32)) = (1 : Int32))) ?_
    show Steps p.tables e below (T67.setTop (mkF m 94 #[rv a, iv fl, rv b54, iv 1, iv 1, .unset, .unset, .unset, .unset] [])) _
    refine XS.goto X67.here hx rfl (pc0 := 94) (pc' := 60) rfl (hb hby own_d10_94) (by decide) (by decide) ?_
    show Steps p.tables e below (T67.setTop (mkF m 60 #[rv a, iv fl, rv b54, iv 1, iv 1, .unset, .unset, .unset, .unset] [])) _
    refine XS.iload X67.here hx rfl (hb hby own_d10_60) rfl ?_
    show Steps p.tables e below (T67.setTop (mkF m 62 #[rv a, iv fl, rv b54, iv 1, iv 1, .unset, .unset, .unset, .unset] [(.int 1)])) _
    refine XS.aloadN X67.here hx rfl (hb hby own_d10_62) rfl rfl ?_
    show Steps p.tables e below (T67.setTop (mkF m 63 #[rv a, iv fl, rv b54, iv 1, iv 1, .unset, .unset, .unset, .unset] [(.ref a), (.int 1)])) _
    refine st69 _ ?_
    show Steps p.tables e below (T69.setTop (mkF m 66 #[rv a, iv fl, rv b54, iv 1, iv 1, .unset, .unset, .unset, .unset] [(.int 3), (.int 1)])) _
    refine XS.icmpNo X69.here hx rfl (hb hby own_d10_66) rfl (tlt (by decide)).2.1 ?_
    show Steps p.tables e below (T69.setTop (mkF m 69 #[rv a, iv fl, rv b54, iv 1, iv 1, .unset, .unset, .unset, .unset] [])) _
    refine XS.aloadN X69.here hx rfl (hb hby own_d10_69) rfl rfl ?_
    show Steps p.tables e below (T69.setTop (mkF m 70 #[rv a, iv fl, rv b54, iv 1, iv 1, .unset, .unset, .unset, .unset] [(.ref b54)])) _
    refine XS.iload X69.here hx rfl (hb hby own_d10_70) rfl ?_
    show Steps p.tables e below (T69.setTop (mkF m 72 #[rv a, iv fl, rv b54, iv 1, iv 1, .unset, .unset, .unset, .unset] [(.int 1), (.ref b54)])) _
    refine XS.iloadN X69.here hx rfl (hb hby own_d10_72) rfl ?_
    show Steps p.tables e below (T69.setTop (mkF m 73 #[rv a, iv fl, rv b54, iv 1, iv 1, .unset, .unset, .unset, .unset] [(.int 1), (.int 1), (.ref b54)])) _
    refine st71 _ ?_
    show Steps p.tables e below (T71.setTop (mkF m 74 #[rv a, iv fl, rv b54, iv 1, iv 1, .unset, .unset, .unset, .unset] [])) _
    refine XS.aloadN X71.here hx rfl (hb hby own_d10_74) rfl rfl ?_
    show Steps p.tables e below (T71.setTop (mkF m 75 #[rv a, iv fl, rv b54, iv 1, iv 1, .unset, .unset, .unset, .unset] [(.ref a)])) _
    refine st75 _ ?_
    show Steps p.tables e below (T75.setTop (mkF m 78 #[rv a, iv fl, rv b54, iv 1, iv 1, .unset, .unset, .unset, .unset] [(.ref bo)])) _
    refine XS.iload X75.here hx rfl (hb hby own_d10_78) rfl ?_
    show Steps p.tables e below (T75.setTop (mkF m 80 #[rv a, iv fl, rv b54, iv 1, iv 1, .unset, .unset, .unset, .unset] [(.int 1), (.ref bo)])) _
    refine X75.aaload hx (j := (1 : Int32)) (v := (.ref o1)) (by rw [e75]; exact c77A.1) (State.isArrayOf_alike hZ.alike c77A.2.1) rfl c77A.2.2 c77in c77at (g := (mkF m 80 #[rv a, iv fl, rv b54, iv 1, iv 1, .unset, .unset, .unset, .unset] [(.int 1), (.ref bo)])) rfl rfl (hb hby own_d10_80) _ ?_
    show Steps p.tables e below (T75.setTop (mkF m 81 #[rv a, iv fl, rv b54, iv 1, iv 1, .unset, .unset, .unset, .unset] [(.ref o1)])) _
    refine XS.iloadN X75.here hx rfl (hb hby own_d10_81) rfl ?_
    show Steps p.tables e below (T75.setTop (mkF m 82 #[rv a, iv fl, rv b54, iv 1, iv 1, .unset, .unset, .unset, .unset] [(.int fl), (.ref o1)])) _
    refine st78 _ ?_
    show Steps p.tables e below (T78.setTop (mkF m 85 #[rv a, iv fl, rv b54, iv 1, iv 1, .unset, .unset, .unset, .unset] [(.int 0)])) _
    refine XS.ifNo X78.here hx rfl (hb hby own_d10_85) rfl ((if0 _ _).trans (teq (by decide)).2) ?_
    show Steps p.tables e below (T78.setTop (mkF m 88 #[rv a, iv fl, rv b54, iv 1, iv 1, .unset, .unset, .unset, .unset] [])) _
    refine XS.iinc X78.here hx rfl (hb hby own_d10_88) rfl (l' := #[rv a, iv fl, rv b54, .val (.int ((1 : Int32) + (1 : Int32))), iv 1, .unset, .unset, .unset, .unset]) rfl ?_
    show Steps p.tables e below (T78.setTop (mkF m 91 #[rv a, iv fl, rv b54, .val (.int ((1 : Int32) + (1 : Int32))), iv 1, .unset, .unset, .unset, .unset] [])) _
    refine castTop (congrArg (fun zz : Int32 => (mkF m 91 #[rv a, iv fl, rv b54, iv zz, iv 1, .unset, .unset, .unset, .unset] [])) (by decide : ((1 : Int32) + (1 : Int32)) = (2 : Int32))) ?_
    show Steps p.tables e below (T78.setTop (mkF m 91 #[rv a, iv fl, rv b54, iv 2, iv 1, .unset, .unset, .unset, .unset] [])) _
    refine XS.iinc X78.here hx rfl (hb hby own_d10_91) rfl (l' := #[rv a, iv fl, rv b54, iv 2, .val (.int ((1 : Int32) + (1 : Int32))), .unset, .unset, .unset, .unset]) rfl ?_
    show Steps p.tables e below (T78.setTop (mkF m 94 #[rv a, iv fl, rv b54, iv 2, .val (.int ((1 : Int32) + (1 : Int32))), .unset, .unset, .unset, .unset] [])) _
    refine castTop (congrArg (fun zz : Int32 => (mkF m 94 #[rv a, iv fl, rv b54, iv 2, iv zz, .unset, .unset, .unset, .unset] [])) (by decide : ((1 : Int32) + (1 : Int32)) = (2 : Int32))) ?_
    show Steps p.tables e below (T78.setTop (mkF m 94 #[rv a, iv fl, rv b54, iv 2, iv 2, .unset, .unset, .unset, .unset] [])) _
    refine XS.goto X78.here hx rfl (pc0 := 94) (pc' := 60) rfl (hb hby own_d10_94) (by decide) (by decide) ?_
    show Steps p.tables e below (T78.setTop (mkF m 60 #[rv a, iv fl, rv b54, iv 2, iv 2, .unset, .unset, .unset, .unset] [])) _
    refine XS.iload X78.here hx rfl (hb hby own_d10_60) rfl ?_
    show Steps p.tables e below (T78.setTop (mkF m 62 #[rv a, iv fl, rv b54, iv 2, iv 2, .unset, .unset, .unset, .unset] [(.int 2)])) _
    refine XS.aloadN X78.here hx rfl (hb hby own_d10_62) rfl rfl ?_
    show Steps p.tables e below (T78.setTop (mkF m 63 #[rv a, iv fl, rv b54, iv 2, iv 2, .unset, .unset, .unset, .unset] [(.ref a), (.int 2)])) _
    refine st80 _ ?_
    show Steps p.tables e below (T80.setTop (mkF m 66 #[rv a, iv fl, rv b54, iv 2, iv 2, .unset, .unset, .unset, .unset] [(.int 3), (.int 2)])) _
    refine XS.icmpNo X80.here hx rfl (hb hby own_d10_66) rfl (tlt (by decide)).2.1 ?_
    show Steps p.tables e below (T80.setTop (mkF m 69 #[rv a, iv fl, rv b54, iv 2, iv 2, .unset, .unset, .unset, .unset] [])) _
    refine XS.aloadN X80.here hx rfl (hb hby own_d10_69) rfl rfl ?_
    show Steps p.tables e below (T80.setTop (mkF m 70 #[rv a, iv fl, rv b54, iv 2, iv 2, .unset, .unset, .unset, .unset] [(.ref b54)])) _
    refine XS.iload X80.here hx rfl (hb hby own_d10_70) rfl ?_
    show Steps p.tables e below (T80.setTop (mkF m 72 #[rv a, iv fl, rv b54, iv 2, iv 2, .unset, .unset, .unset, .unset] [(.int 2), (.ref b54)])) _
    refine XS.iloadN X80.here hx rfl (hb hby own_d10_72) rfl ?_
    show Steps p.tables e below (T80.setTop (mkF m 73 #[rv a, iv fl, rv b54, iv 2, iv 2, .unset, .unset, .unset, .unset] [(.int 2), (.int 2), (.ref b54)])) _
    refine st82 _ ?_
    show Steps p.tables e below (T82.setTop (mkF m 74 #[rv a, iv fl, rv b54, iv 2, iv 2, .unset, .unset, .unset, .unset] [])) _
    refine XS.aloadN X82.here hx rfl (hb hby own_d10_74) rfl rfl ?_
    show Steps p.tables e below (T82.setTop (mkF m 75 #[rv a, iv fl, rv b54, iv 2, iv 2, .unset, .unset, .unset, .unset] [(.ref a)])) _
    refine st86 _ ?_
    show Steps p.tables e below (T86.setTop (mkF m 78 #[rv a, iv fl, rv b54, iv 2, iv 2, .unset, .unset, .unset, .unset] [(.ref bo)])) _
    refine XS.iload X86.here hx rfl (hb hby own_d10_78) rfl ?_
    show Steps p.tables e below (T86.setTop (mkF m 80 #[rv a, iv fl, rv b54, iv 2, iv 2, .unset, .unset, .unset, .unset] [(.int 2), (.ref bo)])) _
    refine X86.aaload hx (j := (2 : Int32)) (v := (.ref w_MATCH)) (by rw [e86]; exact c88A.1) (State.isArrayOf_alike hZ.alike c88A.2.1) rfl c88A.2.2 c88in c88at (g := (mkF m 80 #[rv a, iv fl, rv b54, iv 2, iv 2, .unset, .unset, .unset, .unset] [(.int 2), (.ref bo)])) rfl rfl (hb hby own_d10_80) _ ?_
    show Steps p.tables e below (T86.setTop (mkF m 81 #[rv a, iv fl, rv b54, iv 2, iv 2, .unset, .unset, .unset, .unset] [(.ref w_MATCH)])) _
    refine XS.iloadN X86.here hx rfl (hb hby own_d10_81) rfl ?_
    show Steps p.tables e below (T86.setTop (mkF m 82 #[rv a, iv fl, rv b54, iv 2, iv 2, .unset, .unset, .unset, .unset] [(.int fl), (.ref w_MATCH)])) _
    refine st89 _ ?_
    show Steps p.tables e below (T89.setTop (mkF m 85 #[rv a, iv fl, rv b54, iv 2, iv 2, .unset, .unset, .unset, .unset] [(.int 0)])) _
    refine XS.ifNo X89.here hx rfl (hb hby own_d10_85) rfl ((if0 _ _).trans (teq (by decide)).2) ?_
    show Steps p.tables e below (T89.setTop (mkF m 88 #[rv a, iv fl, rv b54, iv 2, iv 2, .unset, .unset, .unset, .unset] [])) _
    refine XS.iinc X89.here hx rfl (hb hby own_d10_88) rfl (l' := #[rv a, iv fl, rv b54, .val (.int ((2 : Int32) + (1 : Int32))), iv 2, .unset, .unset, .unset, .unset]) rfl ?_
    show Steps p.tables e below (T89.setTop (mkF m 91 #[rv a, iv fl, rv b54, .val (.int ((2 : Int32) + (1 : Int32))), iv 2, .unset, .unset, .unset, .unset] [])) _
    refine castTop (congrArg (fun zz : Int32 => (mkF m 91 #[rv a, iv fl, rv b54, iv zz, iv 2, .unset, .unset, .unset, .unset] [])) (by decide : ((2 : Int32) + (1 : Int32)) = (3 : Int32))) ?_
    show Steps p.tables e below (T89.setTop (mkF m 91 #[rv a, iv fl, rv b54, iv 3, iv 2, .unset, .unset, .unset, .unset] [])) _
    refine XS.iinc X89.here hx rfl (hb hby own_d10_91) rfl (l' := #[rv a, iv fl, rv b54, iv 3, .val (.int ((2 : Int32) + (1 : Int32))), .unset, .unset, .unset, .unset]) rfl ?_
    show Steps p.tables e below (T89.setTop (mkF m 94 #[rv a, iv fl, rv b54, iv 3, .val (.int ((2 : Int32) + (1 : Int32))), .unset, .unset, .unset, .unset] [])) _
    refine castTop (congrArg (fun zz : Int32 => (mkF m 94 #[rv a, iv fl, rv b54, iv 3, iv zz, .unset, .unset, .unset, .unset] [])) (by decide : ((2 : Int32) + (1 : Int32)) = (3 : Int32))) ?_
    show Steps p.tables e below (T89.setTop (mkF m 94 #[rv a, iv fl, rv b54, iv 3, iv 3, .unset, .unset, .unset, .unset] [])) _
    refine XS.goto X89.here hx rfl (pc0 := 94) (pc' := 60) rfl (hb hby own_d10_94) (by decide) (by decide) ?_
    show Steps p.tables e below (T89.setTop (mkF m 60 #[rv a, iv fl, rv b54, iv 3, iv 3, .unset, .unset, .unset, .unset] [])) _
    refine XS.iload X89.here hx rfl (hb hby own_d10_60) rfl ?_
    show Steps p.tables e below (T89.setTop (mkF m 62 #[rv a, iv fl, rv b54, iv 3, iv 3, .unset, .unset, .unset, .unset] [(.int 3)])) _
    refine XS.aloadN X89.here hx rfl (hb hby own_d10_62) rfl rfl ?_
    show Steps p.tables e below (T89.setTop (mkF m 63 #[rv a, iv fl, rv b54, iv 3, iv 3, .unset, .unset, .unset, .unset] [(.ref a), (.int 3)])) _
    refine st91 _ ?_
    show Steps p.tables e below (T91.setTop (mkF m 66 #[rv a, iv fl, rv b54, iv 3, iv 3, .unset, .unset, .unset, .unset] [(.int 3), (.int 3)])) _
    refine XS.icmpYes X91.here hx rfl (pc0 := 66) (pc' := 97) rfl (hb hby own_d10_66) rfl (flt (by decide)).2.1 (by decide) (by decide) ?_
    show Steps p.tables e below (T91.setTop (mkF m 97 #[rv a, iv fl, rv b54, iv 3, iv 3, .unset, .unset, .unset, .unset] [])) _
    refine XS.iloadN X91.here hx rfl (hb hby own_d10_97) rfl ?_
    show Steps p.tables e below (T91.setTop (mkF m 98 #[rv a, iv fl, rv b54, iv 3, iv 3, .unset, .unset, .unset, .unset] [(.int 3)])) _
    refine st96 _ ?_
    show Steps p.tables e below (T96.setTop (mkF m 101 #[rv a, iv fl, rv b54, iv 3, iv 3, .unset, .unset, .unset, .unset] [(.ref b96)])) _
    refine XS.astore X96.here hx rfl (hb hby own_d10_101) rfl rfl (l' := #[rv a, iv fl, rv b54, iv 3, rv b96, .unset, .unset, .unset, .unset]) rfl ?_
    show Steps p.tables e below (T96.setTop (mkF m 103 #[rv a, iv fl, rv b54, iv 3, rv b96, .unset, .unset, .unset, .unset] [])) _
    refine XS.iloadN X96.here hx rfl (hb hby own_d10_103) rfl ?_
    show Steps p.tables e below (T96.setTop (mkF m 104 #[rv a, iv fl, rv b54, iv 3, rv b96, .unset, .unset, .unset, .unset] [(.int 3)])) _
    refine st105 _ ?_
    show Steps p.tables e below (T105.setTop (mkF m 106 #[rv a, iv fl, rv b54, iv 3, rv b96, .unset, .unset, .unset, .unset] [(.ref b105)])) _
    refine XS.astore X105.here hx rfl (hb hby own_d10_106) rfl rfl (l' := #[rv a, iv fl, rv b54, iv 3, rv b96, rv b105, .unset, .unset, .unset]) rfl ?_
    show Steps p.tables e below (T105.setTop (mkF m 108 #[rv a, iv fl, rv b54, iv 3, rv b96, rv b105, .unset, .unset, .unset] [])) _
    refine XS.iloadN X105.here hx rfl (hb hby own_d10_108) rfl ?_
    show Steps p.tables e below (T105.setTop (mkF m 109 #[rv a, iv fl, rv b54, iv 3, rv b96, rv b105, .unset, .unset, .unset] [(.int 3)])) _
    refine st115 _ ?_
    show Steps p.tables e below (T115.setTop (mkF m 111 #[rv a, iv fl, rv b54, iv 3, rv b96, rv b105, .unset, .unset, .unset] [(.ref b115)])) _
    refine XS.astore X115.here hx rfl (hb hby own_d10_111) rfl rfl (l' := #[rv a, iv fl, rv b54, iv 3, rv b96, rv b105, rv b115, .unset, .unset]) rfl ?_
    show Steps p.tables e below (T115.setTop (mkF m 113 #[rv a, iv fl, rv b54, iv 3, rv b96, rv b105, rv b115, .unset, .unset] [])) _
    refine XS.iconst X115.here hx rfl (hb hby own_d10_113) ?_
    show Steps p.tables e below (T115.setTop (mkF m 114 #[rv a, iv fl, rv b54, iv 3, rv b96, rv b105, rv b115, .unset, .unset] [(.int 0)])) _
    refine XS.istore X115.here hx rfl (hb hby own_d10_114) rfl (l' := #[rv a, iv fl, rv b54, iv 3, rv b96, rv b105, rv b115, iv 0, .unset]) rfl ?_
    show Steps p.tables e below (T115.setTop (mkF m 116 #[rv a, iv fl, rv b54, iv 3, rv b96, rv b105, rv b115, iv 0, .unset] [])) _
    refine XS.iload X115.here hx rfl (hb hby own_d10_116) rfl ?_
    show Steps p.tables e below (T115.setTop (mkF m 118 #[rv a, iv fl, rv b54, iv 3, rv b96, rv b105, rv b115, iv 0, .unset] [(.int 0)])) _
    refine XS.aloadN X115.here hx rfl (hb hby own_d10_118) rfl rfl ?_
    show Steps p.tables e below (T115.setTop (mkF m 119 #[rv a, iv fl, rv b54, iv 3, rv b96, rv b105, rv b115, iv 0, .unset] [(.ref a), (.int 0)])) _
    refine st119 _ ?_
    show Steps p.tables e below (T119.setTop (mkF m 122 #[rv a, iv fl, rv b54, iv 3, rv b96, rv b105, rv b115, iv 0, .unset] [(.int 3), (.int 0)])) _
    refine XS.icmpNo X119.here hx rfl (hb hby own_d10_122) rfl (tlt (by decide)).2.1 ?_
    show Steps p.tables e below (T119.setTop (mkF m 125 #[rv a, iv fl, rv b54, iv 3, rv b96, rv b105, rv b115, iv 0, .unset] [])) _
    refine XS.aloadN X119.here hx rfl (hb hby own_d10_125) rfl rfl ?_
    show Steps p.tables e below (T119.setTop (mkF m 126 #[rv a, iv fl, rv b54, iv 3, rv b96, rv b105, rv b115, iv 0, .unset] [(.ref a)])) _
    refine st121 _ ?_
    show Steps p.tables e below (T121.setTop (mkF m 129 #[rv a, iv fl, rv b54, iv 3, rv b96, rv b105, rv b115, iv 0, .unset] [(.ref bo)])) _
    refine XS.iload X121.here hx rfl (hb hby own_d10_129) rfl ?_
    show Steps p.tables e below (T121.setTop (mkF m 131 #[rv a, iv fl, rv b54, iv 3, rv b96, rv b105, rv b115, iv 0, .unset] [(.int 0), (.ref bo)])) _
    refine X121.aaload hx (j := (0 : Int32)) (v := (.ref o0)) (by rw [e121]; exact c123A.1) (State.isArrayOf_alike hZ.alike c123A.2.1) rfl c123A.2.2 c123in c123at (g := (mkF m 131 #[rv a, iv fl, rv b54, iv 3, rv b96, rv b105, rv b115, iv 0, .unset] [(.int 0), (.ref bo)])) rfl rfl (hb hby own_d10_131) _ ?_
    show Steps p.tables e below (T121.setTop (mkF m 132 #[rv a, iv fl, rv b54, iv 3, rv b96, rv b105, rv b115, iv 0, .unset] [(.ref o0)])) _
    refine XS.iloadN X121.here hx rfl (hb hby own_d10_132) rfl ?_
    show Steps p.tables e below (T121.setTop (mkF m 133 #[rv a, iv fl, rv b54, iv 3, rv b96, rv b105, rv b115, iv 0, .unset] [(.int fl), (.ref o0)])) _
    refine st124 _ ?_
    show Steps p.tables e below (T124.setTop (mkF m 136 #[rv a, iv fl, rv b54, iv 3, rv b96, rv b105, rv b115, iv 0, .unset] [(.int 0)])) _
    refine XS.ifNo X124.here hx rfl (hb hby own_d10_136) rfl ((if0 _ _).trans (teq (by decide)).2) ?_
    show Steps p.tables e below (T124.setTop (mkF m 139 #[rv a, iv fl, rv b54, iv 3, rv b96, rv b105, rv b115, iv 0, .unset] [])) _
    refine XS.aloadN X124.here hx rfl (hb hby own_d10_139) rfl rfl ?_
    show Steps p.tables e below (T124.setTop (mkF m 140 #[rv a, iv fl, rv b54, iv 3, rv b96, rv b105, rv b115, iv 0, .unset] [(.ref b54)])) _
    refine XS.iload X124.here hx rfl (hb hby own_d10_140) rfl ?_
    show Steps p.tables e below (T124.setTop (mkF m 142 #[rv a, iv fl, rv b54, iv 3, rv b96, rv b105, rv b115, iv 0, .unset] [(.int 0), (.ref b54)])) _
    refine X124.iaload hx (j := (0 : Int32)) (v := (.int 0)) (by rw [e124]; exact c126A.1) (State.isArrayOf_alike hZ.alike c126A.2.1) c126A.2.2 c126in c126at (g := (mkF m 142 #[rv a, iv fl, rv b54, iv 3, rv b96, rv b105, rv b115, iv 0, .unset] [(.int 0), (.ref b54)])) rfl rfl (hb hby own_d10_142) _ ?_
    show Steps p.tables e below (T124.setTop (mkF m 143 #[rv a, iv fl, rv b54, iv 3, rv b96, rv b105, rv b115, iv 0, .unset] [(.int 0)])) _
    refine XS.istore X124.here hx rfl (hb hby own_d10_143) rfl (l' := #[rv a, iv fl, rv b54, iv 3, rv b96, rv b105, rv b115, iv 0, iv 0]) rfl ?_
    show Steps p.tables e below (T124.setTop (mkF m 145 #[rv a, iv fl, rv b54, iv 3, rv b96, rv b105, rv b115, iv 0, iv 0] [])) _
    refine XS.aload X124.here hx rfl (hb hby own_d10_145) rfl rfl ?_
    show Steps p.tables e below (T124.setTop (mkF m 147 #[rv a, iv fl, rv b54, iv 3, rv b96, rv b105, rv b115, iv 0, iv 0] [(.ref b96)])) _
    refine XS.iload X124.here hx rfl (hb hby own_d10_147) rfl ?_
    show Steps p.tables e below (T124.setTop (mkF m 149 #[rv a, iv fl, rv b54, iv 3, rv b96, rv b105, rv b115, iv 0, iv 0] [(.int 0), (.ref b96)])) _
    refine XS.aloadN X124.here hx rfl (hb hby own_d10_149) rfl rfl ?_
    show Steps p.tables e below (T124.setTop (mkF m 150 #[rv a, iv fl, rv b54, iv 3, rv b96, rv b105, rv b115, iv 0, iv 0] [(.ref a), (.int 0), (.ref b96)])) _
    refine st127 _ ?_
    show Steps p.tables e below (T127.setTop (mkF m 153 #[rv a, iv fl, rv b54, iv 3, rv b96, rv b105, rv b115, iv 0, iv 0] [(.ref bo), (.int 0), (.ref b96)])) _
    refine XS.iload X127.here hx rfl (hb hby own_d10_153) rfl ?_
    show Steps p.tables e below (T127.setTop (mkF m 155 #[rv a, iv fl, rv b54, iv 3, rv b96, rv b105, rv b115, iv 0, iv 0] [(.int 0), (.ref bo), (.int 0), (.ref b96)])) _
    refine X127.aaload hx (j := (0 : Int32)) (v := (.ref o0)) (by rw [e127]; exact c128A.1) (State.isArrayOf_alike hZ.alike c128A.2.1) rfl c128A.2.2 c128in c128at (g := (mkF m 155 #[rv a, iv fl, rv b54, iv 3, rv b96, rv b105, rv b115, iv 0, iv 0] [(.int 0), (.ref bo), (.int 0), (.ref b96)])) rfl rfl (hb hby own_d10_155) _ ?_
    show Steps p.tables e below (T127.setTop (mkF m 156 #[rv a, iv fl, rv b54, iv 3, rv b96, rv b105, rv b115, iv 0, iv 0] [(.ref o0), (.int 0), (.ref b96)])) _
    refine st131 _ ?_
    show Steps p.tables e below (T131.setTop (mkF m 157 #[rv a, iv fl, rv b54, iv 3, rv b96, rv b105, rv b115, iv 0, iv 0] [])) _
    refine XS.aload X131.here hx rfl (hb hby own_d10_157) rfl rfl ?_
    show Steps p.tables e below (T131.setTop (mkF m 159 #[rv a, iv fl, rv b54, iv 3, rv b96, rv b105, rv b115, iv 0, iv 0] [(.ref b105)])) _
    refine XS.iload X131.here hx rfl (hb hby own_d10_159) rfl ?_
    show Steps p.tables e below (T131.setTop (mkF m 161 #[rv a, iv fl, rv b54, iv 3, rv b96, rv b105, rv b115, iv 0, iv 0] [(.int 0), (.ref b105)])) _
    refine XS.aloadN X131.here hx rfl (hb hby own_d10_161) rfl rfl ?_
    show Steps p.tables e below (T131.setTop (mkF m 162 #[rv a, iv fl, rv b54, iv 3, rv b96, rv b105, rv b115, iv 0, iv 0] [(.ref a), (.int 0), (.ref b105)])) _
    refine st135 _ ?_
    show Steps p.tables e below (T135.setTop (mkF m 165 #[rv a, iv fl, rv b54, iv 3, rv b96, rv b105, rv b115, iv 0, iv 0] [(.ref bo), (.int 0), (.ref b105)])) _
    refine XS.iload X135.here hx rfl (hb hby own_d10_165) rfl ?_
    show Steps p.tables e below (T135.setTop (mkF m 167 #[rv a, iv fl, rv b54, iv 3, rv b96, rv b105, rv b115, iv 0, iv 0] [(.int 0), (.ref bo), (.int 0), (.ref b105)])) _
    refine X135.aaload hx (j := (0 : Int32)) (v := (.ref o0)) (by rw [e135]; exact c137A.1) (State.isArrayOf_alike hZ.alike c137A.2.1) rfl c137A.2.2 c137in c137at (g := (mkF m 167 #[rv a, iv fl, rv b54, iv 3, rv b96, rv b105, rv b115, iv 0, iv 0] [(.int 0), (.ref bo), (.int 0), (.ref b105)])) rfl rfl (hb hby own_d10_167) _ ?_
    show Steps p.tables e below (T135.setTop (mkF m 168 #[rv a, iv fl, rv b54, iv 3, rv b96, rv b105, rv b115, iv 0, iv 0] [(.ref o0), (.int 0), (.ref b105)])) _
    refine st138 _ ?_
    show Steps p.tables e below (T138.setTop (mkF m 193 #[rv a, iv fl, rv b54, iv 3, rv b96, rv b105, rv b115, iv 0, iv 0] [(.int f0), (.int 0), (.ref b105)])) _
    refine st156 _ ?_
    show Steps p.tables e below (T156.setTop (mkF m 194 #[rv a, iv fl, rv b54, iv 3, rv b96, rv b105, rv b115, iv 0, iv 0] [])) _
    refine XS.aload X156.here hx rfl (hb hby own_d10_194) rfl rfl ?_
    show Steps p.tables e below (T156.setTop (mkF m 196 #[rv a, iv fl, rv b54, iv 3, rv b96, rv b105, rv b115, iv 0, iv 0] [(.ref b115)])) _
    refine XS.iload X156.here hx rfl (hb hby own_d10_196) rfl ?_
    show Steps p.tables e below (T156.setTop (mkF m 198 #[rv a, iv fl, rv b54, iv 3, rv b96, rv b105, rv b115, iv 0, iv 0] [(.int 0), (.ref b115)])) _
    refine XS.aloadN X156.here hx rfl (hb hby own_d10_198) rfl rfl ?_
    show Steps p.tables e below (T156.setTop (mkF m 199 #[rv a, iv fl, rv b54, iv 3, rv b96, rv b105, rv b115, iv 0, iv 0] [(.ref a), (.int 0), (.ref b115)])) _
    refine st160 _ ?_
    show Steps p.tables e below (T160.setTop (mkF m 202 #[rv a, iv fl, rv b54, iv 3, rv b96, rv b105, rv b115, iv 0, iv 0] [(.ref bo), (.int 0), (.ref b115)])) _
    refine XS.iload X160.here hx rfl (hb hby own_d10_202) rfl ?_
    show Steps p.tables e below (T160.setTop (mkF m 204 #[rv a, iv fl, rv b54, iv 3, rv b96, rv b105, rv b115, iv 0, iv 0] [(.int 0), (.ref bo), (.int 0), (.ref b115)])) _
    refine X160.aaload hx (j := (0 : Int32)) (v := (.ref o0)) (by rw [e160]; exact c162A.1) (State.isArrayOf_alike hZ.alike c162A.2.1) rfl c162A.2.2 c162in c162at (g := (mkF m 204 #[rv a, iv fl, rv b54, iv 3, rv b96, rv b105, rv b115, iv 0, iv 0] [(.int 0), (.ref bo), (.int 0), (.ref b115)])) rfl rfl (hb hby own_d10_204) _ ?_
    show Steps p.tables e below (T160.setTop (mkF m 205 #[rv a, iv fl, rv b54, iv 3, rv b96, rv b105, rv b115, iv 0, iv 0] [(.ref o0), (.int 0), (.ref b115)])) _
    refine st163 _ ?_
    show Steps p.tables e below (T163.setTop (mkF m 230 #[rv a, iv fl, rv b54, iv 3, rv b96, rv b105, rv b115, iv 0, iv 0] [(.int s0), (.int 0), (.ref b115)])) _
    refine st182 _ ?_
    show Steps p.tables e below (T182.setTop (mkF m 231 #[rv a, iv fl, rv b54, iv 3, rv b96, rv b105, rv b115, iv 0, iv 0] [])) _
    refine XS.iinc X182.here hx rfl (hb hby own_d10_231) rfl (l' := #[rv a, iv fl, rv b54, iv 3, rv b96, rv b105, rv b115, .val (.int ((0 : Int32) + (1 : Int32))), iv 0]) rfl ?_
    show Steps p.tables e below (T182.setTop (mkF m 234 #[rv a, iv fl, rv b54, iv 3, rv b96, rv b105, rv b115, .val (.int ((0 : Int32) + (1 : Int32))), iv 0] [])) _
    refine castTop (congrArg (fun zz : Int32 => (mkF m 234 #[rv a, iv fl, rv b54, iv 3, rv b96, rv b105, rv b115, iv zz, iv 0] [])) (by decide : ((0 : Int32) + (1 : Int32)) = (1 : Int32))) ?_
    show Steps p.tables e below (T182.setTop (mkF m 234 #[rv a, iv fl, rv b54, iv 3, rv b96, rv b105, rv b115, iv 1, iv 0] [])) _
    refine XS.goto X182.here hx rfl (pc0 := 234) (pc' := 116) rfl (hb hby own_d10_234) (by decide) (by decide) ?_
    show Steps p.tables e below (T182.setTop (mkF m 116 #[rv a, iv fl, rv b54, iv 3, rv b96, rv b105, rv b115, iv 1, iv 0] [])) _
    refine XS.iload X182.here hx rfl (hb hby own_d10_116) rfl ?_
    show Steps p.tables e below (T182.setTop (mkF m 118 #[rv a, iv fl, rv b54, iv 3, rv b96, rv b105, rv b115, iv 1, iv 0] [(.int 1)])) _
    refine XS.aloadN X182.here hx rfl (hb hby own_d10_118) rfl rfl ?_
    show Steps p.tables e below (T182.setTop (mkF m 119 #[rv a, iv fl, rv b54, iv 3, rv b96, rv b105, rv b115, iv 1, iv 0] [(.ref a), (.int 1)])) _
    refine st186 _ ?_
    show Steps p.tables e below (T186.setTop (mkF m 122 #[rv a, iv fl, rv b54, iv 3, rv b96, rv b105, rv b115, iv 1, iv 0] [(.int 3), (.int 1)])) _
    refine XS.icmpNo X186.here hx rfl (hb hby own_d10_122) rfl (tlt (by decide)).2.1 ?_
    show Steps p.tables e below (T186.setTop (mkF m 125 #[rv a, iv fl, rv b54, iv 3, rv b96, rv b105, rv b115, iv 1, iv 0] [])) _
    refine XS.aloadN X186.here hx rfl (hb hby own_d10_125) rfl rfl ?_
    show Steps p.tables e below (T186.setTop (mkF m 126 #[rv a, iv fl, rv b54, iv 3, rv b96, rv b105, rv b115, iv 1, iv 0] [(.ref a)])) _
    refine st188 _ ?_
    show Steps p.tables e below (T188.setTop (mkF m 129 #[rv a, iv fl, rv b54, iv 3, rv b96, rv b105, rv b115, iv 1, iv 0] [(.ref bo)])) _
    refine XS.iload X188.here hx rfl (hb hby own_d10_129) rfl ?_
    show Steps p.tables e below (T188.setTop (mkF m 131 #[rv a, iv fl, rv b54, iv 3, rv b96, rv b105, rv b115, iv 1, iv 0] [(.int 1), (.ref bo)])) _
    refine X188.aaload hx (j := (1 : Int32)) (v := (.ref o1)) (by rw [e188]; exact c190A.1) (State.isArrayOf_alike hZ.alike c190A.2.1) rfl c190A.2.2 c190in c190at (g := (mkF m 131 #[rv a, iv fl, rv b54, iv 3, rv b96, rv b105, rv b115, iv 1, iv 0] [(.int 1), (.ref bo)])) rfl rfl (hb hby own_d10_131) _ ?_
    show Steps p.tables e below (T188.setTop (mkF m 132 #[rv a, iv fl, rv b54, iv 3, rv b96, rv b105, rv b115, iv 1, iv 0] [(.ref o1)])) _
    refine XS.iloadN X188.here hx rfl (hb hby own_d10_132) rfl ?_
    show Steps p.tables e below (T188.setTop (mkF m 133 #[rv a, iv fl, rv b54, iv 3, rv b96, rv b105, rv b115, iv 1, iv 0] [(.int fl), (.ref o1)])) _
    refine st191 _ ?_
    show Steps p.tables e below (T191.setTop (mkF m 136 #[rv a, iv fl, rv b54, iv 3, rv b96, rv b105, rv b115, iv 1, iv 0] [(.int 0)])) _
    refine XS.ifNo X191.here hx rfl (hb hby own_d10_136) rfl ((if0 _ _).trans (teq (by decide)).2) ?_
    show Steps p.tables e below (T191.setTop (mkF m 139 #[rv a, iv fl, rv b54, iv 3, rv b96, rv b105, rv b115, iv 1, iv 0] [])) _
    refine XS.aloadN X191.here hx rfl (hb hby own_d10_139) rfl rfl ?_
    show Steps p.tables e below (T191.setTop (mkF m 140 #[rv a, iv fl, rv b54, iv 3, rv b96, rv b105, rv b115, iv 1, iv 0] [(.ref b54)])) _
    refine XS.iload X191.here hx rfl (hb hby own_d10_140) rfl ?_
    show Steps p.tables e below (T191.setTop (mkF m 142 #[rv a, iv fl, rv b54, iv 3, rv b96, rv b105, rv b115, iv 1, iv 0] [(.int 1), (.ref b54)])) _
    refine X191.iaload hx (j := (1 : Int32)) (v := (.int 1)) (by rw [e191]; exact c193A.1) (State.isArrayOf_alike hZ.alike c193A.2.1) c193A.2.2 c193in c193at (g := (mkF m 142 #[rv a, iv fl, rv b54, iv 3, rv b96, rv b105, rv b115, iv 1, iv 0] [(.int 1), (.ref b54)])) rfl rfl (hb hby own_d10_142) _ ?_
    show Steps p.tables e below (T191.setTop (mkF m 143 #[rv a, iv fl, rv b54, iv 3, rv b96, rv b105, rv b115, iv 1, iv 0] [(.int 1)])) _
    refine XS.istore X191.here hx rfl (hb hby own_d10_143) rfl (l' := #[rv a, iv fl, rv b54, iv 3, rv b96, rv b105, rv b115, iv 1, iv 1]) rfl ?_
    show Steps p.tables e below (T191.setTop (mkF m 145 #[rv a, iv fl, rv b54, iv 3, rv b96, rv b105, rv b115, iv 1, iv 1] [])) _
    refine XS.aload X191.here hx rfl (hb hby own_d10_145) rfl rfl ?_
    show Steps p.tables e below (T191.setTop (mkF m 147 #[rv a, iv fl, rv b54, iv 3, rv b96, rv b105, rv b115, iv 1, iv 1] [(.ref b96)])) _
    refine XS.iload X191.here hx rfl (hb hby own_d10_147) rfl ?_
    show Steps p.tables e below (T191.setTop (mkF m 149 #[rv a, iv fl, rv b54, iv 3, rv b96, rv b105, rv b115, iv 1, iv 1] [(.int 1), (.ref b96)])) _
    refine XS.aloadN X191.here hx rfl (hb hby own_d10_149) rfl rfl ?_
    show Steps p.tables e below (T191.setTop (mkF m 150 #[rv a, iv fl, rv b54, iv 3, rv b96, rv b105, rv b115, iv 1, iv 1] [(.ref a), (.int 1), (.ref b96)])) _
    refine st194 _ ?_
    show Steps p.tables e below (T194.setTop (mkF m 153 #[rv a, iv fl, rv b54, iv 3, rv b96, rv b105, rv b115, iv 1, iv 1] [(.ref bo), (.int 1), (.ref b96)])) _
    refine XS.iload X194.here hx rfl (hb hby own_d10_153) rfl ?_
    show Steps p.tables e below (T194.setTop (mkF m 155 #[rv a, iv fl, rv b54, iv 3, rv b96, rv b105, rv b115, iv 1, iv 1] [(.int 1), (.ref bo), (.int 1), (.ref b96)])) _
    refine X194.aaload hx (j := (1 : Int32)) (v := (.ref o1)) (by rw [e194]; exact c195A.1) (State.isArrayOf_alike hZ.alike c195A.2.1) rfl c195A.2.2 c195in c195at (g := (mkF m 155 #[rv a, iv fl, rv b54, iv 3, rv b96, rv b105, rv b115, iv 1, iv 1] [(.int 1), (.ref bo), (.int 1), (.ref b96)])) rfl rfl (hb hby own_d10_155) _ ?_
    show Steps p.tables e below (T194.setTop (mkF m 156 #[rv a, iv fl, rv b54, iv 3, rv b96, rv b105, rv b115, iv 1, iv 1] [(.ref o1), (.int 1), (.ref b96)])) _
    refine st198 _ ?_
    show Steps p.tables e below (T198.setTop (mkF m 157 #[rv a, iv fl, rv b54, iv 3, rv b96, rv b105, rv b115, iv 1, iv 1] [])) _
    refine XS.aload X198.here hx rfl (hb hby own_d10_157) rfl rfl ?_
    show Steps p.tables e below (T198.setTop (mkF m 159 #[rv a, iv fl, rv b54, iv 3, rv b96, rv b105, rv b115, iv 1, iv 1] [(.ref b105)])) _
    refine XS.iload X198.here hx rfl (hb hby own_d10_159) rfl ?_
    show Steps p.tables e below (T198.setTop (mkF m 161 #[rv a, iv fl, rv b54, iv 3, rv b96, rv b105, rv b115, iv 1, iv 1] [(.int 1), (.ref b105)])) _
    refine XS.aloadN X198.here hx rfl (hb hby own_d10_161) rfl rfl ?_
    show Steps p.tables e below (T198.setTop (mkF m 162 #[rv a, iv fl, rv b54, iv 3, rv b96, rv b105, rv b115, iv 1, iv 1] [(.ref a), (.int 1), (.ref b105)])) _
    refine st202 _ ?_
    show Steps p.tables e below (T202.setTop (mkF m 165 #[rv a, iv fl, rv b54, iv 3, rv b96, rv b105, rv b115, iv 1, iv 1] [(.ref bo), (.int 1), (.ref b105)])) _
    refine XS.iload X202.here hx rfl (hb hby own_d10_165) rfl ?_
    show Steps p.tables e below (T202.setTop (mkF m 167 #[rv a, iv fl, rv b54, iv 3, rv b96, rv b105, rv b115, iv 1, iv 1] [(.int 1), (.ref bo), (.int 1), (.ref b105)])) _
    refine X202.aaload hx (j := (1 : Int32)) (v := (.ref o1)) (by rw [e202]; exact c204A.1) (State.isArrayOf_alike hZ.alike c204A.2.1) rfl c204A.2.2 c204in c204at (g := (mkF m 167 #[rv a, iv fl, rv b54, iv 3, rv b96, rv b105, rv b115, iv 1, iv 1] [(.int 1), (.ref bo), (.int 1), (.ref b105)])) rfl rfl (hb hby own_d10_167) _ ?_
    show Steps p.tables e below (T202.setTop (mkF m 168 #[rv a, iv fl, rv b54, iv 3, rv b96, rv b105, rv b115, iv 1, iv 1] [(.ref o1), (.int 1), (.ref b105)])) _
    refine st205 _ ?_
    show Steps p.tables e below (T205.setTop (mkF m 193 #[rv a, iv fl, rv b54, iv 3, rv b96, rv b105, rv b115, iv 1, iv 1] [(.int f1), (.int 1), (.ref b105)])) _
    refine st223 _ ?_
    show Steps p.tables e below (T223.setTop (mkF m 194 #[rv a, iv fl, rv b54, iv 3, rv b96, rv b105, rv b115, iv 1, iv 1] [])) _
    refine XS.aload X223.here hx rfl (hb hby own_d10_194) rfl rfl ?_
    show Steps p.tables e below (T223.setTop (mkF m 196 #[rv a, iv fl, rv b54, iv 3, rv b96, rv b105, rv b115, iv 1, iv 1] [(.ref b115)])) _
    refine XS.iload X223.here hx rfl (hb hby own_d10_196) rfl ?_
    show Steps p.tables e below (T223.setTop (mkF m 198 #[rv a, iv fl, rv b54, iv 3, rv b96, rv b105, rv b115, iv 1, iv 1] [(.int 1), (.ref b115)])) _
    refine XS.aloadN X223.here hx rfl (hb hby own_d10_198) rfl rfl ?_
    show Steps p.tables e below (T223.setTop (mkF m 199 #[rv a, iv fl, rv b54, iv 3, rv b96, rv b105, rv b115, iv 1, iv 1] [(.ref a), (.int 1), (.ref b115)])) _
    refine st227 _ ?_
    show Steps p.tables e below (T227.setTop (mkF m 202 #[rv a, iv fl, rv b54, iv 3, rv b96, rv b105, rv b115, iv 1, iv 1] [(.ref bo), (.int 1), (.ref b115)])) _
    refine XS.iload X227.here hx rfl (hb hby own_d10_202) rfl ?_
    show Steps p.tables e below (T227.setTop (mkF m 204 #[rv a, iv fl, rv b54, iv 3, rv b96, rv b105, rv b115, iv 1, iv 1] [(.int 1), (.ref bo), (.int 1), (.ref b115)])) _
    refine X227.aaload hx (j := (1 : Int32)) (v := (.ref o1)) (by rw [e227]; exact c229A.1) (State.isArrayOf_alike hZ.alike c229A.2.1) rfl c229A.2.2 c229in c229at (g := (mkF m 204 #[rv a, iv fl, rv b54, iv 3, rv b96, rv b105, rv b115, iv 1, iv 1] [(.int 1), (.ref bo), (.int 1), (.ref b115)])) rfl rfl (hb hby own_d10_204) _ ?_
    show Steps p.tables e below (T227.setTop (mkF m 205 #[rv a, iv fl, rv b54, iv 3, rv b96, rv b105, rv b115, iv 1, iv 1] [(.ref o1), (.int 1), (.ref b115)])) _
    refine st230 _ ?_
    show Steps p.tables e below (T230.setTop (mkF m 230 #[rv a, iv fl, rv b54, iv 3, rv b96, rv b105, rv b115, iv 1, iv 1] [(.int s1), (.int 1), (.ref b115)])) _
    refine st249 _ ?_
    show Steps p.tables e below (T249.setTop (mkF m 231 #[rv a, iv fl, rv b54, iv 3, rv b96, rv b105, rv b115, iv 1, iv 1] [])) _
    refine XS.iinc X249.here hx rfl (hb hby own_d10_231) rfl (l' := #[rv a, iv fl, rv b54, iv 3, rv b96, rv b105, rv b115, .val (.int ((1 : Int32) + (1 : Int32))), iv 1]) rfl ?_
    show Steps p.tables e below (T249.setTop (mkF m 234 #[rv a, iv fl, rv b54, iv 3, rv b96, rv b105, rv b115, .val (.int ((1 : Int32) + (1 : Int32))), iv 1] [])) _
    refine castTop (congrArg (fun zz : Int32 => (mkF m 234 #[rv a, iv fl, rv b54, iv 3, rv b96, rv b105, rv b115, iv zz, iv 1] [])) (by decide : ((1 : Int32) + (1 : Int32)) = (2 : Int32))) ?_
    show Steps p.tables e below (T249.setTop (mkF m 234 #[rv a, iv fl, rv b54, iv 3, rv b96, rv b105, rv b115, iv 2, iv 1] [])) _
    refine XS.goto X249.here hx rfl (pc0 := 234) (pc' := 116) rfl (hb hby own_d10_234) (by decide) (by decide) ?_
    show Steps p.tables e below (T249.setTop (mkF m 116 #[rv a, iv fl, rv b54, iv 3, rv b96, rv b105, rv b115, iv 2, iv 1] [])) _
    refine XS.iload X249.here hx rfl (hb hby own_d10_116) rfl ?_
    show Steps p.tables e below (T249.setTop (mkF m 118 #[rv a, iv fl, rv b54, iv 3, rv b96, rv b105, rv b115, iv 2, iv 1] [(.int 2)])) _
    refine XS.aloadN X249.here hx rfl (hb hby own_d10_118) rfl rfl ?_
    show Steps p.tables e below (T249.setTop (mkF m 119 #[rv a, iv fl, rv b54, iv 3, rv b96, rv b105, rv b115, iv 2, iv 1] [(.ref a), (.int 2)])) _
    refine st253 _ ?_
    show Steps p.tables e below (T253.setTop (mkF m 122 #[rv a, iv fl, rv b54, iv 3, rv b96, rv b105, rv b115, iv 2, iv 1] [(.int 3), (.int 2)])) _
    refine XS.icmpNo X253.here hx rfl (hb hby own_d10_122) rfl (tlt (by decide)).2.1 ?_
    show Steps p.tables e below (T253.setTop (mkF m 125 #[rv a, iv fl, rv b54, iv 3, rv b96, rv b105, rv b115, iv 2, iv 1] [])) _
    refine XS.aloadN X253.here hx rfl (hb hby own_d10_125) rfl rfl ?_
    show Steps p.tables e below (T253.setTop (mkF m 126 #[rv a, iv fl, rv b54, iv 3, rv b96, rv b105, rv b115, iv 2, iv 1] [(.ref a)])) _
    refine st255 _ ?_
    show Steps p.tables e below (T255.setTop (mkF m 129 #[rv a, iv fl, rv b54, iv 3, rv b96, rv b105, rv b115, iv 2, iv 1] [(.ref bo)])) _
    refine XS.iload X255.here hx rfl (hb hby own_d10_129) rfl ?_
    show Steps p.tables e below (T255.setTop (mkF m 131 #[rv a, iv fl, rv b54, iv 3, rv b96, rv b105, rv b115, iv 2, iv 1] [(.int 2), (.ref bo)])) _
    refine X255.aaload hx (j := (2 : Int32)) (v := (.ref w_MATCH)) (by rw [e255]; exact c257A.1) (State.isArrayOf_alike hZ.alike c257A.2.1) rfl c257A.2.2 c257in c257at (g := (mkF m 131 #[rv a, iv fl, rv b54, iv 3, rv b96, rv b105, rv b115, iv 2, iv 1] [(.int 2), (.ref bo)])) rfl rfl (hb hby own_d10_131) _ ?_
    show Steps p.tables e below (T255.setTop (mkF m 132 #[rv a, iv fl, rv b54, iv 3, rv b96, rv b105, rv b115, iv 2, iv 1] [(.ref w_MATCH)])) _
    refine XS.iloadN X255.here hx rfl (hb hby own_d10_132) rfl ?_
    show Steps p.tables e below (T255.setTop (mkF m 133 #[rv a, iv fl, rv b54, iv 3, rv b96, rv b105, rv b115, iv 2, iv 1] [(.int fl), (.ref w_MATCH)])) _
    refine st258 _ ?_
    show Steps p.tables e below (T258.setTop (mkF m 136 #[rv a, iv fl, rv b54, iv 3, rv b96, rv b105, rv b115, iv 2, iv 1] [(.int 0)])) _
    refine XS.ifNo X258.here hx rfl (hb hby own_d10_136) rfl ((if0 _ _).trans (teq (by decide)).2) ?_
    show Steps p.tables e below (T258.setTop (mkF m 139 #[rv a, iv fl, rv b54, iv 3, rv b96, rv b105, rv b115, iv 2, iv 1] [])) _
    refine XS.aloadN X258.here hx rfl (hb hby own_d10_139) rfl rfl ?_
    show Steps p.tables e below (T258.setTop (mkF m 140 #[rv a, iv fl, rv b54, iv 3, rv b96, rv b105, rv b115, iv 2, iv 1] [(.ref b54)])) _
    refine XS.iload X258.here hx rfl (hb hby own_d10_140) rfl ?_
    show Steps p.tables e below (T258.setTop (mkF m 142 #[rv a, iv fl, rv b54, iv 3, rv b96, rv b105, rv b115, iv 2, iv 1] [(.int 2), (.ref b54)])) _
    refine X258.iaload hx (j := (2 : Int32)) (v := (.int 2)) (by rw [e258]; exact c260A.1) (State.isArrayOf_alike hZ.alike c260A.2.1) c260A.2.2 c260in c260at (g := (mkF m 142 #[rv a, iv fl, rv b54, iv 3, rv b96, rv b105, rv b115, iv 2, iv 1] [(.int 2), (.ref b54)])) rfl rfl (hb hby own_d10_142) _ ?_
    show Steps p.tables e below (T258.setTop (mkF m 143 #[rv a, iv fl, rv b54, iv 3, rv b96, rv b105, rv b115, iv 2, iv 1] [(.int 2)])) _
    refine XS.istore X258.here hx rfl (hb hby own_d10_143) rfl (l' := #[rv a, iv fl, rv b54, iv 3, rv b96, rv b105, rv b115, iv 2, iv 2]) rfl ?_
    show Steps p.tables e below (T258.setTop (mkF m 145 #[rv a, iv fl, rv b54, iv 3, rv b96, rv b105, rv b115, iv 2, iv 2] [])) _
    refine XS.aload X258.here hx rfl (hb hby own_d10_145) rfl rfl ?_
    show Steps p.tables e below (T258.setTop (mkF m 147 #[rv a, iv fl, rv b54, iv 3, rv b96, rv b105, rv b115, iv 2, iv 2] [(.ref b96)])) _
    refine XS.iload X258.here hx rfl (hb hby own_d10_147) rfl ?_
    show Steps p.tables e below (T258.setTop (mkF m 149 #[rv a, iv fl, rv b54, iv 3, rv b96, rv b105, rv b115, iv 2, iv 2] [(.int 2), (.ref b96)])) _
    refine XS.aloadN X258.here hx rfl (hb hby own_d10_149) rfl rfl ?_
    show Steps p.tables e below (T258.setTop (mkF m 150 #[rv a, iv fl, rv b54, iv 3, rv b96, rv b105, rv b115, iv 2, iv 2] [(.ref a), (.int 2), (.ref b96)])) _
    refine st261 _ ?_
    show Steps p.tables e below (T261.setTop (mkF m 153 #[rv a, iv fl, rv b54, iv 3, rv b96, rv b105, rv b115, iv 2, iv 2] [(.ref bo), (.int 2), (.ref b96)])) _
    refine XS.iload X261.here hx rfl (hb hby own_d10_153) rfl ?_
    show Steps p.tables e below (T261.setTop (mkF m 155 #[rv a, iv fl, rv b54, iv 3, rv b96, rv b105, rv b115, iv 2, iv 2] [(.int 2), (.ref bo), (.int 2), (.ref b96)])) _
    refine X261.aaload hx (j := (2 : Int32)) (v := (.ref w_MATCH)) (by rw [e261]; exact c262A.1) (State.isArrayOf_alike hZ.alike c262A.2.1) rfl c262A.2.2 c262in c262at (g := (mkF m 155 #[rv a, iv fl, rv b54, iv 3, rv b96, rv b105, rv b115, iv 2, iv 2] [(.int 2), (.ref bo), (.int 2), (.ref b96)])) rfl rfl (hb hby own_d10_155) _ ?_
    show Steps p.tables e below (T261.setTop (mkF m 156 #[rv a, iv fl, rv b54, iv 3, rv b96, rv b105, rv b115, iv 2, iv 2] [(.ref w_MATCH), (.int 2), (.ref b96)])) _
    refine st265 _ ?_
    show Steps p.tables e below (T265.setTop (mkF m 157 #[rv a, iv fl, rv b54, iv 3, rv b96, rv b105, rv b115, iv 2, iv 2] [])) _
    refine XS.aload X265.here hx rfl (hb hby own_d10_157) rfl rfl ?_
    show Steps p.tables e below (T265.setTop (mkF m 159 #[rv a, iv fl, rv b54, iv 3, rv b96, rv b105, rv b115, iv 2, iv 2] [(.ref b105)])) _
    refine XS.iload X265.here hx rfl (hb hby own_d10_159) rfl ?_
    show Steps p.tables e below (T265.setTop (mkF m 161 #[rv a, iv fl, rv b54, iv 3, rv b96, rv b105, rv b115, iv 2, iv 2] [(.int 2), (.ref b105)])) _
    refine XS.aloadN X265.here hx rfl (hb hby own_d10_161) rfl rfl ?_
    show Steps p.tables e below (T265.setTop (mkF m 162 #[rv a, iv fl, rv b54, iv 3, rv b96, rv b105, rv b115, iv 2, iv 2] [(.ref a), (.int 2), (.ref b105)])) _
    refine st269 _ ?_
    show Steps p.tables e below (T269.setTop (mkF m 165 #[rv a, iv fl, rv b54, iv 3, rv b96, rv b105, rv b115, iv 2, iv 2] [(.ref bo), (.int 2), (.ref b105)])) _
    refine XS.iload X269.here hx rfl (hb hby own_d10_165) rfl ?_
    show Steps p.tables e below (T269.setTop (mkF m 167 #[rv a, iv fl, rv b54, iv 3, rv b96, rv b105, rv b115, iv 2, iv 2] [(.int 2), (.ref bo), (.int 2), (.ref b105)])) _
    refine X269.aaload hx (j := (2 : Int32)) (v := (.ref w_MATCH)) (by rw [e269]; exact c271A.1) (State.isArrayOf_alike hZ.alike c271A.2.1) rfl c271A.2.2 c271in c271at (g := (mkF m 167 #[rv a, iv fl, rv b54, iv 3, rv b96, rv b105, rv b115, iv 2, iv 2] [(.int 2), (.ref bo), (.int 2), (.ref b105)])) rfl rfl (hb hby own_d10_167) _ ?_
    show Steps p.tables e below (T269.setTop (mkF m 168 #[rv a, iv fl, rv b54, iv 3, rv b96, rv b105, rv b115, iv 2, iv 2] [(.ref w_MATCH), (.int 2), (.ref b105)])) _
    refine st272 _ ?_
    show Steps p.tables e below (T272.setTop (mkF m 171 #[rv a, iv fl, rv b54, iv 3, rv b96, rv b105, rv b115, iv 2, iv 2] [(.int r272), (.int 2), (.ref b105)])) _
    refine own_top (v' := (.int 0)) (congrArg Value.int hz272) ?_
    show Steps p.tables e below (T272.setTop (mkF m 171 #[rv a, iv fl, rv b54, iv 3, rv b96, rv b105, rv b115, iv 2, iv 2] [(.int 0), (.int 2), (.ref b105)])) _
    refine XS.ifYes X272.here hx rfl (pc0 := 171) (pc' := 186) rfl (hb hby own_d10_171) rfl ((if0 _ _).trans (teq (by decide)).1) (by decide) (by decide) ?_
    show Steps p.tables e below (T272.setTop (mkF m 186 #[rv a, iv fl, rv b54, iv 3, rv b96, rv b105, rv b115, iv 2, iv 2] [(.int 2), (.ref b105)])) _
    refine XS.aloadN X272.here hx rfl (hb hby own_d10_186) rfl rfl ?_
    show Steps p.tables e below (T272.setTop (mkF m 187 #[rv a, iv fl, rv b54, iv 3, rv b96, rv b105, rv b115, iv 2, iv 2] [(.ref a), (.int 2), (.ref b105)])) _
    refine st274 _ ?_
    show Steps p.tables e below (T274.setTop (mkF m 190 #[rv a, iv fl, rv b54, iv 3, rv b96, rv b105, rv b115, iv 2, iv 2] [(.ref bf), (.int 2), (.ref b105)])) _
    refine XS.iload X274.here hx rfl (hb hby own_d10_190) rfl ?_
    show Steps p.tables e below (T274.setTop (mkF m 192 #[rv a, iv fl, rv b54, iv 3, rv b96, rv b105, rv b115, iv 2, iv 2] [(.int 2), (.ref bf), (.int 2), (.ref b105)])) _
    refine X274.iaload hx (j := (2 : Int32)) (v := (.int 0)) (by rw [e274]; exact c276A.1) (State.isArrayOf_alike hZ.alike c276A.2.1) c276A.2.2 c276in c276at (g := (mkF m 192 #[rv a, iv fl, rv b54, iv 3, rv b96, rv b105, rv b115, iv 2, iv 2] [(.int 2), (.ref bf), (.int 2), (.ref b105)])) rfl rfl (hb hby own_d10_192) _ ?_
    show Steps p.tables e below (T274.setTop (mkF m 193 #[rv a, iv fl, rv b54, iv 3, rv b96, rv b105, rv b115, iv 2, iv 2] [(.int 0), (.int 2), (.ref b105)])) _
    refine st279 _ ?_
    show Steps p.tables e below (T279.setTop (mkF m 194 #[rv a, iv fl, rv b54, iv 3, rv b96, rv b105, rv b115, iv 2, iv 2] [])) _
    refine XS.aload X279.here hx rfl (hb hby own_d10_194) rfl rfl ?_
    show Steps p.tables e below (T279.setTop (mkF m 196 #[rv a, iv fl, rv b54, iv 3, rv b96, rv b105, rv b115, iv 2, iv 2] [(.ref b115)])) _
    refine XS.iload X279.here hx rfl (hb hby own_d10_196) rfl ?_
    show Steps p.tables e below (T279.setTop (mkF m 198 #[rv a, iv fl, rv b54, iv 3, rv b96, rv b105, rv b115, iv 2, iv 2] [(.int 2), (.ref b115)])) _
    refine XS.aloadN X279.here hx rfl (hb hby own_d10_198) rfl rfl ?_
    show Steps p.tables e below (T279.setTop (mkF m 199 #[rv a, iv fl, rv b54, iv 3, rv b96, rv b105, rv b115, iv 2, iv 2] [(.ref a), (.int 2), (.ref b115)])) _
    refine st283 _ ?_
    show Steps p.tables e below (T283.setTop (mkF m 202 #[rv a, iv fl, rv b54, iv 3, rv b96, rv b105, rv b115, iv 2, iv 2] [(.ref bo), (.int 2), (.ref b115)])) _
    refine XS.iload X283.here hx rfl (hb hby own_d10_202) rfl ?_
    show Steps p.tables e below (T283.setTop (mkF m 204 #[rv a, iv fl, rv b54, iv 3, rv b96, rv b105, rv b115, iv 2, iv 2] [(.int 2), (.ref bo), (.int 2), (.ref b115)])) _
    refine X283.aaload hx (j := (2 : Int32)) (v := (.ref w_MATCH)) (by rw [e283]; exact c285A.1) (State.isArrayOf_alike hZ.alike c285A.2.1) rfl c285A.2.2 c285in c285at (g := (mkF m 204 #[rv a, iv fl, rv b54, iv 3, rv b96, rv b105, rv b115, iv 2, iv 2] [(.int 2), (.ref bo), (.int 2), (.ref b115)])) rfl rfl (hb hby own_d10_204) _ ?_
    show Steps p.tables e below (T283.setTop (mkF m 205 #[rv a, iv fl, rv b54, iv 3, rv b96, rv b105, rv b115, iv 2, iv 2] [(.ref w_MATCH), (.int 2), (.ref b115)])) _
    refine st286 _ ?_
    show Steps p.tables e below (T286.setTop (mkF m 208 #[rv a, iv fl, rv b54, iv 3, rv b96, rv b105, rv b115, iv 2, iv 2] [(.ref w_SPLIT), (.ref w_MATCH), (.int 2), (.ref b115)])) _
    refine Jvm.RoadKit.acmp (g := (mkF m 208 #[rv a, iv fl, rv b54, iv 3, rv b96, rv b105, rv b115, iv 2, iv 2] [(.ref w_SPLIT), (.ref w_MATCH), (.int 2), (.ref b115)])) X286 hx rfl rfl rfl (pc0 := 208) (pc' := 223) (same := false) rfl (hb hby own_d10_208) rfl (decide_eq_false fun q => (Ne.symm (Fld.ne U_SPLIT.2.2 U_MATCH.2.2 (by decide))) (Value.ref.inj q)) (by decide) (by decide) ?_
    show Steps p.tables e below (T286.setTop (mkF m 223 #[rv a, iv fl, rv b54, iv 3, rv b96, rv b105, rv b115, iv 2, iv 2] [(.int 2), (.ref b115)])) _
    refine XS.aloadN X286.here hx rfl (hb hby own_d10_223) rfl rfl ?_
    show Steps p.tables e below (T286.setTop (mkF m 224 #[rv a, iv fl, rv b54, iv 3, rv b96, rv b105, rv b115, iv 2, iv 2] [(.ref a), (.int 2), (.ref b115)])) _
    refine st288 _ ?_
    show Steps p.tables e below (T288.setTop (mkF m 227 #[rv a, iv fl, rv b54, iv 3, rv b96, rv b105, rv b115, iv 2, iv 2] [(.ref bs), (.int 2), (.ref b115)])) _
    refine XS.iload X288.here hx rfl (hb hby own_d10_227) rfl ?_
    show Steps p.tables e below (T288.setTop (mkF m 229 #[rv a, iv fl, rv b54, iv 3, rv b96, rv b105, rv b115, iv 2, iv 2] [(.int 2), (.ref bs), (.int 2), (.ref b115)])) _
    refine X288.iaload hx (j := (2 : Int32)) (v := (.int 0)) (by rw [e288]; exact c290A.1) (State.isArrayOf_alike hZ.alike c290A.2.1) c290A.2.2 c290in c290at (g := (mkF m 229 #[rv a, iv fl, rv b54, iv 3, rv b96, rv b105, rv b115, iv 2, iv 2] [(.int 2), (.ref bs), (.int 2), (.ref b115)])) rfl rfl (hb hby own_d10_229) _ ?_
    show Steps p.tables e below (T288.setTop (mkF m 230 #[rv a, iv fl, rv b54, iv 3, rv b96, rv b105, rv b115, iv 2, iv 2] [(.int 0), (.int 2), (.ref b115)])) _
    refine st293 _ ?_
    show Steps p.tables e below (T293.setTop (mkF m 231 #[rv a, iv fl, rv b54, iv 3, rv b96, rv b105, rv b115, iv 2, iv 2] [])) _
    refine XS.iinc X293.here hx rfl (hb hby own_d10_231) rfl (l' := #[rv a, iv fl, rv b54, iv 3, rv b96, rv b105, rv b115, .val (.int ((2 : Int32) + (1 : Int32))), iv 2]) rfl ?_
    show Steps p.tables e below (T293.setTop (mkF m 234 #[rv a, iv fl, rv b54, iv 3, rv b96, rv b105, rv b115, .val (.int ((2 : Int32) + (1 : Int32))), iv 2] [])) _
    refine castTop (congrArg (fun zz : Int32 => (mkF m 234 #[rv a, iv fl, rv b54, iv 3, rv b96, rv b105, rv b115, iv zz, iv 2] [])) (by decide : ((2 : Int32) + (1 : Int32)) = (3 : Int32))) ?_
    show Steps p.tables e below (T293.setTop (mkF m 234 #[rv a, iv fl, rv b54, iv 3, rv b96, rv b105, rv b115, iv 3, iv 2] [])) _
    refine XS.goto X293.here hx rfl (pc0 := 234) (pc' := 116) rfl (hb hby own_d10_234) (by decide) (by decide) ?_
    show Steps p.tables e below (T293.setTop (mkF m 116 #[rv a, iv fl, rv b54, iv 3, rv b96, rv b105, rv b115, iv 3, iv 2] [])) _
    refine XS.iload X293.here hx rfl (hb hby own_d10_116) rfl ?_
    show Steps p.tables e below (T293.setTop (mkF m 118 #[rv a, iv fl, rv b54, iv 3, rv b96, rv b105, rv b115, iv 3, iv 2] [(.int 3)])) _
    refine XS.aloadN X293.here hx rfl (hb hby own_d10_118) rfl rfl ?_
    show Steps p.tables e below (T293.setTop (mkF m 119 #[rv a, iv fl, rv b54, iv 3, rv b96, rv b105, rv b115, iv 3, iv 2] [(.ref a), (.int 3)])) _
    refine st297 _ ?_
    show Steps p.tables e below (T297.setTop (mkF m 122 #[rv a, iv fl, rv b54, iv 3, rv b96, rv b105, rv b115, iv 3, iv 2] [(.int 3), (.int 3)])) _
    refine XS.icmpYes X297.here hx rfl (pc0 := 122) (pc' := 237) rfl (hb hby own_d10_122) rfl (flt (by decide)).2.1 (by decide) (by decide) ?_
    show Steps p.tables e below (T297.setTop (mkF m 237 #[rv a, iv fl, rv b54, iv 3, rv b96, rv b105, rv b115, iv 3, iv 2] [])) _
    refine st306 _ ?_
    show Steps p.tables e below (T306.setTop (mkF m 240 #[rv a, iv fl, rv b54, iv 3, rv b96, rv b105, rv b115, iv 3, iv 2] [(.ref b306)])) _
    refine XS.dup X306.here hx rfl (hb hby own_d10_240) rfl rfl ?_
    show Steps p.tables e below (T306.setTop (mkF m 241 #[rv a, iv fl, rv b54, iv 3, rv b96, rv b105, rv b115, iv 3, iv 2] [(.ref b306), (.ref b306)])) _
    refine XS.aload X306.here hx rfl (hb hby own_d10_241) rfl rfl ?_
    show Steps p.tables e below (T306.setTop (mkF m 243 #[rv a, iv fl, rv b54, iv 3, rv b96, rv b105, rv b115, iv 3, iv 2] [(.ref b96), (.ref b306), (.ref b306)])) _
    refine XS.aload X306.here hx rfl (hb hby own_d10_243) rfl rfl ?_
    show Steps p.tables e below (T306.setTop (mkF m 245 #[rv a, iv fl, rv b54, iv 3, rv b96, rv b105, rv b115, iv 3, iv 2] [(.ref b105), (.ref b96), (.ref b306), (.ref b306)])) _
    refine XS.aload X306.here hx rfl (hb hby own_d10_245) rfl rfl ?_
    show Steps p.tables e below (T306.setTop (mkF m 247 #[rv a, iv fl, rv b54, iv 3, rv b96, rv b105, rv b115, iv 3, iv 2] [(.ref b115), (.ref b105), (.ref b96), (.ref b306), (.ref b306)])) _
    refine XS.aloadN X306.here hx rfl (hb hby own_d10_247) rfl rfl ?_
    show Steps p.tables e below (T306.setTop (mkF m 248 #[rv a, iv fl, rv b54, iv 3, rv b96, rv b105, rv b115, iv 3, iv 2] [(.ref a), (.ref b115), (.ref b105), (.ref b96), (.ref b306), (.ref b306)])) _
    refine st310 _ ?_
    show Steps p.tables e below (T310.setTop (mkF m 251 #[rv a, iv fl, rv b54, iv 3, rv b96, rv b105, rv b115, iv 3, iv 2] [(.ref ll), (.ref b115), (.ref b105), (.ref b96), (.ref b306), (.ref b306)])) _
    refine XS.iconst X310.here hx rfl (hb hby own_d10_251) ?_
    show Steps p.tables e below (T310.setTop (mkF m 252 #[rv a, iv fl, rv b54, iv 3, rv b96, rv b105, rv b115, iv 3, iv 2] [(.int 0), (.ref ll), (.ref b115), (.ref b105), (.ref b96), (.ref b306), (.ref b306)])) _
    refine st320 _ ?_
    show Steps p.tables e below (T320.setTop (mkF m 255 #[rv a, iv fl, rv b54, iv 3, rv b96, rv b105, rv b115, iv 3, iv 2] [(.ref b320), (.ref ll), (.ref b115), (.ref b105), (.ref b96), (.ref b306), (.ref b306)])) _
    refine st327.trans ?_
    show Steps p.tables e below (T327.setTop (mkF m 260 #[rv a, iv fl, rv b54, iv 3, rv b96, rv b105, rv b115, iv 3, iv 2] [(.ref b320), (.ref b115), (.ref b105), (.ref b96), (.ref b306), (.ref b306)])) _
    refine st331 _ ?_
    show Steps p.tables e below (T331.setTop (mkF m 263 #[rv a, iv fl, rv b54, iv 3, rv b96, rv b105, rv b115, iv 3, iv 2] [(.ref b320), (.ref b115), (.ref b105), (.ref b96), (.ref b306), (.ref b306)])) _
    refine XS.aloadN X331.here hx rfl (hb hby own_d10_263) rfl rfl ?_
    show Steps p.tables e below (T331.setTop (mkF m 264 #[rv a, iv fl, rv b54, iv 3, rv b96, rv b105, rv b115, iv 3, iv 2] [(.ref a), (.ref b320), (.ref b115), (.ref b105), (.ref b96), (.ref b306), (.ref b306)])) _
    refine st333 _ ?_
    show Steps p.tables e below (T333.setTop (mkF m 267 #[rv a, iv fl, rv b54, iv 3, rv b96, rv b105, rv b115, iv 3, iv 2] [(.int 0), (.ref b320), (.ref b115), (.ref b105), (.ref b96), (.ref b306), (.ref b306)])) _
    refine XS.iloadN X333.here hx rfl (hb hby own_d10_267) rfl ?_
    show Steps p.tables e below (T333.setTop (mkF m 268 #[rv a, iv fl, rv b54, iv 3, rv b96, rv b105, rv b115, iv 3, iv 2] [(.int fl), (.int 0), (.ref b320), (.ref b115), (.ref b105), (.ref b96), (.ref b306), (.ref b306)])) _
    refine st341.trans ?_
    show Steps p.tables e below (T341.setTop (mkF m 271 #[rv a, iv fl, rv b54, iv 3, rv b96, rv b105, rv b115, iv 3, iv 2] [(.ref b306)])) _
    jvm_step X341.here [X341.here.top, hx, (hb hby own_d10_271), X341.method', Bd.returns, Value.isRef, FieldType.isReference]
    first | (intro acts; rw [hr _ acts rfl rfl rfl]) | rw [hr _ _ rfl rfl rfl]
    exact Steps.refl _
  · show own_build_Q Z w_CHARACTER w_SPLIT w_JUMP w_TEXT_START w_LINE_START w_TEXT_END w_LINE_END w_SAVE w_BACK_REFERENCE w_MARK w_PROGRESS w_MATCH w_NOTHING w_DE k_DE a bo bf bs ll ko kf ks o0 f0 s0 o1 f1 s1 h0 n0 _ T341.heap _
    exact ⟨_, b96, b105, b115, k96, k105, k115, N341, kp347, trivial, rfl, q342, q343, q344, q345, f348, f349, f350, trivial⟩
theorem own_size3_ef (m : MethodId) (r : Addr) : entryFrame m #[(.ref r)] 1 = mkF m 0 #[rv r] [] := by first | (simp [entryFrame, mkF, argsToLocals, Value.category]; done) | rfl
def own_size3_Q (Z : State) (w_CHARACTER : Addr) (w_SPLIT : Addr) (w_JUMP : Addr) (w_TEXT_START : Addr) (w_LINE_START : Addr) (w_TEXT_END : Addr) (w_LINE_END : Addr) (w_SAVE : Addr) (w_BACK_REFERENCE : Addr) (w_MARK : Addr) (w_PROGRESS : Addr) (w_MATCH : Addr) (w_NOTHING : Addr) (w_DE : Addr) (k_DE : ClassId) (r : Addr) (xo : Addr) (xf : Addr) (xs : Addr) (k1 : ClassId) (k2 : ClassId) (k3 : ClassId) (o0 : Addr) (f0 : Int32) (s0 : Int32) (o1 : Addr) (f1 : Int32) (s1 : Int32) (h0 : Heap) (n0 : Nat) (v : Option Value) (h : Heap) (L : List Loc) : Prop := v = some (.int 3) ∧ Fr n0 L ∧ h = h0
set_option maxRecDepth 65536 in
set_option maxHeartbeats 40000000 in
theorem own_size3 (l : Launch) (Z : State) (a0 : Array Value) (hw : ∀ d ∈ tables_1, d.before a0 Z = true) (ws : List Jvm.Cond) (w_CHARACTER : Addr) (w_SPLIT : Addr) (w_JUMP : Addr) (w_TEXT_START : Addr) (w_LINE_START : Addr) (w_TEXT_END : Addr) (w_LINE_END : Addr) (w_SAVE : Addr) (w_BACK_REFERENCE : Addr) (w_MARK : Addr) (w_PROGRESS : Addr) (w_MATCH : Addr) (w_NOTHING : Addr) (w_DE : Addr) (k_DE : ClassId) (r : Addr) (xo : Addr) (xf : Addr) (xs : Addr) (k1 : ClassId) (k2 : ClassId) (k3 : ClassId) (o0 : Addr) (f0 : Int32) (s0 : Int32) (o1 : Addr) (f1 : Int32) (s1 : Int32) (h0 : Heap) (n0 : Nat) (O0 : Old Z n0 h0) (U_CHARACTER : own_En Z Z.heap "com/example/quillgraph/quillgraph/sparql/RegexProgram$Op" "CHARACTER" "Lcom/example/quillgraph/quillgraph/sparql/RegexProgram$Op;" w_CHARACTER (0 : Int32)) (U_SPLIT : own_En Z Z.heap "com/example/quillgraph/quillgraph/sparql/RegexProgram$Op" "SPLIT" "Lcom/example/quillgraph/quillgraph/sparql/RegexProgram$Op;" w_SPLIT (1 : Int32)) (U_JUMP : own_En Z Z.heap "com/example/quillgraph/quillgraph/sparql/RegexProgram$Op" "JUMP" "Lcom/example/quillgraph/quillgraph/sparql/RegexProgram$Op;" w_JUMP (2 : Int32)) (U_TEXT_START : own_En Z Z.heap "com/example/quillgraph/quillgraph/sparql/RegexProgram$Op" "TEXT_START" "Lcom/example/quillgraph/quillgraph/sparql/RegexProgram$Op;" w_TEXT_START (3 : Int32)) (U_LINE_START : own_En Z Z.heap "com/example/quillgraph/quillgraph/sparql/RegexProgram$Op" "LINE_START" "Lcom/example/quillgraph/quillgraph/sparql/RegexProgram$Op;" w_LINE_START (4 : Int32)) (U_TEXT_END : own_En Z Z.heap "com/example/quillgraph/quillgraph/sparql/RegexProgram$Op" "TEXT_END" "Lcom/example/quillgraph/quillgraph/sparql/RegexProgram$Op;" w_TEXT_END (5 : Int32)) (U_LINE_END : own_En Z Z.heap "com/example/quillgraph/quillgraph/sparql/RegexProgram$Op" "LINE_END" "Lcom/example/quillgraph/quillgraph/sparql/RegexProgram$Op;" w_LINE_END (6 : Int32)) (U_SAVE : own_En Z Z.heap "com/example/quillgraph/quillgraph/sparql/RegexProgram$Op" "SAVE" "Lcom/example/quillgraph/quillgraph/sparql/RegexProgram$Op;" w_SAVE (7 : Int32)) (U_BACK_REFERENCE : own_En Z Z.heap "com/example/quillgraph/quillgraph/sparql/RegexProgram$Op" "BACK_REFERENCE" "Lcom/example/quillgraph/quillgraph/sparql/RegexProgram$Op;" w_BACK_REFERENCE (8 : Int32)) (U_MARK : own_En Z Z.heap "com/example/quillgraph/quillgraph/sparql/RegexProgram$Op" "MARK" "Lcom/example/quillgraph/quillgraph/sparql/RegexProgram$Op;" w_MARK (9 : Int32)) (U_PROGRESS : own_En Z Z.heap "com/example/quillgraph/quillgraph/sparql/RegexProgram$Op" "PROGRESS" "Lcom/example/quillgraph/quillgraph/sparql/RegexProgram$Op;" w_PROGRESS (10 : Int32)) (U_MATCH : own_En Z Z.heap "com/example/quillgraph/quillgraph/sparql/RegexProgram$Op" "MATCH" "Lcom/example/quillgraph/quillgraph/sparql/RegexProgram$Op;" w_MATCH (11 : Int32)) (U_NOTHING : own_En Z Z.heap "com/example/quillgraph/quillgraph/sparql/RegexProgram$Op" "NOTHING" "Lcom/example/quillgraph/quillgraph/sparql/RegexProgram$Op;" w_NOTHING (12 : Int32)) (S_DE : Sta Z Z.heap "java/util/ArrayList" "DEFAULTCAPACITY_EMPTY_ELEMENTDATA" "[Ljava/lang/Object;" (.ref w_DE)) (V_DE : Arv Z Z.heap w_DE k_DE (.object "java/lang/Object") (0 : Int32) [] .null) (F_ops : Fld Z h0 r "com/example/quillgraph/quillgraph/sparql/RegexProgram" "ops" "[Lcom/example/quillgraph/quillgraph/sparql/RegexProgram$Op;" (.ref xo)) (F_first : Fld Z h0 r "com/example/quillgraph/quillgraph/sparql/RegexProgram" "first" "[I" (.ref xf)) (F_second : Fld Z h0 r "com/example/quillgraph/quillgraph/sparql/RegexProgram" "second" "[I" (.ref xs)) (V_xo : Arv Z h0 xo k1 (.object "com/example/quillgraph/quillgraph/sparql/RegexProgram$Op") (3 : Int32) [(.ref o0), (.ref o1), (.ref w_MATCH)] .null) (V_xf : Arv Z h0 xf k2 .int (3 : Int32) [(.int f0), (.int f1), (.int 0)] (.int 0)) (V_xs : Arv Z h0 xs k3 .int (3 : Int32) [(.int s0), (.int s1), (.int 0)] (.int 0)) :
    MetFree l (⟨"com/example/quillgraph/quillgraph/sparql/RegexProgram", "size", "()I"⟩ : MethodName) (head1 (Jvm.Cond.code (⟨"com/example/quillgraph/quillgraph/sparql/RegexProgram", "size", "()I"⟩ : MethodName) prog_116_method_2_code 1 (some .int) :: ws) ({ frames := 0, cells := 0, slots := 0, locals := 0 } : Room)) (fun ar U => ar = #[(.ref r)] ∧ Z.Warmed39 U.vm ∧ U.heap = h0) (fun _ _ _ _ _ => True) (fun _ U oc U' => ∃ v L, oc = .returned v ∧ own_size3_Q Z w_CHARACTER w_SPLIT w_JUMP w_TEXT_START w_LINE_START w_TEXT_END w_LINE_END w_SAVE w_BACK_REFERENCE w_MARK w_PROGRESS w_MATCH w_NOTHING w_DE k_DE r xo xf xs k1 k2 k3 o0 f0 s0 o1 f1 s1 h0 n0 v U'.heap L ∧ FrameEnd U oc U' L ({ frames := 0, cells := 0, slots := 0, locals := 0 } : Room).cells ({ frames := 0, cells := 0, slots := 0, locals := 0 } : Room).slots) := by
  refine MetFree.of_bodySF (plainFor_of_name own_pn5) hisR ?_
  intro p e s m args below meth c s₁ Bd hml0 hP hK
  obtain ⟨rfl, hZ, hh⟩ := hP
  have hx := Bd.exec
  have hby := Bd.bytes
  have hml : c.maxLocals = 1 := hml0
  have hown : s.vm.findClass "com/example/quillgraph/quillgraph/sparql/RegexProgram" = some m.cls := findClass_of_methodNamed Bd.named
  have hnm := (name_of_methodNamed Bd.named Bd.method).1
  have X0 : Stand p l e ({ frames := 0, cells := 0, slots := 0, locals := 0 } : Room) s m #[(.ref r)] below meth c s₁ [] 0 0 := Stand.of_body Bd
  have e0 : s₁.heap = h0 := by rw [← hh, Bd.state]; rfl
  have N0 := Fr.nil n0
  have pre0 : ∀ t, Steps p.tables e below (s₁.setTop (mkF m 0 #[rv r] [])) t → Steps p.tables e below (s₁.setTop (entryFrame m #[(.ref r)] 1)) t := fun t k => castTop (own_size3_ef m r) k
  obtain ⟨T1, X1, e1, st1⟩ := getF X0 hx hZ hown (host := "") (Or.inl (hw _ (own_m 131 rfl))) Via.refl e0 F_ops (g := (mkF m 1 #[rv r] [(.ref r)])) rfl rfl (hb hby own_d15_1)
  obtain ⟨c2, c2A, c2q, c2S, c2N, c2H, c2G⟩ := id V_xo
  obtain ⟨fs, hr, hrun, hended, hW, hsame⟩ := X1.leave (v := some (.int 3)) (fun h => by rw [Bd.returns] at h; cases h)
  refine ⟨_, _, pre0 _ ?_, hrun, hended, _, _, rfl, ?_, ⟨_, rfl⟩, hW, hsame.mono (by decide) (by decide)⟩
  · show Steps p.tables e below (s₁.setTop (mkF m 0 #[rv r] [])) _
    refine XS.aloadN X0.here hx rfl (hb hby own_d15_0) rfl rfl ?_
    show Steps p.tables e below (s₁.setTop (mkF m 1 #[rv r] [(.ref r)])) _
    refine st1 _ ?_
    show Steps p.tables e below (T1.setTop (mkF m 4 #[rv r] [(.ref xo)])) _
    refine X1.arraylength hx (by rw [e1]; exact c2A.1) (State.isArrayOf_alike hZ.alike c2A.2.1) (g := (mkF m 4 #[rv r] [(.ref xo)])) rfl rfl (hb hby own_d15_4) _ ?_
    rw [len_of c2S c2N]
    show Steps p.tables e below (T1.setTop (mkF m 5 #[rv r] [(.int 3)])) _
    exact retI X1 hx Bd.returns (hb hby own_d15_5) hr
  · show own_size3_Q Z w_CHARACTER w_SPLIT w_JUMP w_TEXT_START w_LINE_START w_TEXT_END w_LINE_END w_SAVE w_BACK_REFERENCE w_MARK w_PROGRESS w_MATCH w_NOTHING w_DE k_DE r xo xf xs k1 k2 k3 o0 f0 s0 o1 f1 s1 h0 n0 _ T1.heap _
    rw [e1]
    exact ⟨rfl, N0, rfl⟩
theorem own_rop0_ef (m : MethodId) (r : Addr) : entryFrame m #[(.ref r), (.int 0)] 2 = mkF m 0 #[rv r, iv 0] [] := by first | (simp [entryFrame, mkF, argsToLocals, Value.category]; done) | rfl
def own_rop0_Q (Z : State) (w_CHARACTER : Addr) (w_SPLIT : Addr) (w_JUMP : Addr) (w_TEXT_START : Addr) (w_LINE_START : Addr) (w_TEXT_END : Addr) (w_LINE_END : Addr) (w_SAVE : Addr) (w_BACK_REFERENCE : Addr) (w_MARK : Addr) (w_PROGRESS : Addr) (w_MATCH : Addr) (w_NOTHING : Addr) (w_DE : Addr) (k_DE : ClassId) (r : Addr) (xo : Addr) (xf : Addr) (xs : Addr) (k1 : ClassId) (k2 : ClassId) (k3 : ClassId) (o0 : Addr) (f0 : Int32) (s0 : Int32) (o1 : Addr) (f1 : Int32) (s1 : Int32) (h0 : Heap) (n0 : Nat) (v : Option Value) (h : Heap) (L : List Loc) : Prop := v = some (.ref o0) ∧ Fr n0 L ∧ h = h0
set_option maxRecDepth 65536 in
set_option maxHeartbeats 40000000 in
theorem own_rop0 (l : Launch) (Z : State) (a0 : Array Value) (hw : ∀ d ∈ tables_1, d.before a0 Z = true) (ws : List Jvm.Cond) (w_CHARACTER : Addr) (w_SPLIT : Addr) (w_JUMP : Addr) (w_TEXT_START : Addr) (w_LINE_START : Addr) (w_TEXT_END : Addr) (w_LINE_END : Addr) (w_SAVE : Addr) (w_BACK_REFERENCE : Addr) (w_MARK : Addr) (w_PROGRESS : Addr) (w_MATCH : Addr) (w_NOTHING : Addr) (w_DE : Addr) (k_DE : ClassId) (r : Addr) (xo : Addr) (xf : Addr) (xs : Addr) (k1 : ClassId) (k2 : ClassId) (k3 : ClassId) (o0 : Addr) (f0 : Int32) (s0 : Int32) (o1 : Addr) (f1 : Int32) (s1 : Int32) (h0 : Heap) (n0 : Nat) (O0 : Old Z n0 h0) (U_CHARACTER : own_En Z Z.heap "com/example/quillgraph/quillgraph/sparql/RegexProgram$Op" "CHARACTER" "Lcom/example/quillgraph/quillgraph/sparql/RegexProgram$Op;" w_CHARACTER (0 : Int32)) (U_SPLIT : own_En Z Z.heap "com/example/quillgraph/quillgraph/sparql/RegexProgram$Op" "SPLIT" "Lcom/example/quillgraph/quillgraph/sparql/RegexProgram$Op;" w_SPLIT (1 : Int32)) (U_JUMP : own_En Z Z.heap "com/example/quillgraph/quillgraph/sparql/RegexProgram$Op" "JUMP" "Lcom/example/quillgraph/quillgraph/sparql/RegexProgram$Op;" w_JUMP (2 : Int32)) (U_TEXT_START : own_En Z Z.heap "com/example/quillgraph/quillgraph/sparql/RegexProgram$Op" "TEXT_START" "Lcom/example/quillgraph/quillgraph/sparql/RegexProgram$Op;" w_TEXT_START (3 : Int32)) (U_LINE_START : own_En Z Z.heap "com/example/quillgraph/quillgraph/sparql/RegexProgram$Op" "LINE_START" "Lcom/example/quillgraph/quillgraph/sparql/RegexProgram$Op;" w_LINE_START (4 : Int32)) (U_TEXT_END : own_En Z Z.heap "com/example/quillgraph/quillgraph/sparql/RegexProgram$Op" "TEXT_END" "Lcom/example/quillgraph/quillgraph/sparql/RegexProgram$Op;" w_TEXT_END (5 : Int32)) (U_LINE_END : own_En Z Z.heap "com/example/quillgraph/quillgraph/sparql/RegexProgram$Op" "LINE_END" "Lcom/example/quillgraph/quillgraph/sparql/RegexProgram$Op;" w_LINE_END (6 : Int32)) (U_SAVE : own_En Z Z.heap "com/example/quillgraph/quillgraph/sparql/RegexProgram$Op" "SAVE" "Lcom/example/quillgraph/quillgraph/sparql/RegexProgram$Op;" w_SAVE (7 : Int32)) (U_BACK_REFERENCE : own_En Z Z.heap "com/example/quillgraph/quillgraph/sparql/RegexProgram$Op" "BACK_REFERENCE" "Lcom/example/quillgraph/quillgraph/sparql/RegexProgram$Op;" w_BACK_REFERENCE (8 : Int32)) (U_MARK : own_En Z Z.heap "com/example/quillgraph/quillgraph/sparql/RegexProgram$Op" "MARK" "Lcom/example/quillgraph/quillgraph/sparql/RegexProgram$Op;" w_MARK (9 : Int32)) (U_PROGRESS : own_En Z Z.heap "com/example/quillgraph/quillgraph/sparql/RegexProgram$Op" "PROGRESS" "Lcom/example/quillgraph/quillgraph/sparql/RegexProgram$Op;" w_PROGRESS (10 : Int32)) (U_MATCH : own_En Z Z.heap "com/example/quillgraph/quillgraph/sparql/RegexProgram$Op" "MATCH" "Lcom/example/quillgraph/quillgraph/sparql/RegexProgram$Op;" w_MATCH (11 : Int32)) (U_NOTHING : own_En Z Z.heap "com/example/quillgraph/quillgraph/sparql/RegexProgram$Op" "NOTHING" "Lcom/example/quillgraph/quillgraph/sparql/RegexProgram$Op;" w_NOTHING (12 : Int32)) (S_DE : Sta Z Z.heap "java/util/ArrayList" "DEFAULTCAPACITY_EMPTY_ELEMENTDATA" "[Ljava/lang/Object;" (.ref w_DE)) (V_DE : Arv Z Z.heap w_DE k_DE (.object "java/lang/Object") (0 : Int32) [] .null) (F_ops : Fld Z h0 r "com/example/quillgraph/quillgraph/sparql/RegexProgram" "ops" "[Lcom/example/quillgraph/quillgraph/sparql/RegexProgram$Op;" (.ref xo)) (F_first : Fld Z h0 r "com/example/quillgraph/quillgraph/sparql/RegexProgram" "first" "[I" (.ref xf)) (F_second : Fld Z h0 r "com/example/quillgraph/quillgraph/sparql/RegexProgram" "second" "[I" (.ref xs)) (V_xo : Arv Z h0 xo k1 (.object "com/example/quillgraph/quillgraph/sparql/RegexProgram$Op") (3 : Int32) [(.ref o0), (.ref o1), (.ref w_MATCH)] .null) (V_xf : Arv Z h0 xf k2 .int (3 : Int32) [(.int f0), (.int f1), (.int 0)] (.int 0)) (V_xs : Arv Z h0 xs k3 .int (3 : Int32) [(.int s0), (.int s1), (.int 0)] (.int 0)) :
    MetFree l (⟨"com/example/quillgraph/quillgraph/sparql/RegexProgram", "op", "(I)Lcom/example/quillgraph/quillgraph/sparql/RegexProgram$Op;"⟩ : MethodName) (head1 (Jvm.Cond.code (⟨"com/example/quillgraph/quillgraph/sparql/RegexProgram", "op", "(I)Lcom/example/quillgraph/quillgraph/sparql/RegexProgram$Op;"⟩ : MethodName) prog_116_method_3_code 2 (some (.object "com/example/quillgraph/quillgraph/sparql/RegexProgram$Op")) :: ws) ({ frames := 0, cells := 0, slots := 0, locals := 0 } : Room)) (fun ar U => ar = #[(.ref r), (.int 0)] ∧ Z.Warmed39 U.vm ∧ U.heap = h0) (fun _ _ _ _ _ => True) (fun _ U oc U' => ∃ v L, oc = .returned v ∧ own_rop0_Q Z w_CHARACTER w_SPLIT w_JUMP w_TEXT_START w_LINE_START w_TEXT_END w_LINE_END w_SAVE w_BACK_REFERENCE w_MARK w_PROGRESS w_MATCH w_NOTHING w_DE k_DE r xo xf xs k1 k2 k3 o0 f0 s0 o1 f1 s1 h0 n0 v U'.heap L ∧ FrameEnd U oc U' L ({ frames := 0, cells := 0, slots := 0, locals := 0 } : Room).cells ({ frames := 0, cells := 0, slots := 0, locals := 0 } : Room).slots) := by
  refine MetFree.of_bodySF (plainFor_of_name own_pn5) hisR ?_
  intro p e s m args below meth c s₁ Bd hml0 hP hK
  obtain ⟨rfl, hZ, hh⟩ := hP
  have hx := Bd.exec
  have hby := Bd.bytes
  have hml : c.maxLocals = 2 := hml0
  have hown : s.vm.findClass "com/example/quillgraph/quillgraph/sparql/RegexProgram" = some m.cls := findClass_of_methodNamed Bd.named
  have hnm := (name_of_methodNamed Bd.named Bd.method).1
  have X0 : Stand p l e ({ frames := 0, cells := 0, slots := 0, locals := 0 } : Room) s m #[(.ref r), (.int 0)] below meth c s₁ [] 0 0 := Stand.of_body Bd
  have e0 : s₁.heap = h0 := by rw [← hh, Bd.state]; rfl
  have N0 := Fr.nil n0
  have pre0 : ∀ t, Steps p.tables e below (s₁.setTop (mkF m 0 #[rv r, iv 0] [])) t → Steps p.tables e below (s₁.setTop (entryFrame m #[(.ref r), (.int 0)] 2)) t := fun t k => castTop (own_rop0_ef m r) k
  obtain ⟨T1, X1, e1, st1⟩ := getF X0 hx hZ hown (host := "") (Or.inl (hw _ (own_m 131 rfl))) Via.refl e0 F_ops (g := (mkF m 1 #[rv r, iv 0] [(.ref r)])) rfl rfl (hb hby own_d16_1)
  obtain ⟨c2, c2A, c2q, c2S, c2N, c2H, c2G⟩ := id V_xo
  have c2in : ¬ ((0 : Int32) < 0 ∨ c2.slots.size ≤ ((0 : Int32)).toNatClampNeg) := inb_of c2S ⟨by decide, by decide⟩
  have c2at : c2.slots[((0 : Int32)).toNatClampNeg]? = some (.ref o0) := Has.at c2H c2in rfl
  obtain ⟨fs, hr, hrun, hended, hW, hsame⟩ := X1.leave (v := some (.ref o0)) (fun h => by rw [Bd.returns] at h; cases h)
  refine ⟨_, _, pre0 _ ?_, hrun, hended, _, _, rfl, ?_, ⟨_, rfl⟩, hW, hsame.mono (by decide) (by decide)⟩
  · show Steps p.tables e below (s₁.setTop (mkF m 0 #[rv r, iv 0] [])) _
    refine XS.aloadN X0.here hx rfl (hb hby own_d16_0) rfl rfl ?_
    show Steps p.tables e below (s₁.setTop (mkF m 1 #[rv r, iv 0] [(.ref r)])) _
    refine st1 _ ?_
    show Steps p.tables e below (T1.setTop (mkF m 4 #[rv r, iv 0] [(.ref xo)])) _
    refine XS.iloadN X1.here hx rfl (hb hby own_d16_4) rfl ?_
    show Steps p.tables e below (T1.setTop (mkF m 5 #[rv r, iv 0] [(.int 0), (.ref xo)])) _
    refine X1.aaload hx (j := (0 : Int32)) (v := (.ref o0)) (by rw [e1]; exact c2A.1) (State.isArrayOf_alike hZ.alike c2A.2.1) rfl c2A.2.2 c2in c2at (g := (mkF m 5 #[rv r, iv 0] [(.int 0), (.ref xo)])) rfl rfl (hb hby own_d16_5) _ ?_
    show Steps p.tables e below (T1.setTop (mkF m 6 #[rv r, iv 0] [(.ref o0)])) _
    jvm_step X1.here [X1.here.top, hx, (hb hby own_d16_6), X1.method', Bd.returns, Value.isRef, FieldType.isReference]
    first | (intro acts; rw [hr _ acts rfl rfl rfl]) | rw [hr _ _ rfl rfl rfl]
    exact Steps.refl _
  · show own_rop0_Q Z w_CHARACTER w_SPLIT w_JUMP w_TEXT_START w_LINE_START w_TEXT_END w_LINE_END w_SAVE w_BACK_REFERENCE w_MARK w_PROGRESS w_MATCH w_NOTHING w_DE k_DE r xo xf xs k1 k2 k3 o0 f0 s0 o1 f1 s1 h0 n0 _ T1.heap _
    rw [e1]
    exact ⟨rfl, N0, rfl⟩
theorem own_rop1_ef (m : MethodId) (r : Addr) : entryFrame m #[(.ref r), (.int 1)] 2 = mkF m 0 #[rv r, iv 1] [] := by first | (simp [entryFrame, mkF, argsToLocals, Value.category]; done) | rfl
def own_rop1_Q (Z : State) (w_CHARACTER : Addr) (w_SPLIT : Addr) (w_JUMP : Addr) (w_TEXT_START : Addr) (w_LINE_START : Addr) (w_TEXT_END : Addr) (w_LINE_END : Addr) (w_SAVE : Addr) (w_BACK_REFERENCE : Addr) (w_MARK : Addr) (w_PROGRESS : Addr) (w_MATCH : Addr) (w_NOTHING : Addr) (w_DE : Addr) (k_DE : ClassId) (r : Addr) (xo : Addr) (xf : Addr) (xs : Addr) (k1 : ClassId) (k2 : ClassId) (k3 : ClassId) (o0 : Addr) (f0 : Int32) (s0 : Int32) (o1 : Addr) (f1 : Int32) (s1 : Int32) (h0 : Heap) (n0 : Nat) (v : Option Value) (h : Heap) (L : List Loc) : Prop := v = some (.ref o1) ∧ Fr n0 L ∧ h = h0
set_option maxRecDepth 65536 in
set_option maxHeartbeats 40000000 in
theorem own_rop1 (l : Launch) (Z : State) (a0 : Array Value) (hw : ∀ d ∈ tables_1, d.before a0 Z = true) (ws : List Jvm.Cond) (w_CHARACTER : Addr) (w_SPLIT : Addr) (w_JUMP : Addr) (w_TEXT_START : Addr) (w_LINE_START : Addr) (w_TEXT_END : Addr) (w_LINE_END : Addr) (w_SAVE : Addr) (w_BACK_REFERENCE : Addr) (w_MARK : Addr) (w_PROGRESS : Addr) (w_MATCH : Addr) (w_NOTHING : Addr) (w_DE : Addr) (k_DE : ClassId) (r : Addr) (xo : Addr) (xf : Addr) (xs : Addr) (k1 : ClassId) (k2 : ClassId) (k3 : ClassId) (o0 : Addr) (f0 : Int32) (s0 : Int32) (o1 : Addr) (f1 : Int32) (s1 : Int32) (h0 : Heap) (n0 : Nat) (O0 : Old Z n0 h0) (U_CHARACTER : own_En Z Z.heap "com/example/quillgraph/quillgraph/sparql/RegexProgram$Op" "CHARACTER" "Lcom/example/quillgraph/quillgraph/sparql/RegexProgram$Op;" w_CHARACTER (0 : Int32)) (U_SPLIT : own_En Z Z.heap "com/example/quillgraph/quillgraph/sparql/RegexProgram$Op" "SPLIT" "Lcom/example/quillgraph/quillgraph/sparql/RegexProgram$Op;" w_SPLIT (1 : Int32)) (U_JUMP : own_En Z Z.heap "com/example/quillgraph/quillgraph/sparql/RegexProgram$Op" "JUMP" "Lcom/example/quillgraph/quillgraph/sparql/RegexProgram$Op;" w_JUMP (2 : Int32)) (U_TEXT_START : own_En Z Z.heap "com/example/quillgraph/quillgraph/sparql/RegexProgram$Op" "TEXT_START" "Lcom/example/quillgraph/quillgraph/sparql/RegexProgram$Op;" w_TEXT_START (3 : Int32)) (U_LINE_START : own_En Z Z.heap "com/example/quillgraph/quillgraph/sparql/RegexProgram$Op" "LINE_START" "Lcom/example/quillgraph/quillgraph/sparql/RegexProgram$Op;" w_LINE_START (4 : Int32)) (U_TEXT_END : own_En Z Z.heap "com/example/quillgraph/quillgraph/sparql/RegexProgram$Op" "TEXT_END" "Lcom/example/quillgraph/quillgraph/sparql/RegexProgram$Op;" w_TEXT_END (5 : Int32)) (U_LINE_END : own_En Z Z.heap "com/example/quillgraph/quillgraph/sparql/RegexProgram$Op" "LINE_END" "Lcom/example/quillgraph/quillgraph/sparql/RegexProgram$Op;" w_LINE_END (6 : Int32)) (U_SAVE : own_En Z Z.heap "com/example/quillgraph/quillgraph/sparql/RegexProgram$Op" "SAVE" "Lcom/example/quillgraph/quillgraph/sparql/RegexProgram$Op;" w_SAVE (7 : Int32)) (U_BACK_REFERENCE : own_En Z Z.heap "com/example/quillgraph/quillgraph/sparql/RegexProgram$Op" "BACK_REFERENCE" "Lcom/example/quillgraph/quillgraph/sparql/RegexProgram$Op;" w_BACK_REFERENCE (8 : Int32)) (U_MARK : own_En Z Z.heap "com/example/quillgraph/quillgraph/sparql/RegexProgram$Op" "MARK" "Lcom/example/quillgraph/quillgraph/sparql/RegexProgram$Op;" w_MARK (9 : Int32)) (U_PROGRESS : own_En Z Z.heap "com/example/quillgraph/quillgraph/sparql/RegexProgram$Op" "PROGRESS" "Lcom/example/quillgraph/quillgraph/sparql/RegexProgram$Op;" w_PROGRESS (10 : Int32)) (U_MATCH : own_En Z Z.heap "com/example/quillgraph/quillgraph/sparql/RegexProgram$Op" "MATCH" "Lcom/example/quillgraph/quillgraph/sparql/RegexProgram$Op;" w_MATCH (11 : Int32)) (U_NOTHING : own_En Z Z.heap "com/example/quillgraph/quillgraph/sparql/RegexProgram$Op" "NOTHING" "Lcom/example/quillgraph/quillgraph/sparql/RegexProgram$Op;" w_NOTHING (12 : Int32)) (S_DE : Sta Z Z.heap "java/util/ArrayList" "DEFAULTCAPACITY_EMPTY_ELEMENTDATA" "[Ljava/lang/Object;" (.ref w_DE)) (V_DE : Arv Z Z.heap w_DE k_DE (.object "java/lang/Object") (0 : Int32) [] .null) (F_ops : Fld Z h0 r "com/example/quillgraph/quillgraph/sparql/RegexProgram" "ops" "[Lcom/example/quillgraph/quillgraph/sparql/RegexProgram$Op;" (.ref xo)) (F_first : Fld Z h0 r "com/example/quillgraph/quillgraph/sparql/RegexProgram" "first" "[I" (.ref xf)) (F_second : Fld Z h0 r "com/example/quillgraph/quillgraph/sparql/RegexProgram" "second" "[I" (.ref xs)) (V_xo : Arv Z h0 xo k1 (.object "com/example/quillgraph/quillgraph/sparql/RegexProgram$Op") (3 : Int32) [(.ref o0), (.ref o1), (.ref w_MATCH)] .null) (V_xf : Arv Z h0 xf k2 .int (3 : Int32) [(.int f0), (.int f1), (.int 0)] (.int 0)) (V_xs : Arv Z h0 xs k3 .int (3 : Int32) [(.int s0), (.int s1), (.int 0)] (.int 0)) :
    MetFree l (⟨"com/example/quillgraph/quillgraph/sparql/RegexProgram", "op", "(I)Lcom/example/quillgraph/quillgraph/sparql/RegexProgram$Op;"⟩ : MethodName) (head1 (Jvm.Cond.code (⟨"com/example/quillgraph/quillgraph/sparql/RegexProgram", "op", "(I)Lcom/example/quillgraph/quillgraph/sparql/RegexProgram$Op;"⟩ : MethodName) prog_116_method_3_code 2 (some (.object "com/example/quillgraph/quillgraph/sparql/RegexProgram$Op")) :: ws) ({ frames := 0, cells := 0, slots := 0, locals := 0 } : Room)) (fun ar U => ar = #[(.ref r), (.int 1)] ∧ Z.Warmed39 U.vm ∧ U.heap = h0) (fun _ _ _ _ _ => True) (fun _ U oc U' => ∃ v L, oc = .returned v ∧ own_rop1_Q Z w_CHARACTER w_SPLIT w_JUMP w_TEXT_START w_LINE_START w_TEXT_END w_LINE_END w_SAVE w_BACK_REFERENCE w_MARK w_PROGRESS w_MATCH w_NOTHING w_DE k_DE r xo xf xs k1 k2 k3 o0 f0 s0 o1 f1 s1 h0 n0 v U'.heap L ∧ FrameEnd U oc U' L ({ frames := 0, cells := 0, slots := 0, locals := 0 } : Room).cells ({ frames := 0, cells := 0, slots := 0, locals := 0 } : Room).slots) := by
  refine MetFree.of_bodySF (plainFor_of_name own_pn5) hisR ?_
  intro p e s m args below meth c s₁ Bd hml0 hP hK
  obtain ⟨rfl, hZ, hh⟩ := hP
  have hx := Bd.exec
  have hby := Bd.bytes
  have hml : c.maxLocals = 2 := hml0
  have hown : s.vm.findClass "com/example/quillgraph/quillgraph/sparql/RegexProgram" = some m.cls := findClass_of_methodNamed Bd.named
  have hnm := (name_of_methodNamed Bd.named Bd.method).1
  have X0 : Stand p l e ({ frames := 0, cells := 0, slots := 0, locals := 0 } : Room) s m #[(.ref r), (.int 1)] below meth c s₁ [] 0 0 := Stand.of_body Bd
  have e0 : s₁.heap = h0 := by rw [← hh, Bd.state]; rfl
  have N0 := Fr.nil n0
  have pre0 : ∀ t, Steps p.tables e below (s₁.setTop (mkF m 0 #[rv r, iv 1] [])) t → Steps p.tables e below (s₁.setTop (entryFrame m #[(.ref r), (.int 1)] 2)) t := fun t k => castTop (own_rop1_ef m r) k
  obtain ⟨T1, X1, e1, st1⟩ := getF X0 hx hZ hown (host := "") (Or.inl (hw _ (own_m 131 rfl))) Via.refl e0 F_ops (g := (mkF m 1 #[rv r, iv 1] [(.ref r)])) rfl rfl (hb hby own_d16_1)
  obtain ⟨c2, c2A, c2q, c2S, c2N, c2H, c2G⟩ := id V_xo
  have c2in : ¬ ((1 : Int32) < 0 ∨ c2.slots.size ≤ ((1 : Int32)).toNatClampNeg) := inb_of c2S ⟨by decide, by decide⟩
  have c2at : c2.slots[((1 : Int32)).toNatClampNeg]? = some (.ref o1) := Has.at c2H c2in rfl
  obtain ⟨fs, hr, hrun, hended, hW, hsame⟩ := X1.leave (v := some (.ref o1)) (fun h => by rw [Bd.returns] at h; cases h)
  refine ⟨_, _, pre0 _ ?_, hrun, hended, _, _, rfl, ?_, ⟨_, rfl⟩, hW, hsame.mono (by decide) (by decide)⟩
  · show Steps p.tables e below (s₁.setTop (mkF m 0 #[rv r, iv 1] [])) _
    refine XS.aloadN X0.here hx rfl (hb hby own_d16_0) rfl rfl ?_
    show Steps p.tables e below (s₁.setTop (mkF m 1 #[rv r, iv 1] [(.ref r)])) _
    refine st1 _ ?_
    show Steps p.tables e below (T1.setTop (mkF m 4 #[rv r, iv 1] [(.ref xo)])) _
    refine XS.iloadN X1.here hx rfl (hb hby own_d16_4) rfl ?_
    show Steps p.tables e below (T1.setTop (mkF m 5 #[rv r, iv 1] [(.int 1), (.ref xo)])) _
    refine X1.aaload hx (j := (1 : Int32)) (v := (.ref o1)) (by rw [e1]; exact c2A.1) (State.isArrayOf_alike hZ.alike c2A.2.1) rfl c2A.2.2 c2in c2at (g := (mkF m 5 #[rv r, iv 1] [(.int 1), (.ref xo)])) rfl rfl (hb hby own_d16_5) _ ?_
    show Steps p.tables e below (T1.setTop (mkF m 6 #[rv r, iv 1] [(.ref o1)])) _
    jvm_step X1.here [X1.here.top, hx, (hb hby own_d16_6), X1.method', Bd.returns, Value.isRef, FieldType.isReference]
    first | (intro acts; rw [hr _ acts rfl rfl rfl]) | rw [hr _ _ rfl rfl rfl]
    exact Steps.refl _
  · show own_rop1_Q Z w_CHARACTER w_SPLIT w_JUMP w_TEXT_START w_LINE_START w_TEXT_END w_LINE_END w_SAVE w_BACK_REFERENCE w_MARK w_PROGRESS w_MATCH w_NOTHING w_DE k_DE r xo xf xs k1 k2 k3 o0 f0 s0 o1 f1 s1 h0 n0 _ T1.heap _
    rw [e1]
    exact ⟨rfl, N0, rfl⟩
theorem own_rfirst0_ef (m : MethodId) (r : Addr) : entryFrame m #[(.ref r), (.int 0)] 2 = mkF m 0 #[rv r, iv 0] [] := by first | (simp [entryFrame, mkF, argsToLocals, Value.category]; done) | rfl
def own_rfirst0_Q (Z : State) (w_CHARACTER : Addr) (w_SPLIT : Addr) (w_JUMP : Addr) (w_TEXT_START : Addr) (w_LINE_START : Addr) (w_TEXT_END : Addr) (w_LINE_END : Addr) (w_SAVE : Addr) (w_BACK_REFERENCE : Addr) (w_MARK : Addr) (w_PROGRESS : Addr) (w_MATCH : Addr) (w_NOTHING : Addr) (w_DE : Addr) (k_DE : ClassId) (r : Addr) (xo : Addr) (xf : Addr) (xs : Addr) (k1 : ClassId) (k2 : ClassId) (k3 : ClassId) (o0 : Addr) (f0 : Int32) (s0 : Int32) (o1 : Addr) (f1 : Int32) (s1 : Int32) (h0 : Heap) (n0 : Nat) (v : Option Value) (h : Heap) (L : List Loc) : Prop := v = some (.int f0) ∧ Fr n0 L ∧ h = h0
set_option maxRecDepth 65536 in
set_option maxHeartbeats 40000000 in
theorem own_rfirst0 (l : Launch) (Z : State) (a0 : Array Value) (hw : ∀ d ∈ tables_1, d.before a0 Z = true) (ws : List Jvm.Cond) (w_CHARACTER : Addr) (w_SPLIT : Addr) (w_JUMP : Addr) (w_TEXT_START : Addr) (w_LINE_START : Addr) (w_TEXT_END : Addr) (w_LINE_END : Addr) (w_SAVE : Addr) (w_BACK_REFERENCE : Addr) (w_MARK : Addr) (w_PROGRESS : Addr) (w_MATCH : Addr) (w_NOTHING : Addr) (w_DE : Addr) (k_DE : ClassId) (r : Addr) (xo : Addr) (xf : Addr) (xs : Addr) (k1 : ClassId) (k2 : ClassId) (k3 : ClassId) (o0 : Addr) (f0 : Int32) (s0 : Int32) (o1 : Addr) (f1 : Int32) (s1 : Int32) (h0 : Heap) (n0 : Nat) (O0 : Old Z n0 h0) (U_CHARACTER : own_En Z Z.heap "com/example/quillgraph/quillgraph/sparql/RegexProgram$Op" "CHARACTER" "Lcom/example/quillgraph/quillgraph/sparql/RegexProgram$Op;" w_CHARACTER (0 : Int32)) (U_SPLIT : own_En Z Z.heap "com/example/quillgraph/quillgraph/sparql/RegexProgram$Op" "SPLIT" "Lcom/example/quillgraph/quillgraph/sparql/RegexProgram$Op;" w_SPLIT (1 : Int32)) (U_JUMP : own_En Z Z.heap "com/example/quillgraph/quillgraph/sparql/RegexProgram$Op" "JUMP" "Lcom/example/quillgraph/quillgraph/sparql/RegexProgram$Op;" w_JUMP (2 : Int32)) (U_TEXT_START : own_En Z Z.heap "com/example/quillgraph/quillgraph/sparql/RegexProgram$Op" "TEXT_START" "Lcom/example/quillgraph/quillgraph/sparql/RegexProgram$Op;" w_TEXT_START (3 : Int32)) (U_LINE_START : own_En Z Z.heap "com/example/quillgraph/quillgraph/sparql/RegexProgram$Op" "LINE_START" "Lcom/example/quillgraph/quillgraph/sparql/RegexProgram$Op;" w_LINE_START (4 : Int32)) (U_TEXT_END : own_En Z Z.heap "com/example/quillgraph/quillgraph/sparql/RegexProgram$Op" "TEXT_END" "Lcom/example/quillgraph/quillgraph/sparql/RegexProgram$Op;" w_TEXT_END (5 : Int32)) (U_LINE_END : own_En Z Z.heap "com/example/quillgraph/quillgraph/sparql/RegexProgram$Op" "LINE_END" "Lcom/example/quillgraph/quillgraph/sparql/RegexProgram$Op;" w_LINE_END (6 : Int32)) (U_SAVE : own_En Z Z.heap "com/example/quillgraph/quillgraph/sparql/RegexProgram$Op" "SAVE" "Lcom/example/quillgraph/quillgraph/sparql/RegexProgram$Op;" w_SAVE (7 : Int32)) (U_BACK_REFERENCE : own_En Z Z.heap "com/example/quillgraph/quillgraph/sparql/RegexProgram$Op" "BACK_REFERENCE" "Lcom/example/quillgraph/quillgraph/sparql/RegexProgram$Op;" w_BACK_REFERENCE (8 : Int32)) (U_MARK : own_En Z Z.heap "com/example/quillgraph/quillgraph/sparql/RegexProgram$Op" "MARK" "Lcom/example/quillgraph/quillgraph/sparql/RegexProgram$Op;" w_MARK (9 : Int32)) (U_PROGRESS : own_En Z Z.heap "com/example/quillgraph/quillgraph/sparql/RegexProgram$Op" "PROGRESS" "Lcom/example/quillgraph/quillgraph/sparql/RegexProgram$Op;" w_PROGRESS (10 : Int32)) (U_MATCH : own_En Z Z.heap "com/example/quillgraph/quillgraph/sparql/RegexProgram$Op" "MATCH" "Lcom/example/quillgraph/quillgraph/sparql/RegexProgram$Op;" w_MATCH (11 : Int32)) (U_NOTHING : own_En Z Z.heap "com/example/quillgraph/quillgraph/sparql/RegexProgram$Op" "NOTHING" "Lcom/example/quillgraph/quillgraph/sparql/RegexProgram$Op;" w_NOTHING (12 : Int32)) (S_DE : Sta Z Z.heap "java/util/ArrayList" "DEFAULTCAPACITY_EMPTY_ELEMENTDATA" "[Ljava/lang/Object;" (.ref w_DE)) (V_DE : Arv Z Z.heap w_DE k_DE (.object "java/lang/Object") (0 : Int32) [] .null) (F_ops : Fld Z h0 r "com/example/quillgraph/quillgraph/sparql/RegexProgram" "ops" "[Lcom/example/quillgraph/quillgraph/sparql/RegexProgram$Op;" (.ref xo)) (F_first : Fld Z h0 r "com/example/quillgraph/quillgraph/sparql/RegexProgram" "first" "[I" (.ref xf)) (F_second : Fld Z h0 r "com/example/quillgraph/quillgraph/sparql/RegexProgram" "second" "[I" (.ref xs)) (V_xo : Arv Z h0 xo k1 (.object "com/example/quillgraph/quillgraph/sparql/RegexProgram$Op") (3 : Int32) [(.ref o0), (.ref o1), (.ref w_MATCH)] .null) (V_xf : Arv Z h0 xf k2 .int (3 : Int32) [(.int f0), (.int f1), (.int 0)] (.int 0)) (V_xs : Arv Z h0 xs k3 .int (3 : Int32) [(.int s0), (.int s1), (.int 0)] (.int 0)) :
    MetFree l (⟨"com/example/quillgraph/quillgraph/sparql/RegexProgram", "first", "(I)I"⟩ : MethodName) (head1 (Jvm.Cond.code (⟨"com/example/quillgraph/quillgraph/sparql/RegexProgram", "first", "(I)I"⟩ : MethodName) prog_116_method_4_code 2 (some .int) :: ws) ({ frames := 0, cells := 0, slots := 0, locals := 0 } : Room)) (fun ar U => ar = #[(.ref r), (.int 0)] ∧ Z.Warmed39 U.vm ∧ U.heap = h0) (fun _ _ _ _ _ => True) (fun _ U oc U' => ∃ v L, oc = .returned v ∧ own_rfirst0_Q Z w_CHARACTER w_SPLIT w_JUMP w_TEXT_START w_LINE_START w_TEXT_END w_LINE_END w_SAVE w_BACK_REFERENCE w_MARK w_PROGRESS w_MATCH w_NOTHING w_DE k_DE r xo xf xs k1 k2 k3 o0 f0 s0 o1 f1 s1 h0 n0 v U'.heap L ∧ FrameEnd U oc U' L ({ frames := 0, cells := 0, slots := 0, locals := 0 } : Room).cells ({ frames := 0, cells := 0, slots := 0, locals := 0 } : Room).slots) := by
  refine MetFree.of_bodySF (plainFor_of_name own_pn5) hisR ?_
  intro p e s m args below meth c s₁ Bd hml0 hP hK
  obtain ⟨rfl, hZ, hh⟩ := hP
  have hx := Bd.exec
  have hby := Bd.bytes
  have hml : c.maxLocals = 2 := hml0
  have hown : s.vm.findClass "com/example/quillgraph/quillgraph/sparql/RegexProgram" = some m.cls := findClass_of_methodNamed Bd.named
  have hnm := (name_of_methodNamed Bd.named Bd.method).1
  have X0 : Stand p l e ({ frames := 0, cells := 0, slots := 0, locals := 0 } : Room) s m #[(.ref r), (.int 0)] below meth c s₁ [] 0 0 := Stand.of_body Bd
  have e0 : s₁.heap = h0 := by rw [← hh, Bd.state]; rfl
  have N0 := Fr.nil n0
  have pre0 : ∀ t, Steps p.tables e below (s₁.setTop (mkF m 0 #[rv r, iv 0] [])) t → Steps p.tables e below (s₁.setTop (entryFrame m #[(.ref r), (.int 0)] 2)) t := fun t k => castTop (own_rfirst0_ef m r) k
  obtain ⟨T1, X1, e1, st1⟩ := getF X0 hx hZ hown (host := "") (Or.inl (hw _ (own_m 133 rfl))) Via.refl e0 F_first (g := (mkF m 1 #[rv r, iv 0] [(.ref r)])) rfl rfl (hb hby own_d17_1)
  obtain ⟨c2, c2A, c2q, c2S, c2N, c2H, c2G⟩ := id V_xf
  have c2in : ¬ ((0 : Int32) < 0 ∨ c2.slots.size ≤ ((0 : Int32)).toNatClampNeg) := inb_of c2S ⟨by decide, by decide⟩
  have c2at : c2.slots[((0 : Int32)).toNatClampNeg]? = some (.int f0) := Has.at c2H c2in rfl
  obtain ⟨fs, hr, hrun, hended, hW, hsame⟩ := X1.leave (v := some (.int f0)) (fun h => by rw [Bd.returns] at h; cases h)
  refine ⟨_, _, pre0 _ ?_, hrun, hended, _, _, rfl, ?_, ⟨_, rfl⟩, hW, hsame.mono (by decide) (by decide)⟩
  · show Steps p.tables e below (s₁.setTop (mkF m 0 #[rv r, iv 0] [])) _
    refine XS.aloadN X0.here hx rfl (hb hby own_d17_0) rfl rfl ?_
    show Steps p.tables e below (s₁.setTop (mkF m 1 #[rv r, iv 0] [(.ref r)])) _
    refine st1 _ ?_
    show Steps p.tables e below (T1.setTop (mkF m 4 #[rv r, iv 0] [(.ref xf)])) _
    refine XS.iloadN X1.here hx rfl (hb hby own_d17_4) rfl ?_
    show Steps p.tables e below (T1.setTop (mkF m 5 #[rv r, iv 0] [(.int 0), (.ref xf)])) _
    refine X1.iaload hx (j := (0 : Int32)) (v := (.int f0)) (by rw [e1]; exact c2A.1) (State.isArrayOf_alike hZ.alike c2A.2.1) c2A.2.2 c2in c2at (g := (mkF m 5 #[rv r, iv 0] [(.int 0), (.ref xf)])) rfl rfl (hb hby own_d17_5) _ ?_
    show Steps p.tables e below (T1.setTop (mkF m 6 #[rv r, iv 0] [(.int f0)])) _
    exact retI X1 hx Bd.returns (hb hby own_d17_6) hr
  · show own_rfirst0_Q Z w_CHARACTER w_SPLIT w_JUMP w_TEXT_START w_LINE_START w_TEXT_END w_LINE_END w_SAVE w_BACK_REFERENCE w_MARK w_PROGRESS w_MATCH w_NOTHING w_DE k_DE r xo xf xs k1 k2 k3 o0 f0 s0 o1 f1 s1 h0 n0 _ T1.heap _
    rw [e1]
    exact ⟨rfl, N0, rfl⟩
theorem own_rfirst1_ef (m : MethodId) (r : Addr) : entryFrame m #[(.ref r), (.int 1)] 2 = mkF m 0 #[rv r, iv 1] [] := by first | (simp [entryFrame, mkF, argsToLocals, Value.category]; done) | rfl
def own_rfirst1_Q (Z : State) (w_CHARACTER : Addr) (w_SPLIT : Addr) (w_JUMP : Addr) (w_TEXT_START : Addr) (w_LINE_START : Addr) (w_TEXT_END : Addr) (w_LINE_END : Addr) (w_SAVE : Addr) (w_BACK_REFERENCE : Addr) (w_MARK : Addr) (w_PROGRESS : Addr) (w_MATCH : Addr) (w_NOTHING : Addr) (w_DE : Addr) (k_DE : ClassId) (r : Addr) (xo : Addr) (xf : Addr) (xs : Addr) (k1 : ClassId) (k2 : ClassId) (k3 : ClassId) (o0 : Addr) (f0 : Int32) (s0 : Int32) (o1 : Addr) (f1 : Int32) (s1 : Int32) (h0 : Heap) (n0 : Nat) (v : Option Value) (h : Heap) (L : List Loc) : Prop := v = some (.int f1) ∧ Fr n0 L ∧ h = h0
set_option maxRecDepth 65536 in
set_option maxHeartbeats 40000000 in
theorem own_rfirst1 (l : Launch) (Z : State) (a0 : Array Value) (hw : ∀ d ∈ tables_1, d.before a0 Z = true) (ws : List Jvm.Cond) (w_CHARACTER : Addr) (w_SPLIT : Addr) (w_JUMP : Addr) (w_TEXT_START : Addr) (w_LINE_START : Addr) (w_TEXT_END : Addr) (w_LINE_END : Addr) (w_SAVE : Addr) (w_BACK_REFERENCE : Addr) (w_MARK : Addr) (w_PROGRESS : Addr) (w_MATCH : Addr) (w_NOTHING : Addr) (w_DE : Addr) (k_DE : ClassId) (r : Addr) (xo : Addr) (xf : Addr) (xs : Addr) (k1 : ClassId) (k2 : ClassId) (k3 : ClassId) (o0 : Addr) (f0 : Int32) (s0 : Int32) (o1 : Addr) (f1 : Int32) (s1 : Int32) (h0 : Heap) (n0 : Nat) (O0 : Old Z n0 h0) (U_CHARACTER : own_En Z Z.heap "com/example/quillgraph/quillgraph/sparql/RegexProgram$Op" "CHARACTER" "Lcom/example/quillgraph/quillgraph/sparql/RegexProgram$Op;" w_CHARACTER (0 : Int32)) (U_SPLIT : own_En Z Z.heap "com/example/quillgraph/quillgraph/sparql/RegexProgram$Op" "SPLIT" "Lcom/example/quillgraph/quillgraph/sparql/RegexProgram$Op;" w_SPLIT (1 : Int32)) (U_JUMP : own_En Z Z.heap "com/example/quillgraph/quillgraph/sparql/RegexProgram$Op" "JUMP" "Lcom/example/quillgraph/quillgraph/sparql/RegexProgram$Op;" w_JUMP (2 : Int32)) (U_TEXT_START : own_En Z Z.heap "com/example/quillgraph/quillgraph/sparql/RegexProgram$Op" "TEXT_START" "Lcom/example/quillgraph/quillgraph/sparql/RegexProgram$Op;" w_TEXT_START (3 : Int32)) (U_LINE_START : own_En Z Z.heap "com/example/quillgraph/quillgraph/sparql/RegexProgram$Op" "LINE_START" "Lcom/example/quillgraph/quillgraph/sparql/RegexProgram$Op;" w_LINE_START (4 : Int32)) (U_TEXT_END : own_En Z Z.heap "com/example/quillgraph/quillgraph/sparql/RegexProgram$Op" "TEXT_END" "Lcom/example/quillgraph/quillgraph/sparql/RegexProgram$Op;" w_TEXT_END (5 : Int32)) (U_LINE_END : own_En Z Z.heap "com/example/quillgraph/quillgraph/sparql/RegexProgram$Op" "LINE_END" "Lcom/example/quillgraph/quillgraph/sparql/RegexProgram$Op;" w_LINE_END (6 : Int32)) (U_SAVE : own_En Z Z.heap "com/example/quillgraph/quillgraph/sparql/RegexProgram$Op" "SAVE" "Lcom/example/quillgraph/quillgraph/sparql/RegexProgram$Op;" w_SAVE (7 : Int32)) (U_BACK_REFERENCE : own_En Z Z.heap "com/example/quillgraph/quillgraph/sparql/RegexProgram$Op" "BACK_REFERENCE" "Lcom/example/quillgraph/quillgraph/sparql/RegexProgram$Op;" w_BACK_REFERENCE (8 : Int32)) (U_MARK : own_En Z Z.heap "com/example/quillgraph/quillgraph/sparql/RegexProgram$Op" "MARK" "Lcom/example/quillgraph/quillgraph/sparql/RegexProgram$Op;" w_MARK (9 : Int32)) (U_PROGRESS : own_En Z Z.heap "com/example/quillgraph/quillgraph/sparql/RegexProgram$Op" "PROGRESS" "Lcom/example/quillgraph/quillgraph/sparql/RegexProgram$Op;" w_PROGRESS (10 : Int32)) (U_MATCH : own_En Z Z.heap "com/example/quillgraph/quillgraph/sparql/RegexProgram$Op" "MATCH" "Lcom/example/quillgraph/quillgraph/sparql/RegexProgram$Op;" w_MATCH (11 : Int32)) (U_NOTHING : own_En Z Z.heap "com/example/quillgraph/quillgraph/sparql/RegexProgram$Op" "NOTHING" "Lcom/example/quillgraph/quillgraph/sparql/RegexProgram$Op;" w_NOTHING (12 : Int32)) (S_DE : Sta Z Z.heap "java/util/ArrayList" "DEFAULTCAPACITY_EMPTY_ELEMENTDATA" "[Ljava/lang/Object;" (.ref w_DE)) (V_DE : Arv Z Z.heap w_DE k_DE (.object "java/lang/Object") (0 : Int32) [] .null) (F_ops : Fld Z h0 r "com/example/quillgraph/quillgraph/sparql/RegexProgram" "ops" "[Lcom/example/quillgraph/quillgraph/sparql/RegexProgram$Op;" (.ref xo)) (F_first : Fld Z h0 r "com/example/quillgraph/quillgraph/sparql/RegexProgram" "first" "[I" (.ref xf)) (F_second : Fld Z h0 r "com/example/quillgraph/quillgraph/sparql/RegexProgram" "second" "[I" (.ref xs)) (V_xo : Arv Z h0 xo k1 (.object "com/example/quillgraph/quillgraph/sparql/RegexProgram$Op") (3 : Int32) [(.ref o0), (.ref o1), (.ref w_MATCH)] .null) (V_xf : Arv Z h0 xf k2 .int (3 : Int32) [(.int f0), (.int f1), (.int 0)] (.int 0)) (V_xs : Arv Z h0 xs k3 .int (3 : Int32) [(.int s0), (.int s1), (.int 0)] (.int 0)) :
    MetFree l (⟨"com/example/quillgraph/quillgraph/sparql/RegexProgram", "first", "(I)I"⟩ : MethodName) (head1 (Jvm.Cond.code (⟨"com/example/quillgraph/quillgraph/sparql/RegexProgram", "first", "(I)I"⟩ : MethodName) prog_116_method_4_code 2 (some .int) :: ws) ({ frames := 0, cells := 0, slots := 0, locals := 0 } : Room)) (fun ar U => ar = #[(.ref r), (.int 1)] ∧ Z.Warmed39 U.vm ∧ U.heap = h0) (fun _ _ _ _ _ => True) (fun _ U oc U' => ∃ v L, oc = .returned v ∧ own_rfirst1_Q Z w_CHARACTER w_SPLIT w_JUMP w_TEXT_START w_LINE_START w_TEXT_END w_LINE_END w_SAVE w_BACK_REFERENCE w_MARK w_PROGRESS w_MATCH w_NOTHING w_DE k_DE r xo xf xs k1 k2 k3 o0 f0 s0 o1 f1 s1 h0 n0 v U'.heap L ∧ FrameEnd U oc U' L ({ frames := 0, cells := 0, slots := 0, locals := 0 } : Room).cells ({ frames := 0, cells := 0, slots := 0, locals := 0 } : Room).slots) := by
  refine MetFree.of_bodySF (plainFor_of_name own_pn5) hisR ?_
  intro p e s m args below meth c s₁ Bd hml0 hP hK
  obtain ⟨rfl, hZ, hh⟩ := hP
  have hx := Bd.exec
  have hby := Bd.bytes
  have hml : c.maxLocals = 2 := hml0
  have hown : s.vm.findClass "com/example/quillgraph/quillgraph/sparql/RegexProgram" = some m.cls := findClass_of_methodNamed Bd.named
  have hnm := (name_of_methodNamed Bd.named Bd.method).1
  have X0 : Stand p l e ({ frames := 0, cells := 0, slots := 0, locals := 0 } : Room) s m #[(.ref r), (.int 1)] below meth c s₁ [] 0 0 := Stand.of_body Bd
  have e0 : s₁.heap = h0 := by rw [← hh, Bd.state]; rfl
  have N0 := Fr.nil n0
  have pre0 : ∀ t, Steps p.tables e below (s₁.setTop (mkF m 0 #[rv r, iv 1] [])) t → Steps p.tables e below (s₁.setTop (entryFrame m #[(.ref r), (.int 1)] 2)) t := fun t k => castTop (own_rfirst1_ef m r) k
  obtain ⟨T1, X1, e1, st1⟩ := getF X0 hx hZ hown (host := "") (Or.inl (hw _ (own_m 133 rfl))) Via.refl e0 F_first (g := (mkF m 1 #[rv r, iv 1] [(.ref r)])) rfl rfl (hb hby own_d17_1)
  obtain ⟨c2, c2A, c2q, c2S, c2N, c2H, c2G⟩ := id V_xf
  have c2in : ¬ ((1 : Int32) < 0 ∨ c2.slots.size ≤ ((1 : Int32)).toNatClampNeg) := inb_of c2S ⟨by decide, by decide⟩
  have c2at : c2.slots[((1 : Int32)).toNatClampNeg]? = some (.int f1) := Has.at c2H c2in rfl
  obtain ⟨fs, hr, hrun, hended, hW, hsame⟩ := X1.leave (v := some (.int f1)) (fun h => by rw [Bd.returns] at h; cases h)
  refine ⟨_, _, pre0 _ ?_, hrun, hended, _, _, rfl, ?_, ⟨_, rfl⟩, hW, hsame.mono (by decide) (by decide)⟩
  · show Steps p.tables e below (s₁.setTop (mkF m 0 #[rv r, iv 1] [])) _
    refine XS.aloadN X0.here hx rfl (hb hby own_d17_0) rfl rfl ?_
    show Steps p.tables e below (s₁.setTop (mkF m 1 #[rv r, iv 1] [(.ref r)])) _
    refine st1 _ ?_
    show Steps p.tables e below (T1.setTop (mkF m 4 #[rv r, iv 1] [(.ref xf)])) _
    refine XS.iloadN X1.here hx rfl (hb hby own_d17_4) rfl ?_
    show Steps p.tables e below (T1.setTop (mkF m 5 #[rv r, iv 1] [(.int 1), (.ref xf)])) _
    refine X1.iaload hx (j := (1 : Int32)) (v := (.int f1)) (by rw [e1]; exact c2A.1) (State.isArrayOf_alike hZ.alike c2A.2.1) c2A.2.2 c2in c2at (g := (mkF m 5 #[rv r, iv 1] [(.int 1), (.ref xf)])) rfl rfl (hb hby own_d17_5) _ ?_
    show Steps p.tables e below (T1.setTop (mkF m 6 #[rv r, iv 1] [(.int f1)])) _
    exact retI X1 hx Bd.returns (hb hby own_d17_6) hr
  · show own_rfirst1_Q Z w_CHARACTER w_SPLIT w_JUMP w_TEXT_START w_LINE_START w_TEXT_END w_LINE_END w_SAVE w_BACK_REFERENCE w_MARK w_PROGRESS w_MATCH w_NOTHING w_DE k_DE r xo xf xs k1 k2 k3 o0 f0 s0 o1 f1 s1 h0 n0 _ T1.heap _
    rw [e1]
    exact ⟨rfl, N0, rfl⟩
theorem own_rsecond0_ef (m : MethodId) (r : Addr) : entryFrame m #[(.ref r), (.int 0)] 2 = mkF m 0 #[rv r, iv 0] [] := by first | (simp [entryFrame, mkF, argsToLocals, Value.category]; done) | rfl
def own_rsecond0_Q (Z : State) (w_CHARACTER : Addr) (w_SPLIT : Addr) (w_JUMP : Addr) (w_TEXT_START : Addr) (w_LINE_START : Addr) (w_TEXT_END : Addr) (w_LINE_END : Addr) (w_SAVE : Addr) (w_BACK_REFERENCE : Addr) (w_MARK : Addr) (w_PROGRESS : Addr) (w_MATCH : Addr) (w_NOTHING : Addr) (w_DE : Addr) (k_DE : ClassId) (r : Addr) (xo : Addr) (xf : Addr) (xs : Addr) (k1 : ClassId) (k2 : ClassId) (k3 : ClassId) (o0 : Addr) (f0 : Int32) (s0 : Int32) (o1 : Addr) (f1 : Int32) (s1 : Int32) (h0 : Heap) (n0 : Nat) (v : Option Value) (h : Heap) (L : List Loc) : Prop := v = some (.int s0) ∧ Fr n0 L ∧ h = h0
set_option maxRecDepth 65536 in
set_option maxHeartbeats 40000000 in
theorem own_rsecond0 (l : Launch) (Z : State) (a0 : Array Value) (hw : ∀ d ∈ tables_1, d.before a0 Z = true) (ws : List Jvm.Cond) (w_CHARACTER : Addr) (w_SPLIT : Addr) (w_JUMP : Addr) (w_TEXT_START : Addr) (w_LINE_START : Addr) (w_TEXT_END : Addr) (w_LINE_END : Addr) (w_SAVE : Addr) (w_BACK_REFERENCE : Addr) (w_MARK : Addr) (w_PROGRESS : Addr) (w_MATCH : Addr) (w_NOTHING : Addr) (w_DE : Addr) (k_DE : ClassId) (r : Addr) (xo : Addr) (xf : Addr) (xs : Addr) (k1 : ClassId) (k2 : ClassId) (k3 : ClassId) (o0 : Addr) (f0 : Int32) (s0 : Int32) (o1 : Addr) (f1 : Int32) (s1 : Int32) (h0 : Heap) (n0 : Nat) (O0 : Old Z n0 h0) (U_CHARACTER : own_En Z Z.heap "com/example/quillgraph/quillgraph/sparql/RegexProgram$Op" "CHARACTER" "Lcom/example/quillgraph/quillgraph/sparql/RegexProgram$Op;" w_CHARACTER (0 : Int32)) (U_SPLIT : own_En Z Z.heap "com/example/quillgraph/quillgraph/sparql/RegexProgram$Op" "SPLIT" "Lcom/example/quillgraph/quillgraph/sparql/RegexProgram$Op;" w_SPLIT (1 : Int32)) (U_JUMP : own_En Z Z.heap "com/example/quillgraph/quillgraph/sparql/RegexProgram$Op" "JUMP" "Lcom/example/quillgraph/quillgraph/sparql/RegexProgram$Op;" w_JUMP (2 : Int32)) (U_TEXT_START : own_En Z Z.heap "com/example/quillgraph/quillgraph/sparql/RegexProgram$Op" "TEXT_START" "Lcom/example/quillgraph/quillgraph/sparql/RegexProgram$Op;" w_TEXT_START (3 : Int32)) (U_LINE_START : own_En Z Z.heap "com/example/quillgraph/quillgraph/sparql/RegexProgram$Op" "LINE_START" "Lcom/example/quillgraph/quillgraph/sparql/RegexProgram$Op;" w_LINE_START (4 : Int32)) (U_TEXT_END : own_En Z Z.heap "com/example/quillgraph/quillgraph/sparql/RegexProgram$Op" "TEXT_END" "Lcom/example/quillgraph/quillgraph/sparql/RegexProgram$Op;" w_TEXT_END (5 : Int32)) (U_LINE_END : own_En Z Z.heap "com/example/quillgraph/quillgraph/sparql/RegexProgram$Op" "LINE_END" "Lcom/example/quillgraph/quillgraph/sparql/RegexProgram$Op;" w_LINE_END (6 : Int32)) (U_SAVE : own_En Z Z.heap "com/example/quillgraph/quillgraph/sparql/RegexProgram$Op" "SAVE" "Lcom/example/quillgraph/quillgraph/sparql/RegexProgram$Op;" w_SAVE (7 : Int32)) (U_BACK_REFERENCE : own_En Z Z.heap "com/example/quillgraph/quillgraph/sparql/RegexProgram$Op" "BACK_REFERENCE" "Lcom/example/quillgraph/quillgraph/sparql/RegexProgram$Op;" w_BACK_REFERENCE (8 : Int32)) (U_MARK : own_En Z Z.heap "com/example/quillgraph/quillgraph/sparql/RegexProgram$Op" "MARK" "Lcom/example/quillgraph/quillgraph/sparql/RegexProgram$Op;" w_MARK (9 : Int32)) (U_PROGRESS : own_En Z Z.heap "com/example/quillgraph/quillgraph/sparql/RegexProgram$Op" "PROGRESS" "Lcom/example/quillgraph/quillgraph/sparql/RegexProgram$Op;" w_PROGRESS (10 : Int32)) (U_MATCH : own_En Z Z.heap "com/example/quillgraph/quillgraph/sparql/RegexProgram$Op" "MATCH" "Lcom/example/quillgraph/quillgraph/sparql/RegexProgram$Op;" w_MATCH (11 : Int32)) (U_NOTHING : own_En Z Z.heap "com/example/quillgraph/quillgraph/sparql/RegexProgram$Op" "NOTHING" "Lcom/example/quillgraph/quillgraph/sparql/RegexProgram$Op;" w_NOTHING (12 : Int32)) (S_DE : Sta Z Z.heap "java/util/ArrayList" "DEFAULTCAPACITY_EMPTY_ELEMENTDATA" "[Ljava/lang/Object;" (.ref w_DE)) (V_DE : Arv Z Z.heap w_DE k_DE (.object "java/lang/Object") (0 : Int32) [] .null) (F_ops : Fld Z h0 r "com/example/quillgraph/quillgraph/sparql/RegexProgram" "ops" "[Lcom/example/quillgraph/quillgraph/sparql/RegexProgram$Op;" (.ref xo)) (F_first : Fld Z h0 r "com/example/quillgraph/quillgraph/sparql/RegexProgram" "first" "[I" (.ref xf)) (F_second : Fld Z h0 r "com/example/quillgraph/quillgraph/sparql/RegexProgram" "second" "[I" (.ref xs)) (V_xo : Arv Z h0 xo k1 (.object "com/example/quillgraph/quillgraph/sparql/RegexProgram$Op") (3 : Int32) [(.ref o0), (.ref o1), (.ref w_MATCH)] .null) (V_xf : Arv Z h0 xf k2 .int (3 : Int32) [(.int f0), (.int f1), (.int 0)] (.int 0)) (V_xs : Arv Z h0 xs k3 .int (3 : Int32) [(.int s0), (.int s1), (.int 0)] (.int 0)) :
    MetFree l (⟨"com/example/quillgraph/quillgraph/sparql/RegexProgram", "second", "(I)I"⟩ : MethodName) (head1 (Jvm.Cond.code (⟨"com/example/quillgraph/quillgraph/sparql/RegexProgram", "second", "(I)I"⟩ : MethodName) prog_116_method_5_code 2 (some .int) :: ws) ({ frames := 0, cells := 0, slots := 0, locals := 0 } : Room)) (fun ar U => ar = #[(.ref r), (.int 0)] ∧ Z.Warmed39 U.vm ∧ U.heap = h0) (fun _ _ _ _ _ => True) (fun _ U oc U' => ∃ v L, oc = .returned v ∧ own_rsecond0_Q Z w_CHARACTER w_SPLIT w_JUMP w_TEXT_START w_LINE_START w_TEXT_END w_LINE_END w_SAVE w_BACK_REFERENCE w_MARK w_PROGRESS w_MATCH w_NOTHING w_DE k_DE r xo xf xs k1 k2 k3 o0 f0 s0 o1 f1 s1 h0 n0 v U'.heap L ∧ FrameEnd U oc U' L ({ frames := 0, cells := 0, slots := 0, locals := 0 } : Room).cells ({ frames := 0, cells := 0, slots := 0, locals := 0 } : Room).slots) := by
  refine MetFree.of_bodySF (plainFor_of_name own_pn5) hisR ?_
  intro p e s m args below meth c s₁ Bd hml0 hP hK
  obtain ⟨rfl, hZ, hh⟩ := hP
  have hx := Bd.exec
  have hby := Bd.bytes
  have hml : c.maxLocals = 2 := hml0
  have hown : s.vm.findClass "com/example/quillgraph/quillgraph/sparql/RegexProgram" = some m.cls := findClass_of_methodNamed Bd.named
  have hnm := (name_of_methodNamed Bd.named Bd.method).1
  have X0 : Stand p l e ({ frames := 0, cells := 0, slots := 0, locals := 0 } : Room) s m #[(.ref r), (.int 0)] below meth c s₁ [] 0 0 := Stand.of_body Bd
  have e0 : s₁.heap = h0 := by rw [← hh, Bd.state]; rfl
  have N0 := Fr.nil n0
  have pre0 : ∀ t, Steps p.tables e below (s₁.setTop (mkF m 0 #[rv r, iv 0] [])) t → Steps p.tables e below (s₁.setTop (entryFrame m #[(.ref r), (.int 0)] 2)) t := fun t k => castTop (own_rsecond0_ef m r) k
  obtain ⟨T1, X1, e1, st1⟩ := getF X0 hx hZ hown (host := "") (Or.inl (hw _ (own_m 135 rfl))) Via.refl e0 F_second (g := (mkF m 1 #[rv r, iv 0] [(.ref r)])) rfl rfl (hb hby own_d18_1)
  obtain ⟨c2, c2A, c2q, c2S, c2N, c2H, c2G⟩ := id V_xs
  have c2in : ¬ ((0 : Int32) < 0 ∨ c2.slots.size ≤ ((0 : Int32)).toNatClampNeg) := inb_of c2S ⟨by decide, by decide⟩
  have c2at : c2.slots[((0 : Int32)).toNatClampNeg]? = some (.int s0) := Has.at c2H c2in rfl
  obtain ⟨fs, hr, hrun, hended, hW, hsame⟩ := X1.leave (v := some (.int s0)) (fun h => by rw [Bd.returns] at h; cases h)
  refine ⟨_, _, pre0 _ ?_, hrun, hended, _, _, rfl, ?_, ⟨_, rfl⟩, hW, hsame.mono (by decide) (by decide)⟩
  · show Steps p.tables e below (s₁.setTop (mkF m 0 #[rv r, iv 0] [])) _
    refine XS.aloadN X0.here hx rfl (hb hby own_d18_0) rfl rfl ?_
    show Steps p.tables e below (s₁.setTop (mkF m 1 #[rv r, iv 0] [(.ref r)])) _
    refine st1 _ ?_
    show Steps p.tables e below (T1.setTop (mkF m 4 #[rv r, iv 0] [(.ref xs)])) _
    refine XS.iloadN X1.here hx rfl (hb hby own_d18_4) rfl ?_
    show Steps p.tables e below (T1.setTop (mkF m 5 #[rv r, iv 0] [(.int 0), (.ref xs)])) _
    refine X1.iaload hx (j := (0 : Int32)) (v := (.int s0)) (by rw [e1]; exact c2A.1) (State.isArrayOf_alike hZ.alike c2A.2.1) c2A.2.2 c2in c2at (g := (mkF m 5 #[rv r, iv 0] [(.int 0), (.ref xs)])) rfl rfl (hb hby own_d18_5) _ ?_
    show Steps p.tables e below (T1.setTop (mkF m 6 #[rv r, iv 0] [(.int s0)])) _
    exact retI X1 hx Bd.returns (hb hby own_d18_6) hr
  · show own_rsecond0_Q Z w_CHARACTER w_SPLIT w_JUMP w_TEXT_START w_LINE_START w_TEXT_END w_LINE_END w_SAVE w_BACK_REFERENCE w_MARK w_PROGRESS w_MATCH w_NOTHING w_DE k_DE r xo xf xs k1 k2 k3 o0 f0 s0 o1 f1 s1 h0 n0 _ T1.heap _
    rw [e1]
    exact ⟨rfl, N0, rfl⟩
theorem own_rsecond1_ef (m : MethodId) (r : Addr) : entryFrame m #[(.ref r), (.int 1)] 2 = mkF m 0 #[rv r, iv 1] [] := by first | (simp [entryFrame, mkF, argsToLocals, Value.category]; done) | rfl
def own_rsecond1_Q (Z : State) (w_CHARACTER : Addr) (w_SPLIT : Addr) (w_JUMP : Addr) (w_TEXT_START : Addr) (w_LINE_START : Addr) (w_TEXT_END : Addr) (w_LINE_END : Addr) (w_SAVE : Addr) (w_BACK_REFERENCE : Addr) (w_MARK : Addr) (w_PROGRESS : Addr) (w_MATCH : Addr) (w_NOTHING : Addr) (w_DE : Addr) (k_DE : ClassId) (r : Addr) (xo : Addr) (xf : Addr) (xs : Addr) (k1 : ClassId) (k2 : ClassId) (k3 : ClassId) (o0 : Addr) (f0 : Int32) (s0 : Int32) (o1 : Addr) (f1 : Int32) (s1 : Int32) (h0 : Heap) (n0 : Nat) (v : Option Value) (h : Heap) (L : List Loc) : Prop := v = some (.int s1) ∧ Fr n0 L ∧ h = h0
set_option maxRecDepth 65536 in
set_option maxHeartbeats 40000000 in
theorem own_rsecond1 (l : Launch) (Z : State) (a0 : Array Value) (hw : ∀ d ∈ tables_1, d.before a0 Z = true) (ws : List Jvm.Cond) (w_CHARACTER : Addr) (w_SPLIT : Addr) (w_JUMP : Addr) (w_TEXT_START : Addr) (w_LINE_START : Addr) (w_TEXT_END : Addr) (w_LINE_END : Addr) (w_SAVE : Addr) (w_BACK_REFERENCE : Addr) (w_MARK : Addr) (w_PROGRESS : Addr) (w_MATCH : Addr) (w_NOTHING : Addr) (w_DE : Addr) (k_DE : ClassId) (r : Addr) (xo : Addr) (xf : Addr) (xs : Addr) (k1 : ClassId) (k2 : ClassId) (k3 : ClassId) (o0 : Addr) (f0 : Int32) (s0 : Int32) (o1 : Addr) (f1 : Int32) (s1 : Int32) (h0 : Heap) (n0 : Nat) (O0 : Old Z n0 h0) (U_CHARACTER : own_En Z Z.heap "com/example/quillgraph/quillgraph/sparql/RegexProgram$Op" "CHARACTER" "Lcom/example/quillgraph/quillgraph/sparql/RegexProgram$Op;" w_CHARACTER (0 : Int32)) (U_SPLIT : own_En Z Z.heap "com/example/quillgraph/quillgraph/sparql/RegexProgram$Op" "SPLIT" "Lcom/example/quillgraph/quillgraph/sparql/RegexProgram$Op;" w_SPLIT (1 : Int32)) (U_JUMP : own_En Z Z.heap "com/example/quillgraph/quillgraph/sparql/RegexProgram$Op" "JUMP" "Lcom/example/quillgraph/quillgraph/sparql/RegexProgram$Op;" w_JUMP (2 : Int32)) (U_TEXT_START : own_En Z Z.heap "com/example/quillgraph/quillgraph/sparql/RegexProgram$Op" "TEXT_START" "Lcom/example/quillgraph/quillgraph/sparql/RegexProgram$Op;" w_TEXT_START (3 : Int32)) (U_LINE_START : own_En Z Z.heap "com/example/quillgraph/quillgraph/sparql/RegexProgram$Op" "LINE_START" "Lcom/example/quillgraph/quillgraph/sparql/RegexProgram$Op;" w_LINE_START (4 : Int32)) (U_TEXT_END : own_En Z Z.heap "com/example/quillgraph/quillgraph/sparql/RegexProgram$Op" "TEXT_END" "Lcom/example/quillgraph/quillgraph/sparql/RegexProgram$Op;" w_TEXT_END (5 : Int32)) (U_LINE_END : own_En Z Z.heap "com/example/quillgraph/quillgraph/sparql/RegexProgram$Op" "LINE_END" "Lcom/example/quillgraph/quillgraph/sparql/RegexProgram$Op;" w_LINE_END (6 : Int32)) (U_SAVE : own_En Z Z.heap "com/example/quillgraph/quillgraph/sparql/RegexProgram$Op" "SAVE" "Lcom/example/quillgraph/quillgraph/sparql/RegexProgram$Op;" w_SAVE (7 : Int32)) (U_BACK_REFERENCE : own_En Z Z.heap "com/example/quillgraph/quillgraph/sparql/RegexProgram$Op" "BACK_REFERENCE" "Lcom/example/quillgraph/quillgraph/sparql/RegexProgram$Op;" w_BACK_REFERENCE (8 : Int32)) (U_MARK : own_En Z Z.heap "com/example/quillgraph/quillgraph/sparql/RegexProgram$Op" "MARK" "Lcom/example/quillgraph/quillgraph/sparql/RegexProgram$Op;" w_MARK (9 : Int32)) (U_PROGRESS : own_En Z Z.heap "com/example/quillgraph/quillgraph/sparql/RegexProgram$Op" "PROGRESS" "Lcom/example/quillgraph/quillgraph/sparql/RegexProgram$Op;" w_PROGRESS (10 : Int32)) (U_MATCH : own_En Z Z.heap "com/example/quillgraph/quillgraph/sparql/RegexProgram$Op" "MATCH" "Lcom/example/quillgraph/quillgraph/sparql/RegexProgram$Op;" w_MATCH (11 : Int32)) (U_NOTHING : own_En Z Z.heap "com/example/quillgraph/quillgraph/sparql/RegexProgram$Op" "NOTHING" "Lcom/example/quillgraph/quillgraph/sparql/RegexProgram$Op;" w_NOTHING (12 : Int32)) (S_DE : Sta Z Z.heap "java/util/ArrayList" "DEFAULTCAPACITY_EMPTY_ELEMENTDATA" "[Ljava/lang/Object;" (.ref w_DE)) (V_DE : Arv Z Z.heap w_DE k_DE (.object "java/lang/Object") (0 : Int32) [] .null) (F_ops : Fld Z h0 r "com/example/quillgraph/quillgraph/sparql/RegexProgram" "ops" "[Lcom/example/quillgraph/quillgraph/sparql/RegexProgram$Op;" (.ref xo)) (F_first : Fld Z h0 r "com/example/quillgraph/quillgraph/sparql/RegexProgram" "first" "[I" (.ref xf)) (F_second : Fld Z h0 r "com/example/quillgraph/quillgraph/sparql/RegexProgram" "second" "[I" (.ref xs)) (V_xo : Arv Z h0 xo k1 (.object "com/example/quillgraph/quillgraph/sparql/RegexProgram$Op") (3 : Int32) [(.ref o0), (.ref o1), (.ref w_MATCH)] .null) (V_xf : Arv Z h0 xf k2 .int (3 : Int32) [(.int f0), (.int f1), (.int 0)] (.int 0)) (V_xs : Arv Z h0 xs k3 .int (3 : Int32) [(.int s0), (.int s1), (.int 0)] (.int 0)) :
    MetFree l (⟨"com/example/quillgraph/quillgraph/sparql/RegexProgram", "second", "(I)I"⟩ : MethodName) (head1 (Jvm.Cond.code (⟨"com/example/quillgraph/quillgraph/sparql/RegexProgram", "second", "(I)I"⟩ : MethodName) prog_116_method_5_code 2 (some .int) :: ws) ({ frames := 0, cells := 0, slots := 0, locals := 0 } : Room)) (fun ar U => ar = #[(.ref r), (.int 1)] ∧ Z.Warmed39 U.vm ∧ U.heap = h0) (fun _ _ _ _ _ => True) (fun _ U oc U' => ∃ v L, oc = .returned v ∧ own_rsecond1_Q Z w_CHARACTER w_SPLIT w_JUMP w_TEXT_START w_LINE_START w_TEXT_END w_LINE_END w_SAVE w_BACK_REFERENCE w_MARK w_PROGRESS w_MATCH w_NOTHING w_DE k_DE r xo xf xs k1 k2 k3 o0 f0 s0 o1 f1 s1 h0 n0 v U'.heap L ∧ FrameEnd U oc U' L ({ frames := 0, cells := 0, slots := 0, locals := 0 } : Room).cells ({ frames := 0, cells := 0, slots := 0, locals := 0 } : Room).slots) := by
  refine MetFree.of_bodySF (plainFor_of_name own_pn5) hisR ?_
  intro p e s m args below meth c s₁ Bd hml0 hP hK
  obtain ⟨rfl, hZ, hh⟩ := hP
  have hx := Bd.exec
  have hby := Bd.bytes
  have hml : c.maxLocals = 2 := hml0
  have hown : s.vm.findClass "com/example/quillgraph/quillgraph/sparql/RegexProgram" = some m.cls := findClass_of_methodNamed Bd.named
  have hnm := (name_of_methodNamed Bd.named Bd.method).1
  have X0 : Stand p l e ({ frames := 0, cells := 0, slots := 0, locals := 0 } : Room) s m #[(.ref r), (.int 1)] below meth c s₁ [] 0 0 := Stand.of_body Bd
  have e0 : s₁.heap = h0 := by rw [← hh, Bd.state]; rfl
  have N0 := Fr.nil n0
  have pre0 : ∀ t, Steps p.tables e below (s₁.setTop (mkF m 0 #[rv r, iv 1] [])) t → Steps p.tables e below (s₁.setTop (entryFrame m #[(.ref r), (.int 1)] 2)) t := fun t k => castTop (own_rsecond1_ef m r) k
  obtain ⟨T1, X1, e1, st1⟩ := getF X0 hx hZ hown (host := "") (Or.inl (hw _ (own_m 135 rfl))) Via.refl e0 F_second (g := (mkF m 1 #[rv r, iv 1] [(.ref r)])) rfl rfl (hb hby own_d18_1)
  obtain ⟨c2, c2A, c2q, c2S, c2N, c2H, c2G⟩ := id V_xs
  have c2in : ¬ ((1 : Int32) < 0 ∨ c2.slots.size ≤ ((1 : Int32)).toNatClampNeg) := inb_of c2S ⟨by decide, by decide⟩
  have c2at : c2.slots[((1 : Int32)).toNatClampNeg]? = some (.int s1) := Has.at c2H c2in rfl
  obtain ⟨fs, hr, hrun, hended, hW, hsame⟩ := X1.leave (v := some (.int s1)) (fun h => by rw [Bd.returns] at h; cases h)
  refine ⟨_, _, pre0 _ ?_, hrun, hended, _, _, rfl, ?_, ⟨_, rfl⟩, hW, hsame.mono (by decide) (by decide)⟩
  · show Steps p.tables e below (s₁.setTop (mkF m 0 #[rv r, iv 1] [])) _
    refine XS.aloadN X0.here hx rfl (hb hby own_d18_0) rfl rfl ?_
    show Steps p.tables e below (s₁.setTop (mkF m 1 #[rv r, iv 1] [(.ref r)])) _
    refine st1 _ ?_
    show Steps p.tables e below (T1.setTop (mkF m 4 #[rv r, iv 1] [(.ref xs)])) _
    refine XS.iloadN X1.here hx rfl (hb hby own_d18_4) rfl ?_
    show Steps p.tables e below (T1.setTop (mkF m 5 #[rv r, iv 1] [(.int 1), (.ref xs)])) _
    refine X1.iaload hx (j := (1 : Int32)) (v := (.int s1)) (by rw [e1]; exact c2A.1) (State.isArrayOf_alike hZ.alike c2A.2.1) c2A.2.2 c2in c2at (g := (mkF m 5 #[rv r, iv 1] [(.int 1), (.ref xs)])) rfl rfl (hb hby own_d18_5) _ ?_
    show Steps p.tables e below (T1.setTop (mkF m 6 #[rv r, iv 1] [(.int s1)])) _
    exact retI X1 hx Bd.returns (hb hby own_d18_6) hr
  · show own_rsecond1_Q Z w_CHARACTER w_SPLIT w_JUMP w_TEXT_START w_LINE_START w_TEXT_END w_LINE_END w_SAVE w_BACK_REFERENCE w_MARK w_PROGRESS w_MATCH w_NOTHING w_DE k_DE r xo xf xs k1 k2 k3 o0 f0 s0 o1 f1 s1 h0 n0 _ T1.heap _
    rw [e1]
    exact ⟨rfl, N0, rfl⟩
theorem own_law_ef (m : MethodId) (p0 : Int32) (p1 : Int32) (p2 : Int32) (p3 : Int32) (p4 : Int32) (p5 : Int32) : entryFrame m #[(.int p0), (.int p1), (.int p2), (.int p3), (.int p4), (.int p5)] maxLocals = mkF m 0 #[iv p0, iv p1, iv p2, iv p3, iv p4, iv p5, .unset, .unset, .unset, .unset, .unset, .unset, .unset, .unset, .unset, .unset, .unset, .unset, .unset] [] := by first | (simp [entryFrame, mkF, argsToLocals, Value.category, maxLocals]; done) | rfl
def own_law_Q (Z : State) (w_CHARACTER : Addr) (w_SPLIT : Addr) (w_JUMP : Addr) (w_TEXT_START : Addr) (w_LINE_START : Addr) (w_TEXT_END : Addr) (w_LINE_END : Addr) (w_SAVE : Addr) (w_BACK_REFERENCE : Addr) (w_MARK : Addr) (w_PROGRESS : Addr) (w_MATCH : Addr) (w_NOTHING : Addr) (w_DE : Addr) (k_DE : ClassId) (p0 : Int32) (p1 : Int32) (p2 : Int32) (p3 : Int32) (p4 : Int32) (p5 : Int32) (h0 : Heap) (n0 : Nat) (v : Option Value) (h : Heap) (L : List Loc) : Prop := v = some (.int 1) ∧ Fr n0 L
set_option maxRecDepth 65536 in
set_option maxHeartbeats 40000000 in
theorem own_law (l : Launch) (Z : State) (a0 : Array Value) (hw : ∀ d ∈ tables_1, d.before a0 Z = true) (ws : List Jvm.Cond) (w_CHARACTER : Addr) (w_SPLIT : Addr) (w_JUMP : Addr) (w_TEXT_START : Addr) (w_LINE_START : Addr) (w_TEXT_END : Addr) (w_LINE_END : Addr) (w_SAVE : Addr) (w_BACK_REFERENCE : Addr) (w_MARK : Addr) (w_PROGRESS : Addr) (w_MATCH : Addr) (w_NOTHING : Addr) (w_DE : Addr) (k_DE : ClassId) (p0 : Int32) (p1 : Int32) (p2 : Int32) (p3 : Int32) (p4 : Int32) (p5 : Int32) (h0 : Heap) (n0 : Nat) (O0 : Old Z n0 h0) (U_CHARACTER : own_En Z Z.heap "com/example/quillgraph/quillgraph/sparql/RegexProgram$Op" "CHARACTER" "Lcom/example/quillgraph/quillgraph/sparql/RegexProgram$Op;" w_CHARACTER (0 : Int32)) (U_SPLIT : own_En Z Z.heap "com/example/quillgraph/quillgraph/sparql/RegexProgram$Op" "SPLIT" "Lcom/example/quillgraph/quillgraph/sparql/RegexProgram$Op;" w_SPLIT (1 : Int32)) (U_JUMP : own_En Z Z.heap "com/example/quillgraph/quillgraph/sparql/RegexProgram$Op" "JUMP" "Lcom/example/quillgraph/quillgraph/sparql/RegexProgram$Op;" w_JUMP (2 : Int32)) (U_TEXT_START : own_En Z Z.heap "com/example/quillgraph/quillgraph/sparql/RegexProgram$Op" "TEXT_START" "Lcom/example/quillgraph/quillgraph/sparql/RegexProgram$Op;" w_TEXT_START (3 : Int32)) (U_LINE_START : own_En Z Z.heap "com/example/quillgraph/quillgraph/sparql/RegexProgram$Op" "LINE_START" "Lcom/example/quillgraph/quillgraph/sparql/RegexProgram$Op;" w_LINE_START (4 : Int32)) (U_TEXT_END : own_En Z Z.heap "com/example/quillgraph/quillgraph/sparql/RegexProgram$Op" "TEXT_END" "Lcom/example/quillgraph/quillgraph/sparql/RegexProgram$Op;" w_TEXT_END (5 : Int32)) (U_LINE_END : own_En Z Z.heap "com/example/quillgraph/quillgraph/sparql/RegexProgram$Op" "LINE_END" "Lcom/example/quillgraph/quillgraph/sparql/RegexProgram$Op;" w_LINE_END (6 : Int32)) (U_SAVE : own_En Z Z.heap "com/example/quillgraph/quillgraph/sparql/RegexProgram$Op" "SAVE" "Lcom/example/quillgraph/quillgraph/sparql/RegexProgram$Op;" w_SAVE (7 : Int32)) (U_BACK_REFERENCE : own_En Z Z.heap "com/example/quillgraph/quillgraph/sparql/RegexProgram$Op" "BACK_REFERENCE" "Lcom/example/quillgraph/quillgraph/sparql/RegexProgram$Op;" w_BACK_REFERENCE (8 : Int32)) (U_MARK : own_En Z Z.heap "com/example/quillgraph/quillgraph/sparql/RegexProgram$Op" "MARK" "Lcom/example/quillgraph/quillgraph/sparql/RegexProgram$Op;" w_MARK (9 : Int32)) (U_PROGRESS : own_En Z Z.heap "com/example/quillgraph/quillgraph/sparql/RegexProgram$Op" "PROGRESS" "Lcom/example/quillgraph/quillgraph/sparql/RegexProgram$Op;" w_PROGRESS (10 : Int32)) (U_MATCH : own_En Z Z.heap "com/example/quillgraph/quillgraph/sparql/RegexProgram$Op" "MATCH" "Lcom/example/quillgraph/quillgraph/sparql/RegexProgram$Op;" w_MATCH (11 : Int32)) (U_NOTHING : own_En Z Z.heap "com/example/quillgraph/quillgraph/sparql/RegexProgram$Op" "NOTHING" "Lcom/example/quillgraph/quillgraph/sparql/RegexProgram$Op;" w_NOTHING (12 : Int32)) (S_DE : Sta Z Z.heap "java/util/ArrayList" "DEFAULTCAPACITY_EMPTY_ELEMENTDATA" "[Ljava/lang/Object;" (.ref w_DE)) (V_DE : Arv Z Z.heap w_DE k_DE (.object "java/lang/Object") (0 : Int32) [] .null) :
    MetFree l x (head1 (Jvm.Cond.code x code maxLocals ret :: ws) room_1) (fun ar U => ar = #[(.int p0), (.int p1), (.int p2), (.int p3), (.int p4), (.int p5)] ∧ Z.Warmed39 U.vm ∧ U.heap = h0) (fun _ _ _ _ _ => True) (fun _ U oc U' => ∃ v L, oc = .returned v ∧ own_law_Q Z w_CHARACTER w_SPLIT w_JUMP w_TEXT_START w_LINE_START w_TEXT_END w_LINE_END w_SAVE w_BACK_REFERENCE w_MARK w_PROGRESS w_MATCH w_NOTHING w_DE k_DE p0 p1 p2 p3 p4 p5 h0 n0 v U'.heap L ∧ FrameEnd U oc U' L 32 256) := by
  refine MetFree.of_bodySF (plainFor_of_name own_pn0) hisR ?_
  intro p e s m args below meth c s₁ Bd hml0 hP hK
  obtain ⟨rfl, hZ, hh⟩ := hP
  have hx := Bd.exec
  have hby := Bd.bytes
  have hml : c.maxLocals = 19 := hml0
  have hown : s.vm.findClass "com/example/quillgraph/quillgraph/sparql/BuilderSetPinLaw" = some m.cls := findClass_of_methodNamed Bd.named
  have hnm := (name_of_methodNamed Bd.named Bd.method).1
  have X0 : Stand p l e room_1 s m #[(.int p0), (.int p1), (.int p2), (.int p3), (.int p4), (.int p5)] below meth c s₁ [] 0 0 := Stand.of_body Bd
  have e0 : s₁.heap = h0 := by rw [← hh, Bd.state]; rfl
  have N0 := Fr.nil n0
  have pre0 : ∀ t, Steps p.tables e below (s₁.setTop (mkF m 0 #[iv p0, iv p1, iv p2, iv p3, iv p4, iv p5, .unset, .unset, .unset, .unset, .unset, .unset, .unset, .unset, .unset, .unset, .unset, .unset, .unset] [])) t → Steps p.tables e below (s₁.setTop (entryFrame m #[(.int p0), (.int p1), (.int p2), (.int p3), (.int p4), (.int p5)] maxLocals)) t := fun t k => castTop (own_law_ef m p0 p1 p2 p3 p4 p5) k
  rcases own_mask1 p0 with hk | hk
  · obtain ⟨_, _, ⟨T1, L1, k1, n1⟩, -, X1, ⟨Lc1, hQ1, l1, y1, z1⟩, st1⟩ := Jvm.LawKit.callS X0 hx (y := (⟨"com/example/quillgraph/quillgraph/sparql/BuilderSetPinLaw", "pick", "(I)Lcom/example/quillgraph/quillgraph/sparql/RegexProgram$Op;"⟩ : MethodName)) hown (mvT hZ (hw _ (own_m 0 rfl))) (mvT hZ (hw _ (own_m 1 rfl))) (mvT hZ (hw _ (own_m 2 rfl))) (mvT hZ (hw _ (own_m 3 rfl))) (by decide) (backOf (W := 0) (own_pick l Z a0 hw [] w_CHARACTER w_SPLIT w_JUMP w_TEXT_START w_LINE_START w_TEXT_END w_LINE_END w_SAVE w_BACK_REFERENCE w_MARK w_PROGRESS w_MATCH w_NOTHING w_DE k_DE (p1 &&& (7 : Int32)) h0 n0 O0 U_CHARACTER U_SPLIT U_JUMP U_TEXT_START U_LINE_START U_TEXT_END U_LINE_END U_SAVE U_BACK_REFERENCE U_MARK U_PROGRESS U_MATCH U_NOTHING S_DE V_DE ) hZ (hw _ (own_m 3 rfl)) (hw _ (own_m 2 rfl)) (by decide) (by decide)) (g := (mkF m 15 #[iv p0, iv p1, iv p2, iv p3, iv p4, iv p5, iv 0, iv 1, .unset, .unset, .unset, .unset, .unset, .unset, .unset, .unset, .unset, .unset, .unset] [(.int (p1 &&& (7 : Int32)))])) rfl (by rw [hml]; rfl) (argsL := [(.int (p1 &&& (7 : Int32)))]) (rest := []) (lenOf own_pd7 rfl) rfl (by show 2 * 0 + _ ≤ _; exact Nat.le_of_eq rfl) (hb hby at_15) (fun _ _ => ⟨rfl, e0, (by decide : 0 + 0 ≤ _), (by decide : 0 + 0 ≤ _)⟩)
    dsimp only [Pt.U, Pt.locs, Pt.cells, Pt.slots] at X1 l1 y1 z1 st1 hQ1
    subst l1 y1 z1
    obtain ⟨oo, rfl, Go, N1q, e1⟩ := hQ1
    have N1 := Fr.app N0 N1q
    obtain ⟨jv, fa, fb, T2, Lj2, hj2, X2, N2, e2, st2⟩ : ∃ (jv : Int32) (fa : Int32) (fb : Int32) (T2 : State) (Lj2 : List Loc), (((oo = w_SPLIT ∨ oo = w_JUMP) → (fa = (0 : Int32) ∨ fa = (1 : Int32) ∨ fa = (2 : Int32))) ∧ (oo = w_SPLIT → (fb = (0 : Int32) ∨ fb = (1 : Int32) ∨ fb = (2 : Int32)))) ∧ Stand p l e room_1 s m #[(.int p0), (.int p1), (.int p2), (.int p3), (.int p4), (.int p5)] below meth c T2 Lj2 0 0 ∧ Fr n0 Lj2 ∧ T2.heap = h0 ∧ ∀ target, Steps p.tables e below (T2.setTop (mkF m 80 #[iv p0, iv p1, iv p2, iv p3, iv p4, iv p5, iv 0, iv 1, rv oo, iv jv, iv fa, iv fb, .unset, .unset, .unset, .unset, .unset, .unset, .unset] [])) target → Steps p.tables e below (T1.setTop (mkF m 20 #[iv p0, iv p1, iv p2, iv p3, iv p4, iv p5, iv 0, iv 1, rv oo, .unset, .unset, .unset, .unset, .unset, .unset, .unset, .unset, .unset, .unset] [])) target := by
      obtain ⟨T3, X3, e3, st3⟩ := getS2 X1 hx hZ hown (host := "") (Or.inl (hw _ (own_m 7 rfl))) Via.refl e1 (U_SPLIT.1.ext O0.2) (g := (mkF m 22 #[iv p0, iv p1, iv p2, iv p3, iv p4, iv p5, iv 0, iv 1, rv oo, .unset, .unset, .unset, .unset, .unset, .unset, .unset, .unset, .unset, .unset] [(.ref oo)])) rfl (hb hby at_22)
      by_cases ha4 : oo = w_SPLIT
      · obtain ⟨T5, X5, e5, st5⟩ := getS2 X3 hx hZ hown (host := "") (Or.inl (hw _ (own_m 7 rfl))) Via.refl e3 (U_SPLIT.1.ext O0.2) (g := (mkF m 62 #[iv p0, iv p1, iv p2, iv p3, iv p4, iv p5, iv 0, iv 1, rv oo, iv 1, .val (.int ((p2 &&& (2147483647 : Int32)) % (3 : Int32))), .unset, .unset, .unset, .unset, .unset, .unset, .unset, .unset] [(.ref oo)])) rfl (hb hby at_62)
        refine ⟨(1 : Int32), ((p2 &&& (2147483647 : Int32)) % (3 : Int32)), ((p3 &&& (2147483647 : Int32)) % (3 : Int32)), T5, _, ⟨fun _ => own_rem3 p2, fun _ => own_rem3 p3⟩, X5, N1, e5, fun target kt => ?_⟩
        show Steps p.tables e below (T1.setTop (mkF m 20 #[iv p0, iv p1, iv p2, iv p3, iv p4, iv p5, iv 0, iv 1, rv oo, .unset, .unset, .unset, .unset, .unset, .unset, .unset, .unset, .unset, .unset] [])) _
        refine XS.aload X1.here hx rfl (hb hby at_20) rfl rfl ?_
        show Steps p.tables e below (T1.setTop (mkF m 22 #[iv p0, iv p1, iv p2, iv p3, iv p4, iv p5, iv 0, iv 1, rv oo, .unset, .unset, .unset, .unset, .unset, .unset, .unset, .unset, .unset, .unset] [(.ref oo)])) _
        refine st3 _ ?_
        show Steps p.tables e below (T3.setTop (mkF m 25 #[iv p0, iv p1, iv p2, iv p3, iv p4, iv p5, iv 0, iv 1, rv oo, .unset, .unset, .unset, .unset, .unset, .unset, .unset, .unset, .unset, .unset] [(.ref w_SPLIT), (.ref oo)])) _
        refine Jvm.RoadKit.acmp (g := (mkF m 25 #[iv p0, iv p1, iv p2, iv p3, iv p4, iv p5, iv 0, iv 1, rv oo, .unset, .unset, .unset, .unset, .unset, .unset, .unset, .unset, .unset, .unset] [(.ref w_SPLIT), (.ref oo)])) X3 hx rfl rfl rfl (pc0 := 25) (pc' := 36) (same := true) rfl (hb hby at_25) rfl (decide_eq_true (congrArg Value.ref ha4)) (by decide) (by decide) ?_
        show Steps p.tables e below (T3.setTop (mkF m 36 #[iv p0, iv p1, iv p2, iv p3, iv p4, iv p5, iv 0, iv 1, rv oo, .unset, .unset, .unset, .unset, .unset, .unset, .unset, .unset, .unset, .unset] [])) _
        refine XS.iconst X3.here hx rfl (hb hby at_36) ?_
        show Steps p.tables e below (T3.setTop (mkF m 37 #[iv p0, iv p1, iv p2, iv p3, iv p4, iv p5, iv 0, iv 1, rv oo, .unset, .unset, .unset, .unset, .unset, .unset, .unset, .unset, .unset, .unset] [(.int 1)])) _
        refine XS.goto X3.here hx rfl (pc0 := 37) (pc' := 41) rfl (hb hby at_37) (by decide) (by decide) ?_
        show Steps p.tables e below (T3.setTop (mkF m 41 #[iv p0, iv p1, iv p2, iv p3, iv p4, iv p5, iv 0, iv 1, rv oo, .unset, .unset, .unset, .unset, .unset, .unset, .unset, .unset, .unset, .unset] [(.int 1)])) _
        refine XS.istore X3.here hx rfl (hb hby at_41) rfl (l' := #[iv p0, iv p1, iv p2, iv p3, iv p4, iv p5, iv 0, iv 1, rv oo, iv 1, .unset, .unset, .unset, .unset, .unset, .unset, .unset, .unset, .unset]) rfl ?_
        show Steps p.tables e below (T3.setTop (mkF m 43 #[iv p0, iv p1, iv p2, iv p3, iv p4, iv p5, iv 0, iv 1, rv oo, iv 1, .unset, .unset, .unset, .unset, .unset, .unset, .unset, .unset, .unset] [])) _
        refine XS.iload X3.here hx rfl (hb hby at_43) rfl ?_
        show Steps p.tables e below (T3.setTop (mkF m 45 #[iv p0, iv p1, iv p2, iv p3, iv p4, iv p5, iv 0, iv 1, rv oo, iv 1, .unset, .unset, .unset, .unset, .unset, .unset, .unset, .unset, .unset] [(.int 1)])) _
        refine XS.ifNo X3.here hx rfl (hb hby at_45) rfl ((if0 _ _).trans (feq (by decide)).1) ?_
        show Steps p.tables e below (T3.setTop (mkF m 48 #[iv p0, iv p1, iv p2, iv p3, iv p4, iv p5, iv 0, iv 1, rv oo, iv 1, .unset, .unset, .unset, .unset, .unset, .unset, .unset, .unset, .unset] [])) _
        refine XS.iloadN X3.here hx rfl (hb hby at_48) rfl ?_
        show Steps p.tables e below (T3.setTop (mkF m 49 #[iv p0, iv p1, iv p2, iv p3, iv p4, iv p5, iv 0, iv 1, rv oo, iv 1, .unset, .unset, .unset, .unset, .unset, .unset, .unset, .unset, .unset] [(.int p2)])) _
        refine X3.ldcInt hx hown (mvT hZ (hw _ (own_m 163 rfl))) (g := (mkF m 49 #[iv p0, iv p1, iv p2, iv p3, iv p4, iv p5, iv 0, iv 1, rv oo, iv 1, .unset, .unset, .unset, .unset, .unset, .unset, .unset, .unset, .unset] [(.int p2)])) rfl (hb hby at_49) _ ?_
        show Steps p.tables e below (T3.setTop (mkF m 51 #[iv p0, iv p1, iv p2, iv p3, iv p4, iv p5, iv 0, iv 1, rv oo, iv 1, .unset, .unset, .unset, .unset, .unset, .unset, .unset, .unset, .unset] [(.int 2147483647), (.int p2)])) _
        refine XS.iand X3.here hx rfl (hb hby at_51) rfl ?_
        show Steps p.tables e below (T3.setTop (mkF m 52 #[iv p0, iv p1, iv p2, iv p3, iv p4, iv p5, iv 0, iv 1, rv oo, iv 1, .unset, .unset, .unset, .unset, .unset, .unset, .unset, .unset, .unset] [(.int (p2 &&& (2147483647 : Int32)))])) _
        refine XS.iconst X3.here hx rfl (hb hby at_52) ?_
        show Steps p.tables e below (T3.setTop (mkF m 53 #[iv p0, iv p1, iv p2, iv p3, iv p4, iv p5, iv 0, iv 1, rv oo, iv 1, .unset, .unset, .unset, .unset, .unset, .unset, .unset, .unset, .unset] [(.int 3), (.int (p2 &&& (2147483647 : Int32)))])) _
        refine iremM X3 hx rfl (hb hby at_53) rfl (by decide) ?_
        show Steps p.tables e below (T3.setTop (mkF m 54 #[iv p0, iv p1, iv p2, iv p3, iv p4, iv p5, iv 0, iv 1, rv oo, iv 1, .unset, .unset, .unset, .unset, .unset, .unset, .unset, .unset, .unset] [(.int ((p2 &&& (2147483647 : Int32)) % (3 : Int32)))])) _
        refine XS.goto X3.here hx rfl (pc0 := 54) (pc' := 58) rfl (hb hby at_54) (by decide) (by decide) ?_
        show Steps p.tables e below (T3.setTop (mkF m 58 #[iv p0, iv p1, iv p2, iv p3, iv p4, iv p5, iv 0, iv 1, rv oo, iv 1, .unset, .unset, .unset, .unset, .unset, .unset, .unset, .unset, .unset] [(.int ((p2 &&& (2147483647 : Int32)) % (3 : Int32)))])) _
        refine XS.istore X3.here hx rfl (hb hby at_58) rfl (l' := #[iv p0, iv p1, iv p2, iv p3, iv p4, iv p5, iv 0, iv 1, rv oo, iv 1, .val (.int ((p2 &&& (2147483647 : Int32)) % (3 : Int32))), .unset, .unset, .unset, .unset, .unset, .unset, .unset, .unset]) rfl ?_
        show Steps p.tables e below (T3.setTop (mkF m 60 #[iv p0, iv p1, iv p2, iv p3, iv p4, iv p5, iv 0, iv 1, rv oo, iv 1, .val (.int ((p2 &&& (2147483647 : Int32)) % (3 : Int32))), .unset, .unset, .unset, .unset, .unset, .unset, .unset, .unset] [])) _
        refine XS.aload X3.here hx rfl (hb hby at_60) rfl rfl ?_
        show Steps p.tables e below (T3.setTop (mkF m 62 #[iv p0, iv p1, iv p2, iv p3, iv p4, iv p5, iv 0, iv 1, rv oo, iv 1, .val (.int ((p2 &&& (2147483647 : Int32)) % (3 : Int32))), .unset, .unset, .unset, .unset, .unset, .unset, .unset, .unset] [(.ref oo)])) _
        refine st5 _ ?_
        show Steps p.tables e below (T5.setTop (mkF m 65 #[iv p0, iv p1, iv p2, iv p3, iv p4, iv p5, iv 0, iv 1, rv oo, iv 1, .val (.int ((p2 &&& (2147483647 : Int32)) % (3 : Int32))), .unset, .unset, .unset, .unset, .unset, .unset, .unset, .unset] [(.ref w_SPLIT), (.ref oo)])) _
        refine Jvm.RoadKit.acmp (g := (mkF m 65 #[iv p0, iv p1, iv p2, iv p3, iv p4, iv p5, iv 0, iv 1, rv oo, iv 1, .val (.int ((p2 &&& (2147483647 : Int32)) % (3 : Int32))), .unset, .unset, .unset, .unset, .unset, .unset, .unset, .unset] [(.ref w_SPLIT), (.ref oo)])) X5 hx rfl rfl rfl (pc0 := 65) (pc' := 68) (same := true) rfl (hb hby at_65) rfl (decide_eq_true (congrArg Value.ref ha4)) (by decide) (by decide) ?_
        show Steps p.tables e below (T5.setTop (mkF m 68 #[iv p0, iv p1, iv p2, iv p3, iv p4, iv p5, iv 0, iv 1, rv oo, iv 1, .val (.int ((p2 &&& (2147483647 : Int32)) % (3 : Int32))), .unset, .unset, .unset, .unset, .unset, .unset, .unset, .unset] [])) _
        refine XS.iloadN X5.here hx rfl (hb hby at_68) rfl ?_
        show Steps p.tables e below (T5.setTop (mkF m 69 #[iv p0, iv p1, iv p2, iv p3, iv p4, iv p5, iv 0, iv 1, rv oo, iv 1, .val (.int ((p2 &&& (2147483647 : Int32)) % (3 : Int32))), .unset, .unset, .unset, .unset, .unset, .unset, .unset, .unset] [(.int p3)])) _
        refine X5.ldcInt hx hown (mvT hZ (hw _ (own_m 163 rfl))) (g := (mkF m 69 #[iv p0, iv p1, iv p2, iv p3, iv p4, iv p5, iv 0, iv 1, rv oo, iv 1, .val (.int ((p2 &&& (2147483647 : Int32)) % (3 : Int32))), .unset, .unset, .unset, .unset, .unset, .unset, .unset, .unset] [(.int p3)])) rfl (hb hby at_69) _ ?_
        show Steps p.tables e below (T5.setTop (mkF m 71 #[iv p0, iv p1, iv p2, iv p3, iv p4, iv p5, iv 0, iv 1, rv oo, iv 1, .val (.int ((p2 &&& (2147483647 : Int32)) % (3 : Int32))), .unset, .unset, .unset, .unset, .unset, .unset, .unset, .unset] [(.int 2147483647), (.int p3)])) _
        refine XS.iand X5.here hx rfl (hb hby at_71) rfl ?_
        show Steps p.tables e below (T5.setTop (mkF m 72 #[iv p0, iv p1, iv p2, iv p3, iv p4, iv p5, iv 0, iv 1, rv oo, iv 1, .val (.int ((p2 &&& (2147483647 : Int32)) % (3 : Int32))), .unset, .unset, .unset, .unset, .unset, .unset, .unset, .unset] [(.int (p3 &&& (2147483647 : Int32)))])) _
        refine XS.iconst X5.here hx rfl (hb hby at_72) ?_
        show Steps p.tables e below (T5.setTop (mkF m 73 #[iv p0, iv p1, iv p2, iv p3, iv p4, iv p5, iv 0, iv 1, rv oo, iv 1, .val (.int ((p2 &&& (2147483647 : Int32)) % (3 : Int32))), .unset, .unset, .unset, .unset, .unset, .unset, .unset, .unset] [(.int 3), (.int (p3 &&& (2147483647 : Int32)))])) _
        refine iremM X5 hx rfl (hb hby at_73) rfl (by decide) ?_
        show Steps p.tables e below (T5.setTop (mkF m 74 #[iv p0, iv p1, iv p2, iv p3, iv p4, iv p5, iv 0, iv 1, rv oo, iv 1, .val (.int ((p2 &&& (2147483647 : Int32)) % (3 : Int32))), .unset, .unset, .unset, .unset, .unset, .unset, .unset, .unset] [(.int ((p3 &&& (2147483647 : Int32)) % (3 : Int32)))])) _
        refine XS.goto X5.here hx rfl (pc0 := 74) (pc' := 78) rfl (hb hby at_74) (by decide) (by decide) ?_
        show Steps p.tables e below (T5.setTop (mkF m 78 #[iv p0, iv p1, iv p2, iv p3, iv p4, iv p5, iv 0, iv 1, rv oo, iv 1, .val (.int ((p2 &&& (2147483647 : Int32)) % (3 : Int32))), .unset, .unset, .unset, .unset, .unset, .unset, .unset, .unset] [(.int ((p3 &&& (2147483647 : Int32)) % (3 : Int32)))])) _
        refine XS.istore X5.here hx rfl (hb hby at_78) rfl (l' := #[iv p0, iv p1, iv p2, iv p3, iv p4, iv p5, iv 0, iv 1, rv oo, iv 1, .val (.int ((p2 &&& (2147483647 : Int32)) % (3 : Int32))), .val (.int ((p3 &&& (2147483647 : Int32)) % (3 : Int32))), .unset, .unset, .unset, .unset, .unset, .unset, .unset]) rfl ?_
        show Steps p.tables e below (T5.setTop (mkF m 80 #[iv p0, iv p1, iv p2, iv p3, iv p4, iv p5, iv 0, iv 1, rv oo, iv 1, .val (.int ((p2 &&& (2147483647 : Int32)) % (3 : Int32))), .val (.int ((p3 &&& (2147483647 : Int32)) % (3 : Int32))), .unset, .unset, .unset, .unset, .unset, .unset, .unset] [])) _
        exact kt
      · obtain ⟨T6, X6, e6, st6⟩ := getS2 X3 hx hZ hown (host := "") (Or.inl (hw _ (own_m 9 rfl))) Via.refl e3 (U_JUMP.1.ext O0.2) (g := (mkF m 30 #[iv p0, iv p1, iv p2, iv p3, iv p4, iv p5, iv 0, iv 1, rv oo, .unset, .unset, .unset, .unset, .unset, .unset, .unset, .unset, .unset, .unset] [(.ref oo)])) rfl (hb hby at_30)
        by_cases ha7 : oo = w_JUMP
        · obtain ⟨T8, X8, e8, st8⟩ := getS2 X6 hx hZ hown (host := "") (Or.inl (hw _ (own_m 7 rfl))) Via.refl e6 (U_SPLIT.1.ext O0.2) (g := (mkF m 62 #[iv p0, iv p1, iv p2, iv p3, iv p4, iv p5, iv 0, iv 1, rv oo, iv 1, .val (.int ((p2 &&& (2147483647 : Int32)) % (3 : Int32))), .unset, .unset, .unset, .unset, .unset, .unset, .unset, .unset] [(.ref oo)])) rfl (hb hby at_62)
          refine ⟨(1 : Int32), ((p2 &&& (2147483647 : Int32)) % (3 : Int32)), p3, T8, _, ⟨fun _ => own_rem3 p2, fun q => (ha4 q).elim⟩, X8, N1, e8, fun target kt => ?_⟩
          show Steps p.tables e below (T1.setTop (mkF m 20 #[iv p0, iv p1, iv p2, iv p3, iv p4, iv p5, iv 0, iv 1, rv oo, .unset, .unset, .unset, .unset, .unset, .unset, .unset, .unset, .unset, .unset] [])) _
          refine XS.aload X1.here hx rfl (hb hby at_20) rfl rfl ?_
          show Steps p.tables e below (T1.setTop (mkF m 22 #[iv p0, iv p1, iv p2, iv p3, iv p4, iv p5, iv 0, iv 1, rv oo, .unset, .unset, .unset, .unset, .unset, .unset, .unset, .unset, .unset, .unset] [(.ref oo)])) _
          refine st3 _ ?_
          show Steps p.tables e below (T3.setTop (mkF m 25 #[iv p0, iv p1, iv p2, iv p3, iv p4, iv p5, iv 0, iv 1, rv oo, .unset, .unset, .unset, .unset, .unset, .unset, .unset, .unset, .unset, .unset] [(.ref w_SPLIT), (.ref oo)])) _
          refine Jvm.RoadKit.acmp (g := (mkF m 25 #[iv p0, iv p1, iv p2, iv p3, iv p4, iv p5, iv 0, iv 1, rv oo, .unset, .unset, .unset, .unset, .unset, .unset, .unset, .unset, .unset, .unset] [(.ref w_SPLIT), (.ref oo)])) X3 hx rfl rfl rfl (pc0 := 25) (pc' := 28) (same := false) rfl (hb hby at_25) rfl (decide_eq_false fun q => ha4 (Value.ref.inj q)) (by decide) (by decide) ?_
          show Steps p.tables e below (T3.setTop (mkF m 28 #[iv p0, iv p1, iv p2, iv p3, iv p4, iv p5, iv 0, iv 1, rv oo, .unset, .unset, .unset, .unset, .unset, .unset, .unset, .unset, .unset, .unset] [])) _
          refine XS.aload X3.here hx rfl (hb hby at_28) rfl rfl ?_
          show Steps p.tables e below (T3.setTop (mkF m 30 #[iv p0, iv p1, iv p2, iv p3, iv p4, iv p5, iv 0, iv 1, rv oo, .unset, .unset, .unset, .unset, .unset, .unset, .unset, .unset, .unset, .unset] [(.ref oo)])) _
          refine st6 _ ?_
          show Steps p.tables e below (T6.setTop (mkF m 33 #[iv p0, iv p1, iv p2, iv p3, iv p4, iv p5, iv 0, iv 1, rv oo, .unset, .unset, .unset, .unset, .unset, .unset, .unset, .unset, .unset, .unset] [(.ref w_JUMP), (.ref oo)])) _
          refine Jvm.RoadKit.acmp (g := (mkF m 33 #[iv p0, iv p1, iv p2, iv p3, iv p4, iv p5, iv 0, iv 1, rv oo, .unset, .unset, .unset, .unset, .unset, .unset, .unset, .unset, .unset, .unset] [(.ref w_JUMP), (.ref oo)])) X6 hx rfl rfl rfl (pc0 := 33) (pc' := 36) (same := true) rfl (hb hby at_33) rfl (decide_eq_true (congrArg Value.ref ha7)) (by decide) (by decide) ?_
          show Steps p.tables e below (T6.setTop (mkF m 36 #[iv p0, iv p1, iv p2, iv p3, iv p4, iv p5, iv 0, iv 1, rv oo, .unset, .unset, .unset, .unset, .unset, .unset, .unset, .unset, .unset, .unset] [])) _
          refine XS.iconst X6.here hx rfl (hb hby at_36) ?_
          show Steps p.tables e below (T6.setTop (mkF m 37 #[iv p0, iv p1, iv p2, iv p3, iv p4, iv p5, iv 0, iv 1, rv oo, .unset, .unset, .unset, .unset, .unset, .unset, .unset, .unset, .unset, .unset] [(.int 1)])) _
          refine XS.goto X6.here hx rfl (pc0 := 37) (pc' := 41) rfl (hb hby at_37) (by decide) (by decide) ?_
          show Steps p.tables e below (T6.setTop (mkF m 41 #[iv p0, iv p1, iv p2, iv p3, iv p4, iv p5, iv 0, iv 1, rv oo, .unset, .unset, .unset, .unset, .unset, .unset, .unset, .unset, .unset, .unset] [(.int 1)])) _
          refine XS.istore X6.here hx rfl (hb hby at_41) rfl (l' := #[iv p0, iv p1, iv p2, iv p3, iv p4, iv p5, iv 0, iv 1, rv oo, iv 1, .unset, .unset, .unset, .unset, .unset, .unset, .unset, .unset, .unset]) rfl ?_
          show Steps p.tables e below (T6.setTop (mkF m 43 #[iv p0, iv p1, iv p2, iv p3, iv p4, iv p5, iv 0, iv 1, rv oo, iv 1, .unset, .unset, .unset, .unset, .unset, .unset, .unset, .unset, .unset] [])) _
          refine XS.iload X6.here hx rfl (hb hby at_43) rfl ?_
          show Steps p.tables e below (T6.setTop (mkF m 45 #[iv p0, iv p1, iv p2, iv p3, iv p4, iv p5, iv 0, iv 1, rv oo, iv 1, .unset, .unset, .unset, .unset, .unset, .unset, .unset, .unset, .unset] [(.int 1)])) _
          refine XS.ifNo X6.here hx rfl (hb hby at_45) rfl ((if0 _ _).trans (feq (by decide)).1) ?_
          show Steps p.tables e below (T6.setTop (mkF m 48 #[iv p0, iv p1, iv p2, iv p3, iv p4, iv p5, iv 0, iv 1, rv oo, iv 1, .unset, .unset, .unset, .unset, .unset, .unset, .unset, .unset, .unset] [])) _
          refine XS.iloadN X6.here hx rfl (hb hby at_48) rfl ?_
          show Steps p.tables e below (T6.setTop (mkF m 49 #[iv p0, iv p1, iv p2, iv p3, iv p4, iv p5, iv 0, iv 1, rv oo, iv 1, .unset, .unset, .unset, .unset, .unset, .unset, .unset, .unset, .unset] [(.int p2)])) _
          refine X6.ldcInt hx hown (mvT hZ (hw _ (own_m 163 rfl))) (g := (mkF m 49 #[iv p0, iv p1, iv p2, iv p3, iv p4, iv p5, iv 0, iv 1, rv oo, iv 1, .unset, .unset, .unset, .unset, .unset, .unset, .unset, .unset, .unset] [(.int p2)])) rfl (hb hby at_49) _ ?_
          show Steps p.tables e below (T6.setTop (mkF m 51 #[iv p0, iv p1, iv p2, iv p3, iv p4, iv p5, iv 0, iv 1, rv oo, iv 1, .unset, .unset, .unset, .unset, .unset, .unset, .unset, .unset, .unset] [(.int 2147483647), (.int p2)])) _
          refine XS.iand X6.here hx rfl (hb hby at_51) rfl ?_
          show Steps p.tables e below (T6.setTop (mkF m 52 #[iv p0, iv p1, iv p2, iv p3, iv p4, iv p5, iv 0, iv 1, rv oo, iv 1, .unset, .unset, .unset, .unset, .unset, .unset, .unset, .unset, .unset] [(.int (p2 &&& (2147483647 : Int32)))])) _
          refine XS.iconst X6.here hx rfl (hb hby at_52) ?_
          show Steps p.tables e below (T6.setTop (mkF m 53 #[iv p0, iv p1, iv p2, iv p3, iv p4, iv p5, iv 0, iv 1, rv oo, iv 1, .unset, .unset, .unset, .unset, .unset, .unset, .unset, .unset, .unset] [(.int 3), (.int (p2 &&& (2147483647 : Int32)))])) _
          refine iremM X6 hx rfl (hb hby at_53) rfl (by decide) ?_
          show Steps p.tables e below (T6.setTop (mkF m 54 #[iv p0, iv p1, iv p2, iv p3, iv p4, iv p5, iv 0, iv 1, rv oo, iv 1, .unset, .unset, .unset, .unset, .unset, .unset, .unset, .unset, .unset] [(.int ((p2 &&& (2147483647 : Int32)) % (3 : Int32)))])) _
          refine XS.goto X6.here hx rfl (pc0 := 54) (pc' := 58) rfl (hb hby at_54) (by decide) (by decide) ?_
          show Steps p.tables e below (T6.setTop (mkF m 58 #[iv p0, iv p1, iv p2, iv p3, iv p4, iv p5, iv 0, iv 1, rv oo, iv 1, .unset, .unset, .unset, .unset, .unset, .unset, .unset, .unset, .unset] [(.int ((p2 &&& (2147483647 : Int32)) % (3 : Int32)))])) _
          refine XS.istore X6.here hx rfl (hb hby at_58) rfl (l' := #[iv p0, iv p1, iv p2, iv p3, iv p4, iv p5, iv 0, iv 1, rv oo, iv 1, .val (.int ((p2 &&& (2147483647 : Int32)) % (3 : Int32))), .unset, .unset, .unset, .unset, .unset, .unset, .unset, .unset]) rfl ?_
          show Steps p.tables e below (T6.setTop (mkF m 60 #[iv p0, iv p1, iv p2, iv p3, iv p4, iv p5, iv 0, iv 1, rv oo, iv 1, .val (.int ((p2 &&& (2147483647 : Int32)) % (3 : Int32))), .unset, .unset, .unset, .unset, .unset, .unset, .unset, .unset] [])) _
          refine XS.aload X6.here hx rfl (hb hby at_60) rfl rfl ?_
          show Steps p.tables e below (T6.setTop (mkF m 62 #[iv p0, iv p1, iv p2, iv p3, iv p4, iv p5, iv 0, iv 1, rv oo, iv 1, .val (.int ((p2 &&& (2147483647 : Int32)) % (3 : Int32))), .unset, .unset, .unset, .unset, .unset, .unset, .unset, .unset] [(.ref oo)])) _
          refine st8 _ ?_
          show Steps p.tables e below (T8.setTop (mkF m 65 #[iv p0, iv p1, iv p2, iv p3, iv p4, iv p5, iv 0, iv 1, rv oo, iv 1, .val (.int ((p2 &&& (2147483647 : Int32)) % (3 : Int32))), .unset, .unset, .unset, .unset, .unset, .unset, .unset, .unset] [(.ref w_SPLIT), (.ref oo)])) _
          refine Jvm.RoadKit.acmp (g := (mkF m 65 #[iv p0, iv p1, iv p2, iv p3, iv p4, iv p5, iv 0, iv 1, rv oo, iv 1, .val (.int ((p2 &&& (2147483647 : Int32)) % (3 : Int32))), .unset, .unset, .unset, .unset, .unset, .unset, .unset, .unset] [(.ref w_SPLIT), (.ref oo)])) X8 hx rfl rfl rfl (pc0 := 65) (pc' := 77) (same := false) rfl (hb hby at_65) rfl (decide_eq_false fun q => ha4 (Value.ref.inj q)) (by decide) (by decide) ?_
          show Steps p.tables e below (T8.setTop (mkF m 77 #[iv p0, iv p1, iv p2, iv p3, iv p4, iv p5, iv 0, iv 1, rv oo, iv 1, .val (.int ((p2 &&& (2147483647 : Int32)) % (3 : Int32))), .unset, .unset, .unset, .unset, .unset, .unset, .unset, .unset] [])) _
          refine XS.iloadN X8.here hx rfl (hb hby at_77) rfl ?_
          show Steps p.tables e below (T8.setTop (mkF m 78 #[iv p0, iv p1, iv p2, iv p3, iv p4, iv p5, iv 0, iv 1, rv oo, iv 1, .val (.int ((p2 &&& (2147483647 : Int32)) % (3 : Int32))), .unset, .unset, .unset, .unset, .unset, .unset, .unset, .unset] [(.int p3)])) _
          refine XS.istore X8.here hx rfl (hb hby at_78) rfl (l' := #[iv p0, iv p1, iv p2, iv p3, iv p4, iv p5, iv 0, iv 1, rv oo, iv 1, .val (.int ((p2 &&& (2147483647 : Int32)) % (3 : Int32))), iv p3, .unset, .unset, .unset, .unset, .unset, .unset, .unset]) rfl ?_
          show Steps p.tables e below (T8.setTop (mkF m 80 #[iv p0, iv p1, iv p2, iv p3, iv p4, iv p5, iv 0, iv 1, rv oo, iv 1, .val (.int ((p2 &&& (2147483647 : Int32)) % (3 : Int32))), iv p3, .unset, .unset, .unset, .unset, .unset, .unset, .unset] [])) _
          exact kt
        · obtain ⟨T9, X9, e9, st9⟩ := getS2 X6 hx hZ hown (host := "") (Or.inl (hw _ (own_m 7 rfl))) Via.refl e6 (U_SPLIT.1.ext O0.2) (g := (mkF m 62 #[iv p0, iv p1, iv p2, iv p3, iv p4, iv p5, iv 0, iv 1, rv oo, iv 0, iv p2, .unset, .unset, .unset, .unset, .unset, .unset, .unset, .unset] [(.ref oo)])) rfl (hb hby at_62)
          refine ⟨(0 : Int32), p2, p3, T9, _, ⟨fun q => (q.elim ha4 ha7).elim, fun q => (ha4 q).elim⟩, X9, N1, e9, fun target kt => ?_⟩
          show Steps p.tables e below (T1.setTop (mkF m 20 #[iv p0, iv p1, iv p2, iv p3, iv p4, iv p5, iv 0, iv 1, rv oo, .unset, .unset, .unset, .unset, .unset, .unset, .unset, .unset, .unset, .unset] [])) _
          refine XS.aload X1.here hx rfl (hb hby at_20) rfl rfl ?_
          show Steps p.tables e below (T1.setTop (mkF m 22 #[iv p0, iv p1, iv p2, iv p3, iv p4, iv p5, iv 0, iv 1, rv oo, .unset, .unset, .unset, .unset, .unset, .unset, .unset, .unset, .unset, .unset] [(.ref oo)])) _
          refine st3 _ ?_
          show Steps p.tables e below (T3.setTop (mkF m 25 #[iv p0, iv p1, iv p2, iv p3, iv p4, iv p5, iv 0, iv 1, rv oo, .unset, .unset, .unset, .unset, .unset, .unset, .unset, .unset, .unset, .unset] [(.ref w_SPLIT), (.ref oo)])) _
          refine Jvm.RoadKit.acmp (g := (mkF m 25 #[iv p0, iv p1, iv p2, iv p3, iv p4, iv p5, iv 0, iv 1, rv oo, .unset, .unset, .unset, .unset, .unset, .unset, .unset, .unset, .unset, .unset] [(.ref w_SPLIT), (.ref oo)])) X3 hx rfl rfl rfl (pc0 := 25) (pc' := 28) (same := false) rfl (hb hby at_25) rfl (decide_eq_false fun q => ha4 (Value.ref.inj q)) (by decide) (by decide) ?_
          show Steps p.tables e below (T3.setTop (mkF m 28 #[iv p0, iv p1, iv p2, iv p3, iv p4, iv p5, iv 0, iv 1, rv oo, .unset, .unset, .unset, .unset, .unset, .unset, .unset, .unset, .unset, .unset] [])) _
          refine XS.aload X3.here hx rfl (hb hby at_28) rfl rfl ?_
          show Steps p.tables e below (T3.setTop (mkF m 30 #[iv p0, iv p1, iv p2, iv p3, iv p4, iv p5, iv 0, iv 1, rv oo, .unset, .unset, .unset, .unset, .unset, .unset, .unset, .unset, .unset, .unset] [(.ref oo)])) _
          refine st6 _ ?_
          show Steps p.tables e below (T6.setTop (mkF m 33 #[iv p0, iv p1, iv p2, iv p3, iv p4, iv p5, iv 0, iv 1, rv oo, .unset, .unset, .unset, .unset, .unset, .unset, .unset, .unset, .unset, .unset] [(.ref w_JUMP), (.ref oo)])) _
          refine Jvm.RoadKit.acmp (g := (mkF m 33 #[iv p0, iv p1, iv p2, iv p3, iv p4, iv p5, iv 0, iv 1, rv oo, .unset, .unset, .unset, .unset, .unset, .unset, .unset, .unset, .unset, .unset] [(.ref w_JUMP), (.ref oo)])) X6 hx rfl rfl rfl (pc0 := 33) (pc' := 40) (same := false) rfl (hb hby at_33) rfl (decide_eq_false fun q => ha7 (Value.ref.inj q)) (by decide) (by decide) ?_
          show Steps p.tables e below (T6.setTop (mkF m 40 #[iv p0, iv p1, iv p2, iv p3, iv p4, iv p5, iv 0, iv 1, rv oo, .unset, .unset, .unset, .unset, .unset, .unset, .unset, .unset, .unset, .unset] [])) _
          refine XS.iconst X6.here hx rfl (hb hby at_40) ?_
          show Steps p.tables e below (T6.setTop (mkF m 41 #[iv p0, iv p1, iv p2, iv p3, iv p4, iv p5, iv 0, iv 1, rv oo, .unset, .unset, .unset, .unset, .unset, .unset, .unset, .unset, .unset, .unset] [(.int 0)])) _
          refine XS.istore X6.here hx rfl (hb hby at_41) rfl (l' := #[iv p0, iv p1, iv p2, iv p3, iv p4, iv p5, iv 0, iv 1, rv oo, iv 0, .unset, .unset, .unset, .unset, .unset, .unset, .unset, .unset, .unset]) rfl ?_
          show Steps p.tables e below (T6.setTop (mkF m 43 #[iv p0, iv p1, iv p2, iv p3, iv p4, iv p5, iv 0, iv 1, rv oo, iv 0, .unset, .unset, .unset, .unset, .unset, .unset, .unset, .unset, .unset] [])) _
          refine XS.iload X6.here hx rfl (hb hby at_43) rfl ?_
          show Steps p.tables e below (T6.setTop (mkF m 45 #[iv p0, iv p1, iv p2, iv p3, iv p4, iv p5, iv 0, iv 1, rv oo, iv 0, .unset, .unset, .unset, .unset, .unset, .unset, .unset, .unset, .unset] [(.int 0)])) _
          refine XS.ifYes X6.here hx rfl (pc0 := 45) (pc' := 57) rfl (hb hby at_45) rfl ((if0 _ _).trans (teq (by decide)).1) (by decide) (by decide) ?_
          show Steps p.tables e below (T6.setTop (mkF m 57 #[iv p0, iv p1, iv p2, iv p3, iv p4, iv p5, iv 0, iv 1, rv oo, iv 0, .unset, .unset, .unset, .unset, .unset, .unset, .unset, .unset, .unset] [])) _
          refine XS.iloadN X6.here hx rfl (hb hby at_57) rfl ?_
          show Steps p.tables e below (T6.setTop (mkF m 58 #[iv p0, iv p1, iv p2, iv p3, iv p4, iv p5, iv 0, iv 1, rv oo, iv 0, .unset, .unset, .unset, .unset, .unset, .unset, .unset, .unset, .unset] [(.int p2)])) _
          refine XS.istore X6.here hx rfl (hb hby at_58) rfl (l' := #[iv p0, iv p1, iv p2, iv p3, iv p4, iv p5, iv 0, iv 1, rv oo, iv 0, iv p2, .unset, .unset, .unset, .unset, .unset, .unset, .unset, .unset]) rfl ?_
          show Steps p.tables e below (T6.setTop (mkF m 60 #[iv p0, iv p1, iv p2, iv p3, iv p4, iv p5, iv 0, iv 1, rv oo, iv 0, iv p2, .unset, .unset, .unset, .unset, .unset, .unset, .unset, .unset] [])) _
          refine XS.aload X6.here hx rfl (hb hby at_60) rfl rfl ?_
          show Steps p.tables e below (T6.setTop (mkF m 62 #[iv p0, iv p1, iv p2, iv p3, iv p4, iv p5, iv 0, iv 1, rv oo, iv 0, iv p2, .unset, .unset, .unset, .unset, .unset, .unset, .unset, .unset] [(.ref oo)])) _
          refine st9 _ ?_
          show Steps p.tables e below (T9.setTop (mkF m 65 #[iv p0, iv p1, iv p2, iv p3, iv p4, iv p5, iv 0, iv 1, rv oo, iv 0, iv p2, .unset, .unset, .unset, .unset, .unset, .unset, .unset, .unset] [(.ref w_SPLIT), (.ref oo)])) _
          refine Jvm.RoadKit.acmp (g := (mkF m 65 #[iv p0, iv p1, iv p2, iv p3, iv p4, iv p5, iv 0, iv 1, rv oo, iv 0, iv p2, .unset, .unset, .unset, .unset, .unset, .unset, .unset, .unset] [(.ref w_SPLIT), (.ref oo)])) X9 hx rfl rfl rfl (pc0 := 65) (pc' := 77) (same := false) rfl (hb hby at_65) rfl (decide_eq_false fun q => ha4 (Value.ref.inj q)) (by decide) (by decide) ?_
          show Steps p.tables e below (T9.setTop (mkF m 77 #[iv p0, iv p1, iv p2, iv p3, iv p4, iv p5, iv 0, iv 1, rv oo, iv 0, iv p2, .unset, .unset, .unset, .unset, .unset, .unset, .unset, .unset] [])) _
          refine XS.iloadN X9.here hx rfl (hb hby at_77) rfl ?_
          show Steps p.tables e below (T9.setTop (mkF m 78 #[iv p0, iv p1, iv p2, iv p3, iv p4, iv p5, iv 0, iv 1, rv oo, iv 0, iv p2, .unset, .unset, .unset, .unset, .unset, .unset, .unset, .unset] [(.int p3)])) _
          refine XS.istore X9.here hx rfl (hb hby at_78) rfl (l' := #[iv p0, iv p1, iv p2, iv p3, iv p4, iv p5, iv 0, iv 1, rv oo, iv 0, iv p2, iv p3, .unset, .unset, .unset, .unset, .unset, .unset, .unset]) rfl ?_
          show Steps p.tables e below (T9.setTop (mkF m 80 #[iv p0, iv p1, iv p2, iv p3, iv p4, iv p5, iv 0, iv 1, rv oo, iv 0, iv p2, iv p3, .unset, .unset, .unset, .unset, .unset, .unset, .unset] [])) _
          exact kt
    obtain ⟨T10, h10, X10, e10, E10, A10, D10, -, st10⟩ := newO X2 hx hZ hown (hw _ (own_m 11 rfl)) (hw _ (own_m 12 rfl)) (hw _ (own_m 13 rfl)) e2 (g := (mkF m 80 #[iv p0, iv p1, iv p2, iv p3, iv p4, iv p5, iv 0, iv 1, rv oo, iv jv, iv fa, iv fb, .unset, .unset, .unset, .unset, .unset, .unset, .unset] [])) rfl (hb hby at_80) (by decide) (by decide)
    obtain ⟨b10, g10⟩ : ∃ z, z = h0.size := ⟨_, rfl⟩
    rw [← g10] at A10 D10 st10
    have gg_b10 : n0 ≤ b10 := g10 ▸ own_le O0
    have O11 := O0.ext E10
    have F_ops_b10 : Fld Z h10 b10 "com/example/quillgraph/quillgraph/sparql/RegexProgram$Builder" "ops" "[Lcom/example/quillgraph/quillgraph/sparql/RegexProgram$Op;" .null := D10 (Or.inl (hw _ (own_m 23 rfl))) (ty := (.array (.object "com/example/quillgraph/quillgraph/sparql/RegexProgram$Op"))) (by decide)
    have F_first_b10 : Fld Z h10 b10 "com/example/quillgraph/quillgraph/sparql/RegexProgram$Builder" "first" "[I" .null := D10 (Or.inl (hw _ (own_m 26 rfl))) (ty := (.array .int)) (by decide)
    have F_second_b10 : Fld Z h10 b10 "com/example/quillgraph/quillgraph/sparql/RegexProgram$Builder" "second" "[I" .null := D10 (Or.inl (hw _ (own_m 28 rfl))) (ty := (.array .int)) (by decide)
    have F_classes_b10 : Fld Z h10 b10 "com/example/quillgraph/quillgraph/sparql/RegexProgram$Builder" "classes" "Ljava/util/List;" .null := D10 (Or.inr (hw _ (own_m 54 rfl))) (ty := (.object "java/util/List")) (by decide)
    have F_limit_b10 : Fld Z h10 b10 "com/example/quillgraph/quillgraph/sparql/RegexProgram$Builder" "limit" "I" (.int 0) := D10 (Or.inr (hw _ (own_m 56 rfl))) (ty := .int) (by decide)
    have F_size_b10 : Fld Z h10 b10 "com/example/quillgraph/quillgraph/sparql/RegexProgram$Builder" "size" "I" (.int 0) := D10 (Or.inl (hw _ (own_m 68 rfl))) (ty := .int) (by decide)
    have F_registers_b10 : Fld Z h10 b10 "com/example/quillgraph/quillgraph/sparql/RegexProgram$Builder" "registers" "I" (.int 0) := D10 (Or.inl (hw _ (own_m 126 rfl))) (ty := .int) (by decide)
    obtain ⟨_, _, ⟨T12, L12, k12, n12⟩, -, X12, ⟨Lc12, hQ12, l12, y12, z12⟩, st12⟩ := X10.specialBack hx (y := (⟨"com/example/quillgraph/quillgraph/sparql/RegexProgram$Builder", "<init>", "(I)V"⟩ : MethodName)) rfl hown (mvT hZ (hw _ (own_m 14 rfl))) (mvT hZ (hw _ (own_m 15 rfl))) (mvT hZ (hw _ (own_m 16 rfl))) (by decide) (backOf (W := 1) (own_bk l Z a0 hw [] w_CHARACTER w_SPLIT w_JUMP w_TEXT_START w_LINE_START w_TEXT_END w_LINE_END w_SAVE w_BACK_REFERENCE w_MARK w_PROGRESS w_MATCH w_NOTHING w_DE k_DE b10 h10 n0 O11 U_CHARACTER U_SPLIT U_JUMP U_TEXT_START U_LINE_START U_TEXT_END U_LINE_END U_SAVE U_BACK_REFERENCE U_MARK U_PROGRESS U_MATCH U_NOTHING S_DE V_DE gg_b10 A10 F_ops_b10 F_first_b10 F_second_b10 F_classes_b10 F_limit_b10 F_size_b10 F_registers_b10) hZ (hw _ (own_m 16 rfl)) (hw _ (own_m 13 rfl)) (by decide) (by decide)) (g := (mkF m 86 #[iv p0, iv p1, iv p2, iv p3, iv p4, iv p5, iv 0, iv 1, rv oo, iv jv, iv fa, iv fb, .unset, .unset, .unset, .unset, .unset, .unset, .unset] [(.int 16), (.ref b10), (.ref b10)])) rfl (by rw [hml]; rfl) (Steps.refl _) (a := b10) (argsL := [(.int 16)]) (rest := [(.ref b10)]) (lenOf own_pd8 rfl) rfl (by show 2 * 0 + _ ≤ _; exact Nat.le_of_eq rfl) (hb hby at_86) (fun _ _ => ⟨rfl, e10, (by decide : 1 + 4 ≤ _), (by decide : 7 + 51 ≤ _)⟩)
    dsimp only [Pt.U, Pt.locs, Pt.cells, Pt.slots] at X12 l12 y12 z12 st12 hQ12
    subst l12 y12 z12
    obtain ⟨rfl, N12q, K12, bo, bf, bs, ll, ko, kf, ks, z_bo, z_bf, z_bs, z_ll, n_bo_a, n_bf_a, n_bs_a, n_ll_a, n_bo_bf, n_bo_bs, n_bf_bs, n_bo_ll, n_bf_ll, n_bs_ll, O_bo, V_bo, V_bf, V_bs, q13, q14, q15, q16, q17, q18, q19, q20, q21, q22, q23, q24⟩ := hQ12
    have N12 := Fr.app N2 N12q
    have g_bo : n0 ≤ bo := Nat.le_trans (own_le O11) z_bo
    have g_bf : n0 ≤ bf := Nat.le_trans (own_le O11) z_bf
    have g_bs : n0 ≤ bs := Nat.le_trans (own_le O11) z_bs
    have g_ll : n0 ≤ ll := Nat.le_trans (own_le O11) z_ll
    have O25 := O11.keep K12 (allS gg_b10 all0)
    obtain ⟨T26, X26, e26, st26⟩ := getS2 X12 hx hZ hown (host := "") (Or.inl (hw _ (own_m 4 rfl))) Via.refl rfl (U_TEXT_START.1.ext O25.2) (g := (mkF m 93 #[iv p0, iv p1, iv p2, iv p3, iv p4, iv p5, iv 0, iv 1, rv oo, iv jv, iv fa, iv fb, rv b10, .unset, .unset, .unset, .unset, .unset, .unset] [(.ref b10)])) rfl (hb hby at_93)
    obtain ⟨cq27, kq27, q27a, q27b, q27c⟩ := isOf hZ e26 q17
    obtain ⟨_, _, ⟨T27, L27, k27, n27⟩, -, X27, ⟨Lc27, hQ27, l27, y27, z27⟩, st27⟩ := X26.virtualBack hx (y := (⟨"com/example/quillgraph/quillgraph/sparql/RegexProgram$Builder", "add", "(Lcom/example/quillgraph/quillgraph/sparql/RegexProgram$Op;II)I"⟩ : MethodName)) (z := (⟨"com/example/quillgraph/quillgraph/sparql/RegexProgram$Builder", "add", "(Lcom/example/quillgraph/quillgraph/sparql/RegexProgram$Op;II)I"⟩ : MethodName)) hown (mvT hZ (hw _ (own_m 57 rfl))) (mvT hZ (hw _ (own_m 58 rfl))) (notFace_of_selects (args := #[]) (mvT hZ (hw _ (own_m 60 rfl)))) (mvT hZ (hw _ (own_m 60 rfl))) (mvT hZ (hw _ (own_m 59 rfl))) (by decide) (backOf (W := 0) (own_add0 l Z a0 hw [] w_CHARACTER w_SPLIT w_JUMP w_TEXT_START w_LINE_START w_TEXT_END w_LINE_END w_SAVE w_BACK_REFERENCE w_MARK w_PROGRESS w_MATCH w_NOTHING w_DE k_DE b10 bo bf bs ll ko kf ks w_TEXT_START p4 p5 T12.heap n0 O25 U_CHARACTER U_SPLIT U_JUMP U_TEXT_START U_LINE_START U_TEXT_END U_LINE_END U_SAVE U_BACK_REFERENCE U_MARK U_PROGRESS U_MATCH U_NOTHING S_DE V_DE gg_b10 q17 q18 q19 q20 q21 q22 q23 q24 g_bo g_bf g_bs n_bo_a n_bf_a n_bs_a n_ll_a n_bo_bf n_bo_bs n_bf_bs n_bo_ll n_bf_ll n_bs_ll O_bo V_bo V_bf V_bs (U_TEXT_START.2.1.ext O25.2)) hZ (hw _ (own_m 61 rfl)) (hw _ (own_m 13 rfl)) (by decide) (by decide)) q27a q27c (g := (mkF m 100 #[iv p0, iv p1, iv p2, iv p3, iv p4, iv p5, iv 0, iv 1, rv oo, iv jv, iv fa, iv fb, rv b10, .unset, .unset, .unset, .unset, .unset, .unset] [(.int p5), (.int p4), (.ref w_TEXT_START), (.ref b10)])) rfl (by rw [hml]; rfl) (Steps.refl _) (argsL := [(.ref w_TEXT_START), (.int p4), (.int p5)]) (rest := []) (lenOf own_pd2 rfl) rfl (by show 2 * 0 + _ ≤ _; exact Nat.le_of_eq rfl) (hb hby at_100) (fun _ _ => ⟨rfl, e26, (by decide : 5 + 0 ≤ _), (by decide : 58 + 0 ≤ _)⟩)
    dsimp only [Pt.U, Pt.locs, Pt.cells, Pt.slots] at X27 l27 y27 z27 st27 hQ27
    subst l27 y27 z27
    obtain ⟨rfl, N27q, K27, q28, q29, q30, q31, q32, q33, q34, q35, q36, q37, q38⟩ := hQ27
    have N27 := Fr.app N12 N27q
    have O39 := O25.keep K27 (allS gg_b10 (allS g_bo (allS g_bf (allS g_bs all0))))
    obtain ⟨T40, X40, e40, st40⟩ := getS2 X27 hx hZ hown (host := "") (Or.inl (hw _ (own_m 70 rfl))) Via.refl rfl (U_LINE_END.1.ext O39.2) (g := (mkF m 106 #[iv p0, iv p1, iv p2, iv p3, iv p4, iv p5, iv 0, iv 1, rv oo, iv jv, iv fa, iv fb, rv b10, .unset, .unset, .unset, .unset, .unset, .unset] [(.ref b10)])) rfl (hb hby at_106)
    obtain ⟨cq41, kq41, q41a, q41b, q41c⟩ := isOf hZ e40 q31
    obtain ⟨_, _, ⟨T41, L41, k41, n41⟩, -, X41, ⟨Lc41, hQ41, l41, y41, z41⟩, st41⟩ := X40.virtualBack hx (y := (⟨"com/example/quillgraph/quillgraph/sparql/RegexProgram$Builder", "add", "(Lcom/example/quillgraph/quillgraph/sparql/RegexProgram$Op;II)I"⟩ : MethodName)) (z := (⟨"com/example/quillgraph/quillgraph/sparql/RegexProgram$Builder", "add", "(Lcom/example/quillgraph/quillgraph/sparql/RegexProgram$Op;II)I"⟩ : MethodName)) hown (mvT hZ (hw _ (own_m 57 rfl))) (mvT hZ (hw _ (own_m 58 rfl))) (notFace_of_selects (args := #[]) (mvT hZ (hw _ (own_m 60 rfl)))) (mvT hZ (hw _ (own_m 60 rfl))) (mvT hZ (hw _ (own_m 59 rfl))) (by decide) (backOf (W := 0) (own_add1 l Z a0 hw [] w_CHARACTER w_SPLIT w_JUMP w_TEXT_START w_LINE_START w_TEXT_END w_LINE_END w_SAVE w_BACK_REFERENCE w_MARK w_PROGRESS w_MATCH w_NOTHING w_DE k_DE b10 bo bf bs ll ko kf ks w_TEXT_START p4 p5 w_LINE_END p5 p4 T27.heap n0 O39 U_CHARACTER U_SPLIT U_JUMP U_TEXT_START U_LINE_START U_TEXT_END U_LINE_END U_SAVE U_BACK_REFERENCE U_MARK U_PROGRESS U_MATCH U_NOTHING S_DE V_DE gg_b10 q31 q32 q33 q34 q35 q36 q37 q38 g_bo g_bf g_bs n_bo_a n_bf_a n_bs_a n_ll_a n_bo_bf n_bo_bs n_bf_bs n_bo_ll n_bf_ll n_bs_ll O_bo q28 q29 q30 (U_LINE_END.2.1.ext O39.2)) hZ (hw _ (own_m 61 rfl)) (hw _ (own_m 13 rfl)) (by decide) (by decide)) q41a q41c (g := (mkF m 113 #[iv p0, iv p1, iv p2, iv p3, iv p4, iv p5, iv 0, iv 1, rv oo, iv jv, iv fa, iv fb, rv b10, .unset, .unset, .unset, .unset, .unset, .unset] [(.int p4), (.int p5), (.ref w_LINE_END), (.ref b10)])) rfl (by rw [hml]; rfl) (Steps.refl _) (argsL := [(.ref w_LINE_END), (.int p5), (.int p4)]) (rest := []) (lenOf own_pd2 rfl) rfl (by show 2 * 0 + _ ≤ _; exact Nat.le_of_eq rfl) (hb hby at_113) (fun _ _ => ⟨rfl, e40, (by decide : 5 + 0 ≤ _), (by decide : 58 + 0 ≤ _)⟩)
    dsimp only [Pt.U, Pt.locs, Pt.cells, Pt.slots] at X41 l41 y41 z41 st41 hQ41
    subst l41 y41 z41
    obtain ⟨rfl, N41q, K41, q42, q43, q44, q45, q46, q47, q48, q49, q50, q51, q52⟩ := hQ41
    have N41 := Fr.app N27 N41q
    have O53 := O39.keep K41 (allS gg_b10 (allS g_bo (allS g_bf (allS g_bs all0))))
    obtain ⟨cq54, kq54, q54a, q54b, q54c⟩ := isOf hZ rfl q45
    obtain ⟨_, _, ⟨T54, L54, k54, n54⟩, -, X54, ⟨Lc54, hQ54, l54, y54, z54⟩, st54⟩ := X41.virtualBack hx (y := (⟨"com/example/quillgraph/quillgraph/sparql/RegexProgram$Builder", "set", "(ILcom/example/quillgraph/quillgraph/sparql/RegexProgram$Op;II)V"⟩ : MethodName)) (z := (⟨"com/example/quillgraph/quillgraph/sparql/RegexProgram$Builder", "set", "(ILcom/example/quillgraph/quillgraph/sparql/RegexProgram$Op;II)V"⟩ : MethodName)) hown (mvT hZ (hw _ (own_m 72 rfl))) (mvT hZ (hw _ (own_m 73 rfl))) (notFace_of_selects (args := #[]) (mvT hZ (hw _ (own_m 75 rfl)))) (mvT hZ (hw _ (own_m 75 rfl))) (mvT hZ (hw _ (own_m 74 rfl))) (by decide) (backOf (W := 0) (own_set0 l Z a0 hw [] w_CHARACTER w_SPLIT w_JUMP w_TEXT_START w_LINE_START w_TEXT_END w_LINE_END w_SAVE w_BACK_REFERENCE w_MARK w_PROGRESS w_MATCH w_NOTHING w_DE k_DE b10 bo bf bs ll ko kf ks w_TEXT_START p4 p5 w_LINE_END p5 p4 oo fa fb T41.heap n0 O53 U_CHARACTER U_SPLIT U_JUMP U_TEXT_START U_LINE_START U_TEXT_END U_LINE_END U_SAVE U_BACK_REFERENCE U_MARK U_PROGRESS U_MATCH U_NOTHING S_DE V_DE gg_b10 q45 q46 q47 q48 q49 q50 q51 q52 g_bo g_bf g_bs n_bo_a n_bf_a n_bs_a n_ll_a n_bo_bf n_bo_bs n_bf_bs n_bo_ll n_bf_ll n_bs_ll O_bo q42 q43 q44 (Go.1.ext O53.2)) hZ (hw _ (own_m 76 rfl)) (hw _ (own_m 13 rfl)) (by decide) (by decide)) q54a q54c (g := (mkF m 127 #[iv p0, iv p1, iv p2, iv p3, iv p4, iv p5, iv 0, iv 1, rv oo, iv jv, iv fa, iv fb, rv b10, .unset, .unset, .unset, .unset, .unset, .unset] [(.int fb), (.int fa), (.ref oo), (.int 0), (.ref b10)])) rfl (by rw [hml]; rfl) (Steps.refl _) (argsL := [(.int 0), (.ref oo), (.int fa), (.int fb)]) (rest := []) (lenOf own_pd9 rfl) rfl (by show 2 * 0 + _ ≤ _; exact Nat.le_of_eq rfl) (hb hby at_127) (fun _ _ => ⟨rfl, rfl, (by decide : 5 + 0 ≤ _), (by decide : 58 + 0 ≤ _)⟩)
    dsimp only [Pt.U, Pt.locs, Pt.cells, Pt.slots] at X54 l54 y54 z54 st54 hQ54
    subst l54 y54 z54
    obtain ⟨rfl, N54q, K54, q55, q56, q57, q58, q59, q60, q61, q62, q63, q64, q65⟩ := hQ54
    have N54 := Fr.app N41 N54q
    have O66 := O53.keep K54 (allS g_bo (allS g_bf (allS g_bs all0)))
    have f67 := (((q13.keep K27).keep K41).keep K54)
    have f68 := (((q14.keep K27 (ninS n_ll_a (ninS (Ne.symm n_bo_ll) (ninS (Ne.symm n_bf_ll) (ninS (Ne.symm n_bs_ll) nin0))))).keep K41 (ninS n_ll_a (ninS (Ne.symm n_bo_ll) (ninS (Ne.symm n_bf_ll) (ninS (Ne.symm n_bs_ll) nin0))))).keep K54 (ninS (Ne.symm n_bo_ll) (ninS (Ne.symm n_bf_ll) (ninS (Ne.symm n_bs_ll) nin0))))
    have f69 := (((q15.keep K27 (ninS n_ll_a (ninS (Ne.symm n_bo_ll) (ninS (Ne.symm n_bf_ll) (ninS (Ne.symm n_bs_ll) nin0))))).keep K41 (ninS n_ll_a (ninS (Ne.symm n_bo_ll) (ninS (Ne.symm n_bf_ll) (ninS (Ne.symm n_bs_ll) nin0))))).keep K54 (ninS (Ne.symm n_bo_ll) (ninS (Ne.symm n_bf_ll) (ninS (Ne.symm n_bs_ll) nin0))))
    have f70 := (((q16.keep K27 (ninS n_ll_a (ninS (Ne.symm n_bo_ll) (ninS (Ne.symm n_bf_ll) (ninS (Ne.symm n_bs_ll) nin0))))).keep K41 (ninS n_ll_a (ninS (Ne.symm n_bo_ll) (ninS (Ne.symm n_bf_ll) (ninS (Ne.symm n_bs_ll) nin0))))).keep K54 (ninS (Ne.symm n_bo_ll) (ninS (Ne.symm n_bf_ll) (ninS (Ne.symm n_bs_ll) nin0))))
    obtain ⟨cq71, kq71, q71a, q71b, q71c⟩ := isOf hZ rfl q58
    obtain ⟨_, _, ⟨T71, L71, k71, n71⟩, -, X71, ⟨Lc71, hQ71, l71, y71, z71⟩, st71⟩ := X54.virtualBack hx (y := (⟨"com/example/quillgraph/quillgraph/sparql/RegexProgram$Builder", "build", "()Lcom/example/quillgraph/quillgraph/sparql/RegexProgram;"⟩ : MethodName)) (z := (⟨"com/example/quillgraph/quillgraph/sparql/RegexProgram$Builder", "build", "()Lcom/example/quillgraph/quillgraph/sparql/RegexProgram;"⟩ : MethodName)) hown (mvT hZ (hw _ (own_m 77 rfl))) (mvT hZ (hw _ (own_m 78 rfl))) (notFace_of_selects (args := #[]) (mvT hZ (hw _ (own_m 80 rfl)))) (mvT hZ (hw _ (own_m 80 rfl))) (mvT hZ (hw _ (own_m 79 rfl))) (by decide) (backOf (W := 0) (own_build l Z a0 hw [] w_CHARACTER w_SPLIT w_JUMP w_TEXT_START w_LINE_START w_TEXT_END w_LINE_END w_SAVE w_BACK_REFERENCE w_MARK w_PROGRESS w_MATCH w_NOTHING w_DE k_DE b10 bo bf bs ll ko kf ks oo fa fb w_LINE_END p5 p4 T54.heap n0 O66 U_CHARACTER U_SPLIT U_JUMP U_TEXT_START U_LINE_START U_TEXT_END U_LINE_END U_SAVE U_BACK_REFERENCE U_MARK U_PROGRESS U_MATCH U_NOTHING S_DE V_DE gg_b10 q58 q59 q60 q61 q62 q63 q64 q65 g_bo g_bf g_bs n_bo_a n_bf_a n_bs_a n_ll_a n_bo_bf n_bo_bs n_bf_bs n_bo_ll n_bf_ll n_bs_ll O_bo q55 q56 q57 g_ll f67 f68 f69 f70 Go ⟨U_LINE_END.2.1, Fld.ne U_LINE_END.2.2 U_NOTHING.2.2 (by decide), Fld.ne U_LINE_END.2.2 U_SAVE.2.2 (by decide), Fld.ne U_LINE_END.2.2 U_MARK.2.2 (by decide), Fld.ne U_LINE_END.2.2 U_PROGRESS.2.2 (by decide)⟩ hj2.1 (fun q => (q.elim (Fld.ne U_LINE_END.2.2 U_SPLIT.2.2 (by decide)) (Fld.ne U_LINE_END.2.2 U_JUMP.2.2 (by decide))).elim) hj2.2 (fun q => ((Fld.ne U_LINE_END.2.2 U_SPLIT.2.2 (by decide)) q).elim)) hZ (hw _ (own_m 81 rfl)) (hw _ (own_m 13 rfl)) (by decide) (by decide)) q71a q71c (g := (mkF m 132 #[iv p0, iv p1, iv p2, iv p3, iv p4, iv p5, iv 0, iv 1, rv oo, iv jv, iv fa, iv fb, rv b10, .unset, .unset, .unset, .unset, .unset, .unset] [(.ref b10)])) rfl (by rw [hml]; rfl) (Steps.refl _) (argsL := []) (rest := []) (lenOf own_pd10 rfl) rfl (by show 2 * 0 + _ ≤ _; exact Nat.le_of_eq rfl) (hb hby at_132) (fun _ _ => ⟨rfl, rfl, (by decide : 5 + 6 ≤ _), (by decide : 58 + 18 ≤ _)⟩)
    dsimp only [Pt.U, Pt.locs, Pt.cells, Pt.slots] at X71 l71 y71 z71 st71 hQ71
    subst l71 y71 z71
    obtain ⟨rr, xo, xf, xs, k1, k2, k3, N71q, K71, -, rfl, Er, Fo, Ff, Fs, V_xo, V_xf, V_xs, -⟩ := hQ71
    have N71 := Fr.app N54 N71q
    have O72 := O66.keep K71 (allS gg_b10 (allS g_bo (allS g_bf (allS g_bs all0))))
    obtain ⟨cq73, kq73, q73a, q73b, q73c⟩ := isOf hZ rfl Er
    obtain ⟨_, _, ⟨T73, L73, k73, n73⟩, -, X73, ⟨Lc73, hQ73, l73, y73, z73⟩, st73⟩ := X71.virtualBack hx (y := (⟨"com/example/quillgraph/quillgraph/sparql/RegexProgram", "size", "()I"⟩ : MethodName)) (z := (⟨"com/example/quillgraph/quillgraph/sparql/RegexProgram", "size", "()I"⟩ : MethodName)) hown (mvT hZ (hw _ (own_m 143 rfl))) (mvT hZ (hw _ (own_m 144 rfl))) (notFace_of_selects (args := #[]) (mvT hZ (hw _ (own_m 146 rfl)))) (mvT hZ (hw _ (own_m 146 rfl))) (mvT hZ (hw _ (own_m 145 rfl))) (by decide) (backOf (W := 0) (own_size3 l Z a0 hw [] w_CHARACTER w_SPLIT w_JUMP w_TEXT_START w_LINE_START w_TEXT_END w_LINE_END w_SAVE w_BACK_REFERENCE w_MARK w_PROGRESS w_MATCH w_NOTHING w_DE k_DE rr xo xf xs k1 k2 k3 oo fa fb w_LINE_END p5 p4 T71.heap n0 O72 U_CHARACTER U_SPLIT U_JUMP U_TEXT_START U_LINE_START U_TEXT_END U_LINE_END U_SAVE U_BACK_REFERENCE U_MARK U_PROGRESS U_MATCH U_NOTHING S_DE V_DE Fo Ff Fs V_xo V_xf V_xs) hZ (hw _ (own_m 147 rfl)) (hw _ (own_m 105 rfl)) (by decide) (by decide)) q73a q73c (g := (mkF m 139 #[iv p0, iv p1, iv p2, iv p3, iv p4, iv p5, iv 0, iv 1, rv oo, iv jv, iv fa, iv fb, rv b10, rv rr, .unset, .unset, .unset, .unset, .unset] [(.ref rr)])) rfl (by rw [hml]; rfl) (Steps.refl _) (argsL := []) (rest := []) (lenOf own_pd11 rfl) rfl (by show 2 * 0 + _ ≤ _; exact Nat.le_of_eq rfl) (hb hby at_139) (fun _ _ => ⟨rfl, rfl, (by decide : 11 + 0 ≤ _), (by decide : 76 + 0 ≤ _)⟩)
    dsimp only [Pt.U, Pt.locs, Pt.cells, Pt.slots] at X73 l73 y73 z73 st73 hQ73
    subst l73 y73 z73
    obtain ⟨rfl, N73q, e73⟩ := hQ73
    have N73 := Fr.app N71 N73q
    obtain ⟨cq74, kq74, q74a, q74b, q74c⟩ := isOf hZ e73 Er
    obtain ⟨_, _, ⟨T74, L74, k74, n74⟩, -, X74, ⟨Lc74, hQ74, l74, y74, z74⟩, st74⟩ := X73.virtualBack hx (y := (⟨"com/example/quillgraph/quillgraph/sparql/RegexProgram", "op", "(I)Lcom/example/quillgraph/quillgraph/sparql/RegexProgram$Op;"⟩ : MethodName)) (z := (⟨"com/example/quillgraph/quillgraph/sparql/RegexProgram", "op", "(I)Lcom/example/quillgraph/quillgraph/sparql/RegexProgram$Op;"⟩ : MethodName)) hown (mvT hZ (hw _ (own_m 148 rfl))) (mvT hZ (hw _ (own_m 149 rfl))) (notFace_of_selects (args := #[]) (mvT hZ (hw _ (own_m 151 rfl)))) (mvT hZ (hw _ (own_m 151 rfl))) (mvT hZ (hw _ (own_m 150 rfl))) (by decide) (backOf (W := 0) (own_rop0 l Z a0 hw [] w_CHARACTER w_SPLIT w_JUMP w_TEXT_START w_LINE_START w_TEXT_END w_LINE_END w_SAVE w_BACK_REFERENCE w_MARK w_PROGRESS w_MATCH w_NOTHING w_DE k_DE rr xo xf xs k1 k2 k3 oo fa fb w_LINE_END p5 p4 T71.heap n0 O72 U_CHARACTER U_SPLIT U_JUMP U_TEXT_START U_LINE_START U_TEXT_END U_LINE_END U_SAVE U_BACK_REFERENCE U_MARK U_PROGRESS U_MATCH U_NOTHING S_DE V_DE Fo Ff Fs V_xo V_xf V_xs) hZ (hw _ (own_m 152 rfl)) (hw _ (own_m 105 rfl)) (by decide) (by decide)) q74a q74c (g := (mkF m 152 #[iv p0, iv p1, iv p2, iv p3, iv p4, iv p5, iv 0, iv 1, rv oo, iv jv, iv fa, iv fb, rv b10, rv rr, .unset, .unset, .unset, .unset, .unset] [(.int 0), (.ref rr)])) rfl (by rw [hml]; rfl) (Steps.refl _) (argsL := [(.int 0)]) (rest := []) (lenOf own_pd7 rfl) rfl (by show 2 * 0 + _ ≤ _; exact Nat.le_of_eq rfl) (hb hby at_152) (fun _ _ => ⟨rfl, e73, (by decide : 11 + 0 ≤ _), (by decide : 76 + 0 ≤ _)⟩)
    dsimp only [Pt.U, Pt.locs, Pt.cells, Pt.slots] at X74 l74 y74 z74 st74 hQ74
    subst l74 y74 z74
    obtain ⟨rfl, N74q, e74⟩ := hQ74
    have N74 := Fr.app N73 N74q
    obtain ⟨cq75, kq75, q75a, q75b, q75c⟩ := isOf hZ e74 Er
    obtain ⟨_, _, ⟨T75, L75, k75, n75⟩, -, X75, ⟨Lc75, hQ75, l75, y75, z75⟩, st75⟩ := X74.virtualBack hx (y := (⟨"com/example/quillgraph/quillgraph/sparql/RegexProgram", "first", "(I)I"⟩ : MethodName)) (z := (⟨"com/example/quillgraph/quillgraph/sparql/RegexProgram", "first", "(I)I"⟩ : MethodName)) hown (mvT hZ (hw _ (own_m 153 rfl))) (mvT hZ (hw _ (own_m 154 rfl))) (notFace_of_selects (args := #[]) (mvT hZ (hw _ (own_m 156 rfl)))) (mvT hZ (hw _ (own_m 156 rfl))) (mvT hZ (hw _ (own_m 155 rfl))) (by decide) (backOf (W := 0) (own_rfirst0 l Z a0 hw [] w_CHARACTER w_SPLIT w_JUMP w_TEXT_START w_LINE_START w_TEXT_END w_LINE_END w_SAVE w_BACK_REFERENCE w_MARK w_PROGRESS w_MATCH w_NOTHING w_DE k_DE rr xo xf xs k1 k2 k3 oo fa fb w_LINE_END p5 p4 T71.heap n0 O72 U_CHARACTER U_SPLIT U_JUMP U_TEXT_START U_LINE_START U_TEXT_END U_LINE_END U_SAVE U_BACK_REFERENCE U_MARK U_PROGRESS U_MATCH U_NOTHING S_DE V_DE Fo Ff Fs V_xo V_xf V_xs) hZ (hw _ (own_m 157 rfl)) (hw _ (own_m 105 rfl)) (by decide) (by decide)) q75a q75c (g := (mkF m 164 #[iv p0, iv p1, iv p2, iv p3, iv p4, iv p5, iv 0, iv 1, rv oo, iv jv, iv fa, iv fb, rv b10, rv rr, .unset, .unset, .unset, .unset, .unset] [(.int 0), (.ref rr)])) rfl (by rw [hml]; rfl) (Steps.refl _) (argsL := [(.int 0)]) (rest := []) (lenOf own_pd12 rfl) rfl (by show 2 * 0 + _ ≤ _; exact Nat.le_of_eq rfl) (hb hby at_164) (fun _ _ => ⟨rfl, e74, (by decide : 11 + 0 ≤ _), (by decide : 76 + 0 ≤ _)⟩)
    dsimp only [Pt.U, Pt.locs, Pt.cells, Pt.slots] at X75 l75 y75 z75 st75 hQ75
    subst l75 y75 z75
    obtain ⟨rfl, N75q, e75⟩ := hQ75
    have N75 := Fr.app N74 N75q
    obtain ⟨cq76, kq76, q76a, q76b, q76c⟩ := isOf hZ e75 Er
    obtain ⟨_, _, ⟨T76, L76, k76, n76⟩, -, X76, ⟨Lc76, hQ76, l76, y76, z76⟩, st76⟩ := X75.virtualBack hx (y := (⟨"com/example/quillgraph/quillgraph/sparql/RegexProgram", "second", "(I)I"⟩ : MethodName)) (z := (⟨"com/example/quillgraph/quillgraph/sparql/RegexProgram", "second", "(I)I"⟩ : MethodName)) hown (mvT hZ (hw _ (own_m 158 rfl))) (mvT hZ (hw _ (own_m 159 rfl))) (notFace_of_selects (args := #[]) (mvT hZ (hw _ (own_m 161 rfl)))) (mvT hZ (hw _ (own_m 161 rfl))) (mvT hZ (hw _ (own_m 160 rfl))) (by decide) (backOf (W := 0) (own_rsecond0 l Z a0 hw [] w_CHARACTER w_SPLIT w_JUMP w_TEXT_START w_LINE_START w_TEXT_END w_LINE_END w_SAVE w_BACK_REFERENCE w_MARK w_PROGRESS w_MATCH w_NOTHING w_DE k_DE rr xo xf xs k1 k2 k3 oo fa fb w_LINE_END p5 p4 T71.heap n0 O72 U_CHARACTER U_SPLIT U_JUMP U_TEXT_START U_LINE_START U_TEXT_END U_LINE_END U_SAVE U_BACK_REFERENCE U_MARK U_PROGRESS U_MATCH U_NOTHING S_DE V_DE Fo Ff Fs V_xo V_xf V_xs) hZ (hw _ (own_m 162 rfl)) (hw _ (own_m 105 rfl)) (by decide) (by decide)) q76a q76c (g := (mkF m 176 #[iv p0, iv p1, iv p2, iv p3, iv p4, iv p5, iv 0, iv 1, rv oo, iv jv, iv fa, iv fb, rv b10, rv rr, .unset, .unset, .unset, .unset, .unset] [(.int 0), (.ref rr)])) rfl (by rw [hml]; rfl) (Steps.refl _) (argsL := [(.int 0)]) (rest := []) (lenOf own_pd12 rfl) rfl (by show 2 * 0 + _ ≤ _; exact Nat.le_of_eq rfl) (hb hby at_176) (fun _ _ => ⟨rfl, e75, (by decide : 11 + 0 ≤ _), (by decide : 76 + 0 ≤ _)⟩)
    dsimp only [Pt.U, Pt.locs, Pt.cells, Pt.slots] at X76 l76 y76 z76 st76 hQ76
    subst l76 y76 z76
    obtain ⟨rfl, N76q, e76⟩ := hQ76
    have N76 := Fr.app N75 N76q
    obtain ⟨T77, X77, e77, st77⟩ := getS2 X76 hx hZ hown (host := "") (Or.inl (hw _ (own_m 70 rfl))) Via.refl e76 (U_LINE_END.1.ext O72.2) (g := (mkF m 202 #[iv p0, iv p1, iv p2, iv p3, iv p4, iv p5, iv 0, iv 1, rv oo, iv jv, iv fa, iv fb, rv b10, rv rr, iv 1, .unset, .unset, .unset, .unset] [])) rfl (hb hby at_202)
    obtain ⟨cq78, kq78, q78a, q78b, q78c⟩ := isOf hZ e77 Er
    obtain ⟨_, _, ⟨T78, L78, k78, n78⟩, -, X78, ⟨Lc78, hQ78, l78, y78, z78⟩, st78⟩ := X77.virtualBack hx (y := (⟨"com/example/quillgraph/quillgraph/sparql/RegexProgram", "op", "(I)Lcom/example/quillgraph/quillgraph/sparql/RegexProgram$Op;"⟩ : MethodName)) (z := (⟨"com/example/quillgraph/quillgraph/sparql/RegexProgram", "op", "(I)Lcom/example/quillgraph/quillgraph/sparql/RegexProgram$Op;"⟩ : MethodName)) hown (mvT hZ (hw _ (own_m 148 rfl))) (mvT hZ (hw _ (own_m 149 rfl))) (notFace_of_selects (args := #[]) (mvT hZ (hw _ (own_m 151 rfl)))) (mvT hZ (hw _ (own_m 151 rfl))) (mvT hZ (hw _ (own_m 150 rfl))) (by decide) (backOf (W := 0) (own_rop1 l Z a0 hw [] w_CHARACTER w_SPLIT w_JUMP w_TEXT_START w_LINE_START w_TEXT_END w_LINE_END w_SAVE w_BACK_REFERENCE w_MARK w_PROGRESS w_MATCH w_NOTHING w_DE k_DE rr xo xf xs k1 k2 k3 oo fa fb w_LINE_END p5 p4 T71.heap n0 O72 U_CHARACTER U_SPLIT U_JUMP U_TEXT_START U_LINE_START U_TEXT_END U_LINE_END U_SAVE U_BACK_REFERENCE U_MARK U_PROGRESS U_MATCH U_NOTHING S_DE V_DE Fo Ff Fs V_xo V_xf V_xs) hZ (hw _ (own_m 152 rfl)) (hw _ (own_m 105 rfl)) (by decide) (by decide)) q78a q78c (g := (mkF m 239 #[iv p0, iv p1, iv p2, iv p3, iv p4, iv p5, iv 0, iv 1, rv oo, iv jv, iv fa, iv fb, rv b10, rv rr, iv 1, rv w_LINE_END, iv p5, iv p4, .unset] [(.int 1), (.ref rr)])) rfl (by rw [hml]; rfl) (Steps.refl _) (argsL := [(.int 1)]) (rest := []) (lenOf own_pd7 rfl) rfl (by show 2 * 0 + _ ≤ _; exact Nat.le_of_eq rfl) (hb hby at_239) (fun _ _ => ⟨rfl, e77, (by decide : 11 + 0 ≤ _), (by decide : 76 + 0 ≤ _)⟩)
    dsimp only [Pt.U, Pt.locs, Pt.cells, Pt.slots] at X78 l78 y78 z78 st78 hQ78
    subst l78 y78 z78
    obtain ⟨rfl, N78q, e78⟩ := hQ78
    have N78 := Fr.app N76 N78q
    obtain ⟨cq79, kq79, q79a, q79b, q79c⟩ := isOf hZ e78 Er
    obtain ⟨_, _, ⟨T79, L79, k79, n79⟩, -, X79, ⟨Lc79, hQ79, l79, y79, z79⟩, st79⟩ := X78.virtualBack hx (y := (⟨"com/example/quillgraph/quillgraph/sparql/RegexProgram", "first", "(I)I"⟩ : MethodName)) (z := (⟨"com/example/quillgraph/quillgraph/sparql/RegexProgram", "first", "(I)I"⟩ : MethodName)) hown (mvT hZ (hw _ (own_m 153 rfl))) (mvT hZ (hw _ (own_m 154 rfl))) (notFace_of_selects (args := #[]) (mvT hZ (hw _ (own_m 156 rfl)))) (mvT hZ (hw _ (own_m 156 rfl))) (mvT hZ (hw _ (own_m 155 rfl))) (by decide) (backOf (W := 0) (own_rfirst1 l Z a0 hw [] w_CHARACTER w_SPLIT w_JUMP w_TEXT_START w_LINE_START w_TEXT_END w_LINE_END w_SAVE w_BACK_REFERENCE w_MARK w_PROGRESS w_MATCH w_NOTHING w_DE k_DE rr xo xf xs k1 k2 k3 oo fa fb w_LINE_END p5 p4 T71.heap n0 O72 U_CHARACTER U_SPLIT U_JUMP U_TEXT_START U_LINE_START U_TEXT_END U_LINE_END U_SAVE U_BACK_REFERENCE U_MARK U_PROGRESS U_MATCH U_NOTHING S_DE V_DE Fo Ff Fs V_xo V_xf V_xs) hZ (hw _ (own_m 157 rfl)) (hw _ (own_m 105 rfl)) (by decide) (by decide)) q79a q79c (g := (mkF m 251 #[iv p0, iv p1, iv p2, iv p3, iv p4, iv p5, iv 0, iv 1, rv oo, iv jv, iv fa, iv fb, rv b10, rv rr, iv 1, rv w_LINE_END, iv p5, iv p4, .unset] [(.int 1), (.ref rr)])) rfl (by rw [hml]; rfl) (Steps.refl _) (argsL := [(.int 1)]) (rest := []) (lenOf own_pd12 rfl) rfl (by show 2 * 0 + _ ≤ _; exact Nat.le_of_eq rfl) (hb hby at_251) (fun _ _ => ⟨rfl, e78, (by decide : 11 + 0 ≤ _), (by decide : 76 + 0 ≤ _)⟩)
    dsimp only [Pt.U, Pt.locs, Pt.cells, Pt.slots] at X79 l79 y79 z79 st79 hQ79
    subst l79 y79 z79
    obtain ⟨rfl, N79q, e79⟩ := hQ79
    have N79 := Fr.app N78 N79q
    obtain ⟨cq80, kq80, q80a, q80b, q80c⟩ := isOf hZ e79 Er
    obtain ⟨_, _, ⟨T80, L80, k80, n80⟩, -, X80, ⟨Lc80, hQ80, l80, y80, z80⟩, st80⟩ := X79.virtualBack hx (y := (⟨"com/example/quillgraph/quillgraph/sparql/RegexProgram", "second", "(I)I"⟩ : MethodName)) (z := (⟨"com/example/quillgraph/quillgraph/sparql/RegexProgram", "second", "(I)I"⟩ : MethodName)) hown (mvT hZ (hw _ (own_m 158 rfl))) (mvT hZ (hw _ (own_m 159 rfl))) (notFace_of_selects (args := #[]) (mvT hZ (hw _ (own_m 161 rfl)))) (mvT hZ (hw _ (own_m 161 rfl))) (mvT hZ (hw _ (own_m 160 rfl))) (by decide) (backOf (W := 0) (own_rsecond1 l Z a0 hw [] w_CHARACTER w_SPLIT w_JUMP w_TEXT_START w_LINE_START w_TEXT_END w_LINE_END w_SAVE w_BACK_REFERENCE w_MARK w_PROGRESS w_MATCH w_NOTHING w_DE k_DE rr xo xf xs k1 k2 k3 oo fa fb w_LINE_END p5 p4 T71.heap n0 O72 U_CHARACTER U_SPLIT U_JUMP U_TEXT_START U_LINE_START U_TEXT_END U_LINE_END U_SAVE U_BACK_REFERENCE U_MARK U_PROGRESS U_MATCH U_NOTHING S_DE V_DE Fo Ff Fs V_xo V_xf V_xs) hZ (hw _ (own_m 162 rfl)) (hw _ (own_m 105 rfl)) (by decide) (by decide)) q80a q80c (g := (mkF m 263 #[iv p0, iv p1, iv p2, iv p3, iv p4, iv p5, iv 0, iv 1, rv oo, iv jv, iv fa, iv fb, rv b10, rv rr, iv 1, rv w_LINE_END, iv p5, iv p4, .unset] [(.int 1), (.ref rr)])) rfl (by rw [hml]; rfl) (Steps.refl _) (argsL := [(.int 1)]) (rest := []) (lenOf own_pd12 rfl) rfl (by show 2 * 0 + _ ≤ _; exact Nat.le_of_eq rfl) (hb hby at_263) (fun _ _ => ⟨rfl, e79, (by decide : 11 + 0 ≤ _), (by decide : 76 + 0 ≤ _)⟩)
    dsimp only [Pt.U, Pt.locs, Pt.cells, Pt.slots] at X80 l80 y80 z80 st80 hQ80
    subst l80 y80 z80
    obtain ⟨rfl, N80q, e80⟩ := hQ80
    have N80 := Fr.app N79 N80q
    obtain ⟨fs, hr, hrun, hended, hW, hsame⟩ := X80.leave (v := some (.int 1)) (fun h => by rw [Bd.returns] at h; cases h)
    refine ⟨_, _, pre0 _ ?_, hrun, hended, _, _, rfl, ?_, ⟨_, rfl⟩, hW, hsame.mono (by decide) (by decide)⟩
    · show Steps p.tables e below (s₁.setTop (mkF m 0 #[iv p0, iv p1, iv p2, iv p3, iv p4, iv p5, .unset, .unset, .unset, .unset, .unset, .unset, .unset, .unset, .unset, .unset, .unset, .unset, .unset] [])) _
      refine XS.iloadN X0.here hx rfl (hb hby at_0) rfl ?_
      show Steps p.tables e below (s₁.setTop (mkF m 1 #[iv p0, iv p1, iv p2, iv p3, iv p4, iv p5, .unset, .unset, .unset, .unset, .unset, .unset, .unset, .unset, .unset, .unset, .unset, .unset, .unset] [(.int p0)])) _
      refine XS.iconst X0.here hx rfl (hb hby at_1) ?_
      show Steps p.tables e below (s₁.setTop (mkF m 2 #[iv p0, iv p1, iv p2, iv p3, iv p4, iv p5, .unset, .unset, .unset, .unset, .unset, .unset, .unset, .unset, .unset, .unset, .unset, .unset, .unset] [(.int 1), (.int p0)])) _
      refine XS.iand X0.here hx rfl (hb hby at_2) rfl ?_
      show Steps p.tables e below (s₁.setTop (mkF m 3 #[iv p0, iv p1, iv p2, iv p3, iv p4, iv p5, .unset, .unset, .unset, .unset, .unset, .unset, .unset, .unset, .unset, .unset, .unset, .unset, .unset] [(.int (p0 &&& (1 : Int32)))])) _
      refine own_top (v' := (.int 0)) (congrArg Value.int hk) ?_
      show Steps p.tables e below (s₁.setTop (mkF m 3 #[iv p0, iv p1, iv p2, iv p3, iv p4, iv p5, .unset, .unset, .unset, .unset, .unset, .unset, .unset, .unset, .unset, .unset, .unset, .unset, .unset] [(.int 0)])) _
      refine XS.istore X0.here hx rfl (hb hby at_3) rfl (l' := #[iv p0, iv p1, iv p2, iv p3, iv p4, iv p5, iv 0, .unset, .unset, .unset, .unset, .unset, .unset, .unset, .unset, .unset, .unset, .unset, .unset]) rfl ?_
      show Steps p.tables e below (s₁.setTop (mkF m 5 #[iv p0, iv p1, iv p2, iv p3, iv p4, iv p5, iv 0, .unset, .unset, .unset, .unset, .unset, .unset, .unset, .unset, .unset, .unset, .unset, .unset] [])) _
      refine XS.iconst X0.here hx rfl (hb hby at_5) ?_
      show Steps p.tables e below (s₁.setTop (mkF m 6 #[iv p0, iv p1, iv p2, iv p3, iv p4, iv p5, iv 0, .unset, .unset, .unset, .unset, .unset, .unset, .unset, .unset, .unset, .unset, .unset, .unset] [(.int 1)])) _
      refine XS.iload X0.here hx rfl (hb hby at_6) rfl ?_
      show Steps p.tables e below (s₁.setTop (mkF m 8 #[iv p0, iv p1, iv p2, iv p3, iv p4, iv p5, iv 0, .unset, .unset, .unset, .unset, .unset, .unset, .unset, .unset, .unset, .unset, .unset, .unset] [(.int 0), (.int 1)])) _
      refine XS.isub X0.here hx rfl (hb hby at_8) rfl ?_
      show Steps p.tables e below (s₁.setTop (mkF m 9 #[iv p0, iv p1, iv p2, iv p3, iv p4, iv p5, iv 0, .unset, .unset, .unset, .unset, .unset, .unset, .unset, .unset, .unset, .unset, .unset, .unset] [(.int ((1 : Int32) - (0 : Int32)))])) _
      refine own_top (v' := (.int 1)) (congrArg Value.int (by decide)) ?_
      show Steps p.tables e below (s₁.setTop (mkF m 9 #[iv p0, iv p1, iv p2, iv p3, iv p4, iv p5, iv 0, .unset, .unset, .unset, .unset, .unset, .unset, .unset, .unset, .unset, .unset, .unset, .unset] [(.int 1)])) _
      refine XS.istore X0.here hx rfl (hb hby at_9) rfl (l' := #[iv p0, iv p1, iv p2, iv p3, iv p4, iv p5, iv 0, iv 1, .unset, .unset, .unset, .unset, .unset, .unset, .unset, .unset, .unset, .unset, .unset]) rfl ?_
      show Steps p.tables e below (s₁.setTop (mkF m 11 #[iv p0, iv p1, iv p2, iv p3, iv p4, iv p5, iv 0, iv 1, .unset, .unset, .unset, .unset, .unset, .unset, .unset, .unset, .unset, .unset, .unset] [])) _
      refine XS.iloadN X0.here hx rfl (hb hby at_11) rfl ?_
      show Steps p.tables e below (s₁.setTop (mkF m 12 #[iv p0, iv p1, iv p2, iv p3, iv p4, iv p5, iv 0, iv 1, .unset, .unset, .unset, .unset, .unset, .unset, .unset, .unset, .unset, .unset, .unset] [(.int p1)])) _
      refine XS.bipush X0.here hx rfl (hb hby at_12) ?_
      show Steps p.tables e below (s₁.setTop (mkF m 14 #[iv p0, iv p1, iv p2, iv p3, iv p4, iv p5, iv 0, iv 1, .unset, .unset, .unset, .unset, .unset, .unset, .unset, .unset, .unset, .unset, .unset] [(.int 7), (.int p1)])) _
      refine XS.iand X0.here hx rfl (hb hby at_14) rfl ?_
      show Steps p.tables e below (s₁.setTop (mkF m 15 #[iv p0, iv p1, iv p2, iv p3, iv p4, iv p5, iv 0, iv 1, .unset, .unset, .unset, .unset, .unset, .unset, .unset, .unset, .unset, .unset, .unset] [(.int (p1 &&& (7 : Int32)))])) _
      refine st1 _ ?_
      show Steps p.tables e below (T1.setTop (mkF m 18 #[iv p0, iv p1, iv p2, iv p3, iv p4, iv p5, iv 0, iv 1, .unset, .unset, .unset, .unset, .unset, .unset, .unset, .unset, .unset, .unset, .unset] [(.ref oo)])) _
      refine XS.astore X1.here hx rfl (hb hby at_18) rfl rfl (l' := #[iv p0, iv p1, iv p2, iv p3, iv p4, iv p5, iv 0, iv 1, rv oo, .unset, .unset, .unset, .unset, .unset, .unset, .unset, .unset, .unset, .unset]) rfl ?_
      show Steps p.tables e below (T1.setTop (mkF m 20 #[iv p0, iv p1, iv p2, iv p3, iv p4, iv p5, iv 0, iv 1, rv oo, .unset, .unset, .unset, .unset, .unset, .unset, .unset, .unset, .unset, .unset] [])) _
      refine st2 _ ?_
      show Steps p.tables e below (T2.setTop (mkF m 80 #[iv p0, iv p1, iv p2, iv p3, iv p4, iv p5, iv 0, iv 1, rv oo, iv jv, iv fa, iv fb, .unset, .unset, .unset, .unset, .unset, .unset, .unset] [])) _
      refine st10 _ ?_
      show Steps p.tables e below (T10.setTop (mkF m 83 #[iv p0, iv p1, iv p2, iv p3, iv p4, iv p5, iv 0, iv 1, rv oo, iv jv, iv fa, iv fb, .unset, .unset, .unset, .unset, .unset, .unset, .unset] [(.ref b10)])) _
      refine XS.dup X10.here hx rfl (hb hby at_83) rfl rfl ?_
      show Steps p.tables e below (T10.setTop (mkF m 84 #[iv p0, iv p1, iv p2, iv p3, iv p4, iv p5, iv 0, iv 1, rv oo, iv jv, iv fa, iv fb, .unset, .unset, .unset, .unset, .unset, .unset, .unset] [(.ref b10), (.ref b10)])) _
      refine XS.bipush X10.here hx rfl (hb hby at_84) ?_
      show Steps p.tables e below (T10.setTop (mkF m 86 #[iv p0, iv p1, iv p2, iv p3, iv p4, iv p5, iv 0, iv 1, rv oo, iv jv, iv fa, iv fb, .unset, .unset, .unset, .unset, .unset, .unset, .unset] [(.int 16), (.ref b10), (.ref b10)])) _
      refine st12.trans ?_
      show Steps p.tables e below (T12.setTop (mkF m 89 #[iv p0, iv p1, iv p2, iv p3, iv p4, iv p5, iv 0, iv 1, rv oo, iv jv, iv fa, iv fb, .unset, .unset, .unset, .unset, .unset, .unset, .unset] [(.ref b10)])) _
      refine XS.astore X12.here hx rfl (hb hby at_89) rfl rfl (l' := #[iv p0, iv p1, iv p2, iv p3, iv p4, iv p5, iv 0, iv 1, rv oo, iv jv, iv fa, iv fb, rv b10, .unset, .unset, .unset, .unset, .unset, .unset]) rfl ?_
      show Steps p.tables e below (T12.setTop (mkF m 91 #[iv p0, iv p1, iv p2, iv p3, iv p4, iv p5, iv 0, iv 1, rv oo, iv jv, iv fa, iv fb, rv b10, .unset, .unset, .unset, .unset, .unset, .unset] [])) _
      refine XS.aload X12.here hx rfl (hb hby at_91) rfl rfl ?_
      show Steps p.tables e below (T12.setTop (mkF m 93 #[iv p0, iv p1, iv p2, iv p3, iv p4, iv p5, iv 0, iv 1, rv oo, iv jv, iv fa, iv fb, rv b10, .unset, .unset, .unset, .unset, .unset, .unset] [(.ref b10)])) _
      refine st26 _ ?_
      show Steps p.tables e below (T26.setTop (mkF m 96 #[iv p0, iv p1, iv p2, iv p3, iv p4, iv p5, iv 0, iv 1, rv oo, iv jv, iv fa, iv fb, rv b10, .unset, .unset, .unset, .unset, .unset, .unset] [(.ref w_TEXT_START), (.ref b10)])) _
      refine XS.iload X26.here hx rfl (hb hby at_96) rfl ?_
      show Steps p.tables e below (T26.setTop (mkF m 98 #[iv p0, iv p1, iv p2, iv p3, iv p4, iv p5, iv 0, iv 1, rv oo, iv jv, iv fa, iv fb, rv b10, .unset, .unset, .unset, .unset, .unset, .unset] [(.int p4), (.ref w_TEXT_START), (.ref b10)])) _
      refine XS.iload X26.here hx rfl (hb hby at_98) rfl ?_
      show Steps p.tables e below (T26.setTop (mkF m 100 #[iv p0, iv p1, iv p2, iv p3, iv p4, iv p5, iv 0, iv 1, rv oo, iv jv, iv fa, iv fb, rv b10, .unset, .unset, .unset, .unset, .unset, .unset] [(.int p5), (.int p4), (.ref w_TEXT_START), (.ref b10)])) _
      refine st27.trans ?_
      show Steps p.tables e below (T27.setTop (mkF m 103 #[iv p0, iv p1, iv p2, iv p3, iv p4, iv p5, iv 0, iv 1, rv oo, iv jv, iv fa, iv fb, rv b10, .unset, .unset, .unset, .unset, .unset, .unset] [(.int 0)])) _
      refine XS.pop X27.here hx rfl (hb hby at_103) rfl rfl ?_
      show Steps p.tables e below (T27.setTop (mkF m 104 #[iv p0, iv p1, iv p2, iv p3, iv p4, iv p5, iv 0, iv 1, rv oo, iv jv, iv fa, iv fb, rv b10, .unset, .unset, .unset, .unset, .unset, .unset] [])) _
      refine XS.aload X27.here hx rfl (hb hby at_104) rfl rfl ?_
      show Steps p.tables e below (T27.setTop (mkF m 106 #[iv p0, iv p1, iv p2, iv p3, iv p4, iv p5, iv 0, iv 1, rv oo, iv jv, iv fa, iv fb, rv b10, .unset, .unset, .unset, .unset, .unset, .unset] [(.ref b10)])) _
      refine st40 _ ?_
      show Steps p.tables e below (T40.setTop (mkF m 109 #[iv p0, iv p1, iv p2, iv p3, iv p4, iv p5, iv 0, iv 1, rv oo, iv jv, iv fa, iv fb, rv b10, .unset, .unset, .unset, .unset, .unset, .unset] [(.ref w_LINE_END), (.ref b10)])) _
      refine XS.iload X40.here hx rfl (hb hby at_109) rfl ?_
      show Steps p.tables e below (T40.setTop (mkF m 111 #[iv p0, iv p1, iv p2, iv p3, iv p4, iv p5, iv 0, iv 1, rv oo, iv jv, iv fa, iv fb, rv b10, .unset, .unset, .unset, .unset, .unset, .unset] [(.int p5), (.ref w_LINE_END), (.ref b10)])) _
      refine XS.iload X40.here hx rfl (hb hby at_111) rfl ?_
      show Steps p.tables e below (T40.setTop (mkF m 113 #[iv p0, iv p1, iv p2, iv p3, iv p4, iv p5, iv 0, iv 1, rv oo, iv jv, iv fa, iv fb, rv b10, .unset, .unset, .unset, .unset, .unset, .unset] [(.int p4), (.int p5), (.ref w_LINE_END), (.ref b10)])) _
      refine st41.trans ?_
      show Steps p.tables e below (T41.setTop (mkF m 116 #[iv p0, iv p1, iv p2, iv p3, iv p4, iv p5, iv 0, iv 1, rv oo, iv jv, iv fa, iv fb, rv b10, .unset, .unset, .unset, .unset, .unset, .unset] [(.int 1)])) _
      refine XS.pop X41.here hx rfl (hb hby at_116) rfl rfl ?_
      show Steps p.tables e below (T41.setTop (mkF m 117 #[iv p0, iv p1, iv p2, iv p3, iv p4, iv p5, iv 0, iv 1, rv oo, iv jv, iv fa, iv fb, rv b10, .unset, .unset, .unset, .unset, .unset, .unset] [])) _
      refine XS.aload X41.here hx rfl (hb hby at_117) rfl rfl ?_
      show Steps p.tables e below (T41.setTop (mkF m 119 #[iv p0, iv p1, iv p2, iv p3, iv p4, iv p5, iv 0, iv 1, rv oo, iv jv, iv fa, iv fb, rv b10, .unset, .unset, .unset, .unset, .unset, .unset] [(.ref b10)])) _
      refine XS.iload X41.here hx rfl (hb hby at_119) rfl ?_
      show Steps p.tables e below (T41.setTop (mkF m 121 #[iv p0, iv p1, iv p2, iv p3, iv p4, iv p5, iv 0, iv 1, rv oo, iv jv, iv fa, iv fb, rv b10, .unset, .unset, .unset, .unset, .unset, .unset] [(.int 0), (.ref b10)])) _
      refine XS.aload X41.here hx rfl (hb hby at_121) rfl rfl ?_
      show Steps p.tables e below (T41.setTop (mkF m 123 #[iv p0, iv p1, iv p2, iv p3, iv p4, iv p5, iv 0, iv 1, rv oo, iv jv, iv fa, iv fb, rv b10, .unset, .unset, .unset, .unset, .unset, .unset] [(.ref oo), (.int 0), (.ref b10)])) _
      refine XS.iload X41.here hx rfl (hb hby at_123) rfl ?_
      show Steps p.tables e below (T41.setTop (mkF m 125 #[iv p0, iv p1, iv p2, iv p3, iv p4, iv p5, iv 0, iv 1, rv oo, iv jv, iv fa, iv fb, rv b10, .unset, .unset, .unset, .unset, .unset, .unset] [(.int fa), (.ref oo), (.int 0), (.ref b10)])) _
      refine XS.iload X41.here hx rfl (hb hby at_125) rfl ?_
      show Steps p.tables e below (T41.setTop (mkF m 127 #[iv p0, iv p1, iv p2, iv p3, iv p4, iv p5, iv 0, iv 1, rv oo, iv jv, iv fa, iv fb, rv b10, .unset, .unset, .unset, .unset, .unset, .unset] [(.int fb), (.int fa), (.ref oo), (.int 0), (.ref b10)])) _
      refine st54.trans ?_
      show Steps p.tables e below (T54.setTop (mkF m 130 #[iv p0, iv p1, iv p2, iv p3, iv p4, iv p5, iv 0, iv 1, rv oo, iv jv, iv fa, iv fb, rv b10, .unset, .unset, .unset, .unset, .unset, .unset] [])) _
      refine XS.aload X54.here hx rfl (hb hby at_130) rfl rfl ?_
      show Steps p.tables e below (T54.setTop (mkF m 132 #[iv p0, iv p1, iv p2, iv p3, iv p4, iv p5, iv 0, iv 1, rv oo, iv jv, iv fa, iv fb, rv b10, .unset, .unset, .unset, .unset, .unset, .unset] [(.ref b10)])) _
      refine st71.trans ?_
      show Steps p.tables e below (T71.setTop (mkF m 135 #[iv p0, iv p1, iv p2, iv p3, iv p4, iv p5, iv 0, iv 1, rv oo, iv jv, iv fa, iv fb, rv b10, .unset, .unset, .unset, .unset, .unset, .unset] [(.ref rr)])) _
      refine XS.astore X71.here hx rfl (hb hby at_135) rfl rfl (l' := #[iv p0, iv p1, iv p2, iv p3, iv p4, iv p5, iv 0, iv 1, rv oo, iv jv, iv fa, iv fb, rv b10, rv rr, .unset, .unset, .unset, .unset, .unset]) rfl ?_
      show Steps p.tables e below (T71.setTop (mkF m 137 #[iv p0, iv p1, iv p2, iv p3, iv p4, iv p5, iv 0, iv 1, rv oo, iv jv, iv fa, iv fb, rv b10, rv rr, .unset, .unset, .unset, .unset, .unset] [])) _
      refine XS.aload X71.here hx rfl (hb hby at_137) rfl rfl ?_
      show Steps p.tables e below (T71.setTop (mkF m 139 #[iv p0, iv p1, iv p2, iv p3, iv p4, iv p5, iv 0, iv 1, rv oo, iv jv, iv fa, iv fb, rv b10, rv rr, .unset, .unset, .unset, .unset, .unset] [(.ref rr)])) _
      refine st73.trans ?_
      show Steps p.tables e below (T73.setTop (mkF m 142 #[iv p0, iv p1, iv p2, iv p3, iv p4, iv p5, iv 0, iv 1, rv oo, iv jv, iv fa, iv fb, rv b10, rv rr, .unset, .unset, .unset, .unset, .unset] [(.int 3)])) _
      refine XS.iconst X73.here hx rfl (hb hby at_142) ?_
      show Steps p.tables e below (T73.setTop (mkF m 143 #[iv p0, iv p1, iv p2, iv p3, iv p4, iv p5, iv 0, iv 1, rv oo, iv jv, iv fa, iv fb, rv b10, rv rr, .unset, .unset, .unset, .unset, .unset] [(.int 3), (.int 3)])) _
      refine XS.icmpYes X73.here hx rfl (pc0 := 143) (pc' := 148) rfl (hb hby at_143) rfl (teq (by decide)).1 (by decide) (by decide) ?_
      show Steps p.tables e below (T73.setTop (mkF m 148 #[iv p0, iv p1, iv p2, iv p3, iv p4, iv p5, iv 0, iv 1, rv oo, iv jv, iv fa, iv fb, rv b10, rv rr, .unset, .unset, .unset, .unset, .unset] [])) _
      refine XS.aload X73.here hx rfl (hb hby at_148) rfl rfl ?_
      show Steps p.tables e below (T73.setTop (mkF m 150 #[iv p0, iv p1, iv p2, iv p3, iv p4, iv p5, iv 0, iv 1, rv oo, iv jv, iv fa, iv fb, rv b10, rv rr, .unset, .unset, .unset, .unset, .unset] [(.ref rr)])) _
      refine XS.iload X73.here hx rfl (hb hby at_150) rfl ?_
      show Steps p.tables e below (T73.setTop (mkF m 152 #[iv p0, iv p1, iv p2, iv p3, iv p4, iv p5, iv 0, iv 1, rv oo, iv jv, iv fa, iv fb, rv b10, rv rr, .unset, .unset, .unset, .unset, .unset] [(.int 0), (.ref rr)])) _
      refine st74.trans ?_
      show Steps p.tables e below (T74.setTop (mkF m 155 #[iv p0, iv p1, iv p2, iv p3, iv p4, iv p5, iv 0, iv 1, rv oo, iv jv, iv fa, iv fb, rv b10, rv rr, .unset, .unset, .unset, .unset, .unset] [(.ref oo)])) _
      refine XS.aload X74.here hx rfl (hb hby at_155) rfl rfl ?_
      show Steps p.tables e below (T74.setTop (mkF m 157 #[iv p0, iv p1, iv p2, iv p3, iv p4, iv p5, iv 0, iv 1, rv oo, iv jv, iv fa, iv fb, rv b10, rv rr, .unset, .unset, .unset, .unset, .unset] [(.ref oo), (.ref oo)])) _
      refine Jvm.RoadKit.acmp (g := (mkF m 157 #[iv p0, iv p1, iv p2, iv p3, iv p4, iv p5, iv 0, iv 1, rv oo, iv jv, iv fa, iv fb, rv b10, rv rr, .unset, .unset, .unset, .unset, .unset] [(.ref oo), (.ref oo)])) X74 hx rfl rfl rfl (pc0 := 157) (pc' := 160) (same := true) rfl (hb hby at_157) rfl (decide_eq_true rfl) (by decide) (by decide) ?_
      show Steps p.tables e below (T74.setTop (mkF m 160 #[iv p0, iv p1, iv p2, iv p3, iv p4, iv p5, iv 0, iv 1, rv oo, iv jv, iv fa, iv fb, rv b10, rv rr, .unset, .unset, .unset, .unset, .unset] [])) _
      refine XS.aload X74.here hx rfl (hb hby at_160) rfl rfl ?_
      show Steps p.tables e below (T74.setTop (mkF m 162 #[iv p0, iv p1, iv p2, iv p3, iv p4, iv p5, iv 0, iv 1, rv oo, iv jv, iv fa, iv fb, rv b10, rv rr, .unset, .unset, .unset, .unset, .unset] [(.ref rr)])) _
      refine XS.iload X74.here hx rfl (hb hby at_162) rfl ?_
      show Steps p.tables e below (T74.setTop (mkF m 164 #[iv p0, iv p1, iv p2, iv p3, iv p4, iv p5, iv 0, iv 1, rv oo, iv jv, iv fa, iv fb, rv b10, rv rr, .unset, .unset, .unset, .unset, .unset] [(.int 0), (.ref rr)])) _
      refine st75.trans ?_
      show Steps p.tables e below (T75.setTop (mkF m 167 #[iv p0, iv p1, iv p2, iv p3, iv p4, iv p5, iv 0, iv 1, rv oo, iv jv, iv fa, iv fb, rv b10, rv rr, .unset, .unset, .unset, .unset, .unset] [(.int fa)])) _
      refine XS.iload X75.here hx rfl (hb hby at_167) rfl ?_
      show Steps p.tables e below (T75.setTop (mkF m 169 #[iv p0, iv p1, iv p2, iv p3, iv p4, iv p5, iv 0, iv 1, rv oo, iv jv, iv fa, iv fb, rv b10, rv rr, .unset, .unset, .unset, .unset, .unset] [(.int fa), (.int fa)])) _
      refine XS.icmpNo X75.here hx rfl (hb hby at_169) rfl (teq rfl).2 ?_
      show Steps p.tables e below (T75.setTop (mkF m 172 #[iv p0, iv p1, iv p2, iv p3, iv p4, iv p5, iv 0, iv 1, rv oo, iv jv, iv fa, iv fb, rv b10, rv rr, .unset, .unset, .unset, .unset, .unset] [])) _
      refine XS.aload X75.here hx rfl (hb hby at_172) rfl rfl ?_
      show Steps p.tables e below (T75.setTop (mkF m 174 #[iv p0, iv p1, iv p2, iv p3, iv p4, iv p5, iv 0, iv 1, rv oo, iv jv, iv fa, iv fb, rv b10, rv rr, .unset, .unset, .unset, .unset, .unset] [(.ref rr)])) _
      refine XS.iload X75.here hx rfl (hb hby at_174) rfl ?_
      show Steps p.tables e below (T75.setTop (mkF m 176 #[iv p0, iv p1, iv p2, iv p3, iv p4, iv p5, iv 0, iv 1, rv oo, iv jv, iv fa, iv fb, rv b10, rv rr, .unset, .unset, .unset, .unset, .unset] [(.int 0), (.ref rr)])) _
      refine st76.trans ?_
      show Steps p.tables e below (T76.setTop (mkF m 179 #[iv p0, iv p1, iv p2, iv p3, iv p4, iv p5, iv 0, iv 1, rv oo, iv jv, iv fa, iv fb, rv b10, rv rr, .unset, .unset, .unset, .unset, .unset] [(.int fb)])) _
      refine XS.iload X76.here hx rfl (hb hby at_179) rfl ?_
      show Steps p.tables e below (T76.setTop (mkF m 181 #[iv p0, iv p1, iv p2, iv p3, iv p4, iv p5, iv 0, iv 1, rv oo, iv jv, iv fa, iv fb, rv b10, rv rr, .unset, .unset, .unset, .unset, .unset] [(.int fb), (.int fb)])) _
      refine XS.icmpNo X76.here hx rfl (hb hby at_181) rfl (teq rfl).2 ?_
      show Steps p.tables e below (T76.setTop (mkF m 184 #[iv p0, iv p1, iv p2, iv p3, iv p4, iv p5, iv 0, iv 1, rv oo, iv jv, iv fa, iv fb, rv b10, rv rr, .unset, .unset, .unset, .unset, .unset] [])) _
      refine XS.iconst X76.here hx rfl (hb hby at_184) ?_
      show Steps p.tables e below (T76.setTop (mkF m 185 #[iv p0, iv p1, iv p2, iv p3, iv p4, iv p5, iv 0, iv 1, rv oo, iv jv, iv fa, iv fb, rv b10, rv rr, .unset, .unset, .unset, .unset, .unset] [(.int 1)])) _
      refine XS.goto X76.here hx rfl (pc0 := 185) (pc' := 189) rfl (hb hby at_185) (by decide) (by decide) ?_
      show Steps p.tables e below (T76.setTop (mkF m 189 #[iv p0, iv p1, iv p2, iv p3, iv p4, iv p5, iv 0, iv 1, rv oo, iv jv, iv fa, iv fb, rv b10, rv rr, .unset, .unset, .unset, .unset, .unset] [(.int 1)])) _
      refine XS.istore X76.here hx rfl (hb hby at_189) rfl (l' := #[iv p0, iv p1, iv p2, iv p3, iv p4, iv p5, iv 0, iv 1, rv oo, iv jv, iv fa, iv fb, rv b10, rv rr, iv 1, .unset, .unset, .unset, .unset]) rfl ?_
      show Steps p.tables e below (T76.setTop (mkF m 191 #[iv p0, iv p1, iv p2, iv p3, iv p4, iv p5, iv 0, iv 1, rv oo, iv jv, iv fa, iv fb, rv b10, rv rr, iv 1, .unset, .unset, .unset, .unset] [])) _
      refine XS.iload X76.here hx rfl (hb hby at_191) rfl ?_
      show Steps p.tables e below (T76.setTop (mkF m 193 #[iv p0, iv p1, iv p2, iv p3, iv p4, iv p5, iv 0, iv 1, rv oo, iv jv, iv fa, iv fb, rv b10, rv rr, iv 1, .unset, .unset, .unset, .unset] [(.int 1)])) _
      refine XS.ifYes X76.here hx rfl (pc0 := 193) (pc' := 202) rfl (hb hby at_193) rfl ((if0 _ _).trans (feq (by decide)).2) (by decide) (by decide) ?_
      show Steps p.tables e below (T76.setTop (mkF m 202 #[iv p0, iv p1, iv p2, iv p3, iv p4, iv p5, iv 0, iv 1, rv oo, iv jv, iv fa, iv fb, rv b10, rv rr, iv 1, .unset, .unset, .unset, .unset] [])) _
      refine st77 _ ?_
      show Steps p.tables e below (T77.setTop (mkF m 205 #[iv p0, iv p1, iv p2, iv p3, iv p4, iv p5, iv 0, iv 1, rv oo, iv jv, iv fa, iv fb, rv b10, rv rr, iv 1, .unset, .unset, .unset, .unset] [(.ref w_LINE_END)])) _
      refine XS.astore X77.here hx rfl (hb hby at_205) rfl rfl (l' := #[iv p0, iv p1, iv p2, iv p3, iv p4, iv p5, iv 0, iv 1, rv oo, iv jv, iv fa, iv fb, rv b10, rv rr, iv 1, rv w_LINE_END, .unset, .unset, .unset]) rfl ?_
      show Steps p.tables e below (T77.setTop (mkF m 207 #[iv p0, iv p1, iv p2, iv p3, iv p4, iv p5, iv 0, iv 1, rv oo, iv jv, iv fa, iv fb, rv b10, rv rr, iv 1, rv w_LINE_END, .unset, .unset, .unset] [])) _
      refine XS.iload X77.here hx rfl (hb hby at_207) rfl ?_
      show Steps p.tables e below (T77.setTop (mkF m 209 #[iv p0, iv p1, iv p2, iv p3, iv p4, iv p5, iv 0, iv 1, rv oo, iv jv, iv fa, iv fb, rv b10, rv rr, iv 1, rv w_LINE_END, .unset, .unset, .unset] [(.int 1)])) _
      refine XS.ifYes X77.here hx rfl (pc0 := 209) (pc' := 217) rfl (hb hby at_209) rfl ((if0 _ _).trans (feq (by decide)).2) (by decide) (by decide) ?_
      show Steps p.tables e below (T77.setTop (mkF m 217 #[iv p0, iv p1, iv p2, iv p3, iv p4, iv p5, iv 0, iv 1, rv oo, iv jv, iv fa, iv fb, rv b10, rv rr, iv 1, rv w_LINE_END, .unset, .unset, .unset] [])) _
      refine XS.iload X77.here hx rfl (hb hby at_217) rfl ?_
      show Steps p.tables e below (T77.setTop (mkF m 219 #[iv p0, iv p1, iv p2, iv p3, iv p4, iv p5, iv 0, iv 1, rv oo, iv jv, iv fa, iv fb, rv b10, rv rr, iv 1, rv w_LINE_END, .unset, .unset, .unset] [(.int p5)])) _
      refine XS.istore X77.here hx rfl (hb hby at_219) rfl (l' := #[iv p0, iv p1, iv p2, iv p3, iv p4, iv p5, iv 0, iv 1, rv oo, iv jv, iv fa, iv fb, rv b10, rv rr, iv 1, rv w_LINE_END, iv p5, .unset, .unset]) rfl ?_
      show Steps p.tables e below (T77.setTop (mkF m 221 #[iv p0, iv p1, iv p2, iv p3, iv p4, iv p5, iv 0, iv 1, rv oo, iv jv, iv fa, iv fb, rv b10, rv rr, iv 1, rv w_LINE_END, iv p5, .unset, .unset] [])) _
      refine XS.iload X77.here hx rfl (hb hby at_221) rfl ?_
      show Steps p.tables e below (T77.setTop (mkF m 223 #[iv p0, iv p1, iv p2, iv p3, iv p4, iv p5, iv 0, iv 1, rv oo, iv jv, iv fa, iv fb, rv b10, rv rr, iv 1, rv w_LINE_END, iv p5, .unset, .unset] [(.int 1)])) _
      refine XS.ifYes X77.here hx rfl (pc0 := 223) (pc' := 231) rfl (hb hby at_223) rfl ((if0 _ _).trans (feq (by decide)).2) (by decide) (by decide) ?_
      show Steps p.tables e below (T77.setTop (mkF m 231 #[iv p0, iv p1, iv p2, iv p3, iv p4, iv p5, iv 0, iv 1, rv oo, iv jv, iv fa, iv fb, rv b10, rv rr, iv 1, rv w_LINE_END, iv p5, .unset, .unset] [])) _
      refine XS.iload X77.here hx rfl (hb hby at_231) rfl ?_
      show Steps p.tables e below (T77.setTop (mkF m 233 #[iv p0, iv p1, iv p2, iv p3, iv p4, iv p5, iv 0, iv 1, rv oo, iv jv, iv fa, iv fb, rv b10, rv rr, iv 1, rv w_LINE_END, iv p5, .unset, .unset] [(.int p4)])) _
      refine XS.istore X77.here hx rfl (hb hby at_233) rfl (l' := #[iv p0, iv p1, iv p2, iv p3, iv p4, iv p5, iv 0, iv 1, rv oo, iv jv, iv fa, iv fb, rv b10, rv rr, iv 1, rv w_LINE_END, iv p5, iv p4, .unset]) rfl ?_
      show Steps p.tables e below (T77.setTop (mkF m 235 #[iv p0, iv p1, iv p2, iv p3, iv p4, iv p5, iv 0, iv 1, rv oo, iv jv, iv fa, iv fb, rv b10, rv rr, iv 1, rv w_LINE_END, iv p5, iv p4, .unset] [])) _
      refine XS.aload X77.here hx rfl (hb hby at_235) rfl rfl ?_
      show Steps p.tables e below (T77.setTop (mkF m 237 #[iv p0, iv p1, iv p2, iv p3, iv p4, iv p5, iv 0, iv 1, rv oo, iv jv, iv fa, iv fb, rv b10, rv rr, iv 1, rv w_LINE_END, iv p5, iv p4, .unset] [(.ref rr)])) _
      refine XS.iload X77.here hx rfl (hb hby at_237) rfl ?_
      show Steps p.tables e below (T77.setTop (mkF m 239 #[iv p0, iv p1, iv p2, iv p3, iv p4, iv p5, iv 0, iv 1, rv oo, iv jv, iv fa, iv fb, rv b10, rv rr, iv 1, rv w_LINE_END, iv p5, iv p4, .unset] [(.int 1), (.ref rr)])) _
      refine st78.trans ?_
      show Steps p.tables e below (T78.setTop (mkF m 242 #[iv p0, iv p1, iv p2, iv p3, iv p4, iv p5, iv 0, iv 1, rv oo, iv jv, iv fa, iv fb, rv b10, rv rr, iv 1, rv w_LINE_END, iv p5, iv p4, .unset] [(.ref w_LINE_END)])) _
      refine XS.aload X78.here hx rfl (hb hby at_242) rfl rfl ?_
      show Steps p.tables e below (T78.setTop (mkF m 244 #[iv p0, iv p1, iv p2, iv p3, iv p4, iv p5, iv 0, iv 1, rv oo, iv jv, iv fa, iv fb, rv b10, rv rr, iv 1, rv w_LINE_END, iv p5, iv p4, .unset] [(.ref w_LINE_END), (.ref w_LINE_END)])) _
      refine Jvm.RoadKit.acmp (g := (mkF m 244 #[iv p0, iv p1, iv p2, iv p3, iv p4, iv p5, iv 0, iv 1, rv oo, iv jv, iv fa, iv fb, rv b10, rv rr, iv 1, rv w_LINE_END, iv p5, iv p4, .unset] [(.ref w_LINE_END), (.ref w_LINE_END)])) X78 hx rfl rfl rfl (pc0 := 244) (pc' := 247) (same := true) rfl (hb hby at_244) rfl (decide_eq_true rfl) (by decide) (by decide) ?_
      show Steps p.tables e below (T78.setTop (mkF m 247 #[iv p0, iv p1, iv p2, iv p3, iv p4, iv p5, iv 0, iv 1, rv oo, iv jv, iv fa, iv fb, rv b10, rv rr, iv 1, rv w_LINE_END, iv p5, iv p4, .unset] [])) _
      refine XS.aload X78.here hx rfl (hb hby at_247) rfl rfl ?_
      show Steps p.tables e below (T78.setTop (mkF m 249 #[iv p0, iv p1, iv p2, iv p3, iv p4, iv p5, iv 0, iv 1, rv oo, iv jv, iv fa, iv fb, rv b10, rv rr, iv 1, rv w_LINE_END, iv p5, iv p4, .unset] [(.ref rr)])) _
      refine XS.iload X78.here hx rfl (hb hby at_249) rfl ?_
      show Steps p.tables e below (T78.setTop (mkF m 251 #[iv p0, iv p1, iv p2, iv p3, iv p4, iv p5, iv 0, iv 1, rv oo, iv jv, iv fa, iv fb, rv b10, rv rr, iv 1, rv w_LINE_END, iv p5, iv p4, .unset] [(.int 1), (.ref rr)])) _
      refine st79.trans ?_
      show Steps p.tables e below (T79.setTop (mkF m 254 #[iv p0, iv p1, iv p2, iv p3, iv p4, iv p5, iv 0, iv 1, rv oo, iv jv, iv fa, iv fb, rv b10, rv rr, iv 1, rv w_LINE_END, iv p5, iv p4, .unset] [(.int p5)])) _
      refine XS.iload X79.here hx rfl (hb hby at_254) rfl ?_
      show Steps p.tables e below (T79.setTop (mkF m 256 #[iv p0, iv p1, iv p2, iv p3, iv p4, iv p5, iv 0, iv 1, rv oo, iv jv, iv fa, iv fb, rv b10, rv rr, iv 1, rv w_LINE_END, iv p5, iv p4, .unset] [(.int p5), (.int p5)])) _
      refine XS.icmpNo X79.here hx rfl (hb hby at_256) rfl (teq rfl).2 ?_
      show Steps p.tables e below (T79.setTop (mkF m 259 #[iv p0, iv p1, iv p2, iv p3, iv p4, iv p5, iv 0, iv 1, rv oo, iv jv, iv fa, iv fb, rv b10, rv rr, iv 1, rv w_LINE_END, iv p5, iv p4, .unset] [])) _
      refine XS.aload X79.here hx rfl (hb hby at_259) rfl rfl ?_
      show Steps p.tables e below (T79.setTop (mkF m 261 #[iv p0, iv p1, iv p2, iv p3, iv p4, iv p5, iv 0, iv 1, rv oo, iv jv, iv fa, iv fb, rv b10, rv rr, iv 1, rv w_LINE_END, iv p5, iv p4, .unset] [(.ref rr)])) _
      refine XS.iload X79.here hx rfl (hb hby at_261) rfl ?_
      show Steps p.tables e below (T79.setTop (mkF m 263 #[iv p0, iv p1, iv p2, iv p3, iv p4, iv p5, iv 0, iv 1, rv oo, iv jv, iv fa, iv fb, rv b10, rv rr, iv 1, rv w_LINE_END, iv p5, iv p4, .unset] [(.int 1), (.ref rr)])) _
      refine st80.trans ?_
      show Steps p.tables e below (T80.setTop (mkF m 266 #[iv p0, iv p1, iv p2, iv p3, iv p4, iv p5, iv 0, iv 1, rv oo, iv jv, iv fa, iv fb, rv b10, rv rr, iv 1, rv w_LINE_END, iv p5, iv p4, .unset] [(.int p4)])) _
      refine XS.iload X80.here hx rfl (hb hby at_266) rfl ?_
      show Steps p.tables e below (T80.setTop (mkF m 268 #[iv p0, iv p1, iv p2, iv p3, iv p4, iv p5, iv 0, iv 1, rv oo, iv jv, iv fa, iv fb, rv b10, rv rr, iv 1, rv w_LINE_END, iv p5, iv p4, .unset] [(.int p4), (.int p4)])) _
      refine XS.icmpNo X80.here hx rfl (hb hby at_268) rfl (teq rfl).2 ?_
      show Steps p.tables e below (T80.setTop (mkF m 271 #[iv p0, iv p1, iv p2, iv p3, iv p4, iv p5, iv 0, iv 1, rv oo, iv jv, iv fa, iv fb, rv b10, rv rr, iv 1, rv w_LINE_END, iv p5, iv p4, .unset] [])) _
      refine XS.iconst X80.here hx rfl (hb hby at_271) ?_
      show Steps p.tables e below (T80.setTop (mkF m 272 #[iv p0, iv p1, iv p2, iv p3, iv p4, iv p5, iv 0, iv 1, rv oo, iv jv, iv fa, iv fb, rv b10, rv rr, iv 1, rv w_LINE_END, iv p5, iv p4, .unset] [(.int 1)])) _
      refine XS.goto X80.here hx rfl (pc0 := 272) (pc' := 276) rfl (hb hby at_272) (by decide) (by decide) ?_
      show Steps p.tables e below (T80.setTop (mkF m 276 #[iv p0, iv p1, iv p2, iv p3, iv p4, iv p5, iv 0, iv 1, rv oo, iv jv, iv fa, iv fb, rv b10, rv rr, iv 1, rv w_LINE_END, iv p5, iv p4, .unset] [(.int 1)])) _
      refine XS.istore X80.here hx rfl (hb hby at_276) rfl (l' := #[iv p0, iv p1, iv p2, iv p3, iv p4, iv p5, iv 0, iv 1, rv oo, iv jv, iv fa, iv fb, rv b10, rv rr, iv 1, rv w_LINE_END, iv p5, iv p4, iv 1]) rfl ?_
      show Steps p.tables e below (T80.setTop (mkF m 278 #[iv p0, iv p1, iv p2, iv p3, iv p4, iv p5, iv 0, iv 1, rv oo, iv jv, iv fa, iv fb, rv b10, rv rr, iv 1, rv w_LINE_END, iv p5, iv p4, iv 1] [])) _
      refine XS.iload X80.here hx rfl (hb hby at_278) rfl ?_
      show Steps p.tables e below (T80.setTop (mkF m 280 #[iv p0, iv p1, iv p2, iv p3, iv p4, iv p5, iv 0, iv 1, rv oo, iv jv, iv fa, iv fb, rv b10, rv rr, iv 1, rv w_LINE_END, iv p5, iv p4, iv 1] [(.int 1)])) _
      refine XS.ifNo X80.here hx rfl (hb hby at_280) rfl ((if0 _ _).trans (feq (by decide)).1) ?_
      show Steps p.tables e below (T80.setTop (mkF m 283 #[iv p0, iv p1, iv p2, iv p3, iv p4, iv p5, iv 0, iv 1, rv oo, iv jv, iv fa, iv fb, rv b10, rv rr, iv 1, rv w_LINE_END, iv p5, iv p4, iv 1] [])) _
      refine XS.iload X80.here hx rfl (hb hby at_283) rfl ?_
      show Steps p.tables e below (T80.setTop (mkF m 285 #[iv p0, iv p1, iv p2, iv p3, iv p4, iv p5, iv 0, iv 1, rv oo, iv jv, iv fa, iv fb, rv b10, rv rr, iv 1, rv w_LINE_END, iv p5, iv p4, iv 1] [(.int 1)])) _
      refine XS.ifNo X80.here hx rfl (hb hby at_285) rfl ((if0 _ _).trans (feq (by decide)).1) ?_
      show Steps p.tables e below (T80.setTop (mkF m 288 #[iv p0, iv p1, iv p2, iv p3, iv p4, iv p5, iv 0, iv 1, rv oo, iv jv, iv fa, iv fb, rv b10, rv rr, iv 1, rv w_LINE_END, iv p5, iv p4, iv 1] [])) _
      refine XS.iconst X80.here hx rfl (hb hby at_288) ?_
      show Steps p.tables e below (T80.setTop (mkF m 289 #[iv p0, iv p1, iv p2, iv p3, iv p4, iv p5, iv 0, iv 1, rv oo, iv jv, iv fa, iv fb, rv b10, rv rr, iv 1, rv w_LINE_END, iv p5, iv p4, iv 1] [(.int 1)])) _
      refine XS.goto X80.here hx rfl (pc0 := 289) (pc' := 293) rfl (hb hby at_289) (by decide) (by decide) ?_
      show Steps p.tables e below (T80.setTop (mkF m 293 #[iv p0, iv p1, iv p2, iv p3, iv p4, iv p5, iv 0, iv 1, rv oo, iv jv, iv fa, iv fb, rv b10, rv rr, iv 1, rv w_LINE_END, iv p5, iv p4, iv 1] [(.int 1)])) _
      exact retN X80 hx (t := .boolean) Bd.returns (by simp) (hb hby at_293) hr
    · show own_law_Q Z w_CHARACTER w_SPLIT w_JUMP w_TEXT_START w_LINE_START w_TEXT_END w_LINE_END w_SAVE w_BACK_REFERENCE w_MARK w_PROGRESS w_MATCH w_NOTHING w_DE k_DE p0 p1 p2 p3 p4 p5 h0 n0 _ T80.heap _
      rw [e80]
      exact ⟨rfl, N80⟩
  · obtain ⟨_, _, ⟨T81, L81, k81, n81⟩, -, X81, ⟨Lc81, hQ81, l81, y81, z81⟩, st81⟩ := Jvm.LawKit.callS X0 hx (y := (⟨"com/example/quillgraph/quillgraph/sparql/BuilderSetPinLaw", "pick", "(I)Lcom/example/quillgraph/quillgraph/sparql/RegexProgram$Op;"⟩ : MethodName)) hown (mvT hZ (hw _ (own_m 0 rfl))) (mvT hZ (hw _ (own_m 1 rfl))) (mvT hZ (hw _ (own_m 2 rfl))) (mvT hZ (hw _ (own_m 3 rfl))) (by decide) (backOf (W := 0) (own_pick l Z a0 hw [] w_CHARACTER w_SPLIT w_JUMP w_TEXT_START w_LINE_START w_TEXT_END w_LINE_END w_SAVE w_BACK_REFERENCE w_MARK w_PROGRESS w_MATCH w_NOTHING w_DE k_DE (p1 &&& (7 : Int32)) h0 n0 O0 U_CHARACTER U_SPLIT U_JUMP U_TEXT_START U_LINE_START U_TEXT_END U_LINE_END U_SAVE U_BACK_REFERENCE U_MARK U_PROGRESS U_MATCH U_NOTHING S_DE V_DE ) hZ (hw _ (own_m 3 rfl)) (hw _ (own_m 2 rfl)) (by decide) (by decide)) (g := (mkF m 15 #[iv p0, iv p1, iv p2, iv p3, iv p4, iv p5, iv 1, iv 0, .unset, .unset, .unset, .unset, .unset, .unset, .unset, .unset, .unset, .unset, .unset] [(.int (p1 &&& (7 : Int32)))])) rfl (by rw [hml]; rfl) (argsL := [(.int (p1 &&& (7 : Int32)))]) (rest := []) (lenOf own_pd7 rfl) rfl (by show 2 * 0 + _ ≤ _; exact Nat.le_of_eq rfl) (hb hby at_15) (fun _ _ => ⟨rfl, e0, (by decide : 0 + 0 ≤ _), (by decide : 0 + 0 ≤ _)⟩)
    dsimp only [Pt.U, Pt.locs, Pt.cells, Pt.slots] at X81 l81 y81 z81 st81 hQ81
    subst l81 y81 z81
    obtain ⟨oo, rfl, Go, N81q, e81⟩ := hQ81
    have N81 := Fr.app N0 N81q
    obtain ⟨jv, fa, fb, T82, Lj82, hj82, X82, N82, e82, st82⟩ : ∃ (jv : Int32) (fa : Int32) (fb : Int32) (T82 : State) (Lj82 : List Loc), (((oo = w_SPLIT ∨ oo = w_JUMP) → (fa = (0 : Int32) ∨ fa = (1 : Int32) ∨ fa = (2 : Int32))) ∧ (oo = w_SPLIT → (fb = (0 : Int32) ∨ fb = (1 : Int32) ∨ fb = (2 : Int32)))) ∧ Stand p l e room_1 s m #[(.int p0), (.int p1), (.int p2), (.int p3), (.int p4), (.int p5)] below meth c T82 Lj82 0 0 ∧ Fr n0 Lj82 ∧ T82.heap = h0 ∧ ∀ target, Steps p.tables e below (T82.setTop (mkF m 80 #[iv p0, iv p1, iv p2, iv p3, iv p4, iv p5, iv 1, iv 0, rv oo, iv jv, iv fa, iv fb, .unset, .unset, .unset, .unset, .unset, .unset, .unset] [])) target → Steps p.tables e below (T81.setTop (mkF m 20 #[iv p0, iv p1, iv p2, iv p3, iv p4, iv p5, iv 1, iv 0, rv oo, .unset, .unset, .unset, .unset, .unset, .unset, .unset, .unset, .unset, .unset] [])) target := by
      obtain ⟨T83, X83, e83, st83⟩ := getS2 X81 hx hZ hown (host := "") (Or.inl (hw _ (own_m 7 rfl))) Via.refl e81 (U_SPLIT.1.ext O0.2) (g := (mkF m 22 #[iv p0, iv p1, iv p2, iv p3, iv p4, iv p5, iv 1, iv 0, rv oo, .unset, .unset, .unset, .unset, .unset, .unset, .unset, .unset, .unset, .unset] [(.ref oo)])) rfl (hb hby at_22)
      by_cases ha84 : oo = w_SPLIT
      · obtain ⟨T85, X85, e85, st85⟩ := getS2 X83 hx hZ hown (host := "") (Or.inl (hw _ (own_m 7 rfl))) Via.refl e83 (U_SPLIT.1.ext O0.2) (g := (mkF m 62 #[iv p0, iv p1, iv p2, iv p3, iv p4, iv p5, iv 1, iv 0, rv oo, iv 1, .val (.int ((p2 &&& (2147483647 : Int32)) % (3 : Int32))), .unset, .unset, .unset, .unset, .unset, .unset, .unset, .unset] [(.ref oo)])) rfl (hb hby at_62)
        refine ⟨(1 : Int32), ((p2 &&& (2147483647 : Int32)) % (3 : Int32)), ((p3 &&& (2147483647 : Int32)) % (3 : Int32)), T85, _, ⟨fun _ => own_rem3 p2, fun _ => own_rem3 p3⟩, X85, N81, e85, fun target kt => ?_⟩
        show Steps p.tables e below (T81.setTop (mkF m 20 #[iv p0, iv p1, iv p2, iv p3, iv p4, iv p5, iv 1, iv 0, rv oo, .unset, .unset, .unset, .unset, .unset, .unset, .unset, .unset, .unset, .unset] [])) _
        refine XS.aload X81.here hx rfl (hb hby at_20) rfl rfl ?_
        show Steps p.tables e below (T81.setTop (mkF m 22 #[iv p0, iv p1, iv p2, iv p3, iv p4, iv p5, iv 1, iv 0, rv oo, .unset, .unset, .unset, .unset, .unset, .unset, .unset, .unset, .unset, .unset] [(.ref oo)])) _
        refine st83 _ ?_
        show Steps p.tables e below (T83.setTop (mkF m 25 #[iv p0, iv p1, iv p2, iv p3, iv p4, iv p5, iv 1, iv 0, rv oo, .unset, .unset, .unset, .unset, .unset, .unset, .unset, .unset, .unset, .unset] [(.ref w_SPLIT), (.ref oo)])) _
        refine Jvm.RoadKit.acmp (g := (mkF m 25 #[iv p0, iv p1, iv p2, iv p3, iv p4, iv p5, iv 1, iv 0, rv oo, .unset, .unset, .unset, .unset, .unset, .unset, .unset, .unset, .unset, .unset] [(.ref w_SPLIT), (.ref oo)])) X83 hx rfl rfl rfl (pc0 := 25) (pc' := 36) (same := true) rfl (hb hby at_25) rfl (decide_eq_true (congrArg Value.ref ha84)) (by decide) (by decide) ?_
        show Steps p.tables e below (T83.setTop (mkF m 36 #[iv p0, iv p1, iv p2, iv p3, iv p4, iv p5, iv 1, iv 0, rv oo, .unset, .unset, .unset, .unset, .unset, .unset, .unset, .unset, .unset, .unset] [])) _
        refine XS.iconst X83.here hx rfl (hb hby at_36) ?_
        show Steps p.tables e below (T83.setTop (mkF m 37 #[iv p0, iv p1, iv p2, iv p3, iv p4, iv p5, iv 1, iv 0, rv oo, .unset, .unset, .unset, .unset, .unset, .unset, .unset, .unset, .unset, .unset] [(.int 1)])) _
        refine XS.goto X83.here hx rfl (pc0 := 37) (pc' := 41) rfl (hb hby at_37) (by decide) (by decide) ?_
        show Steps p.tables e below (T83.setTop (mkF m 41 #[iv p0, iv p1, iv p2, iv p3, iv p4, iv p5, iv 1, iv 0, rv oo, .unset, .unset, .unset, .unset, .unset, .unset, .unset, .unset, .unset, .unset] [(.int 1)])) _
        refine XS.istore X83.here hx rfl (hb hby at_41) rfl (l' := #[iv p0, iv p1, iv p2, iv p3, iv p4, iv p5, iv 1, iv 0, rv oo, iv 1, .unset, .unset, .unset, .unset, .unset, .unset, .unset, .unset, .unset]) rfl ?_
        show Steps p.tables e below (T83.setTop (mkF m 43 #[iv p0, iv p1, iv p2, iv p3, iv p4, iv p5, iv 1, iv 0, rv oo, iv 1, .unset, .unset, .unset, .unset, .unset, .unset, .unset, .unset, .unset] [])) _
        refine XS.iload X83.here hx rfl (hb hby at_43) rfl ?_
        show Steps p.tables e below (T83.setTop (mkF m 45 #[iv p0, iv p1, iv p2, iv p3, iv p4, iv p5, iv 1, iv 0, rv oo, iv 1, .unset, .unset, .unset, .unset, .unset, .unset, .unset, .unset, .unset] [(.int 1)])) _
        refine XS.ifNo X83.here hx rfl (hb hby at_45) rfl ((if0 _ _).trans (feq (by decide)).1) ?_
        show Steps p.tables e below (T83.setTop (mkF m 48 #[iv p0, iv p1, iv p2, iv p3, iv p4, iv p5, iv 1, iv 0, rv oo, iv 1, .unset, .unset, .unset, .unset, .unset, .unset, .unset, .unset, .unset] [])) _
        refine XS.iloadN X83.here hx rfl (hb hby at_48) rfl ?_
        show Steps p.tables e below (T83.setTop (mkF m 49 #[iv p0, iv p1, iv p2, iv p3, iv p4, iv p5, iv 1, iv 0, rv oo, iv 1, .unset, .unset, .unset, .unset, .unset, .unset, .unset, .unset, .unset] [(.int p2)])) _
        refine X83.ldcInt hx hown (mvT hZ (hw _ (own_m 163 rfl))) (g := (mkF m 49 #[iv p0, iv p1, iv p2, iv p3, iv p4, iv p5, iv 1, iv 0, rv oo, iv 1, .unset, .unset, .unset, .unset, .unset, .unset, .unset, .unset, .unset] [(.int p2)])) rfl (hb hby at_49) _ ?_
        show Steps p.tables e below (T83.setTop (mkF m 51 #[iv p0, iv p1, iv p2, iv p3, iv p4, iv p5, iv 1, iv 0, rv oo, iv 1, .unset, .unset, .unset, .unset, .unset, .unset, .unset, .unset, .unset] [(.int 2147483647), (.int p2)])) _
        refine XS.iand X83.here hx rfl (hb hby at_51) rfl ?_
        show Steps p.tables e below (T83.setTop (mkF m 52 #[iv p0, iv p1, iv p2, iv p3, iv p4, iv p5, iv 1, iv 0, rv oo, iv 1, .unset, .unset, .unset, .unset, .unset, .unset, .unset, .unset, .unset] [(.int (p2 &&& (2147483647 : Int32)))])) _
        refine XS.iconst X83.here hx rfl (hb hby at_52) ?_
        show Steps p.tables e below (T83.setTop (mkF m 53 #[iv p0, iv p1, iv p2, iv p3, iv p4, iv p5, iv 1, iv 0, rv oo, iv 1, .unset, .unset, .unset, .unset, .unset, .unset, .unset, .unset, .unset] [(.int 3), (.int (p2 &&& (2147483647 : Int32)))])) _
        refine iremM X83 hx rfl (hb hby at_53) rfl (by decide) ?_
        show Steps p.tables e below (T83.setTop (mkF m 54 #[iv p0, iv p1, iv p2, iv p3, iv p4, iv p5, iv 1, iv 0, rv oo, iv 1, .unset, .unset, .unset, .unset, .unset, .unset, .unset, .unset, .unset] [(.int ((p2 &&& (2147483647 : Int32)) % (3 : Int32)))])) _
        refine XS.goto X83.here hx rfl (pc0 := 54) (pc' := 58) rfl (hb hby at_54) (by decide) (by decide) ?_
        show Steps p.tables e below (T83.setTop (mkF m 58 #[iv p0, iv p1, iv p2, iv p3, iv p4, iv p5, iv 1, iv 0, rv oo, iv 1, .unset, .unset, .unset, .unset, .unset, .unset, .unset, .unset, .unset] [(.int ((p2 &&& (2147483647 : Int32)) % (3 : Int32)))])) _
        refine XS.istore X83.here hx rfl (hb hby at_58) rfl (l' := #[iv p0, iv p1, iv p2, iv p3, iv p4, iv p5, iv 1, iv 0, rv oo, iv 1, .val (.int ((p2 &&& (2147483647 : Int32)) % (3 : Int32))), .unset, .unset, .unset, .unset, .unset, .unset, .unset, .unset]) rfl ?_
        show Steps p.tables e below (T83.setTop (mkF m 60 #[iv p0, iv p1, iv p2, iv p3, iv p4, iv p5, iv 1, iv 0, rv oo, iv 1, .val (.int ((p2 &&& (2147483647 : Int32)) % (3 : Int32))), .unset, .unset, .unset, .unset, .unset, .unset, .unset, .unset] [])) _
        refine XS.aload X83.here hx rfl (hb hby at_60) rfl rfl ?_
        show Steps p.tables e below (T83.setTop (mkF m 62 #[iv p0, iv p1, iv p2, iv p3, iv p4, iv p5, iv 1, iv 0, rv oo, iv 1, .val (.int ((p2 &&& (2147483647 : Int32)) % (3 : Int32))), .unset, .unset, .unset, .unset, .unset, .unset, .unset, .unset] [(.ref oo)])) _
        refine st85 _ ?_
        show Steps p.tables e below (T85.setTop (mkF m 65 #[iv p0, iv p1, iv p2, iv p3, iv p4, iv p5, iv 1, iv 0, rv oo, iv 1, .val (.int ((p2 &&& (2147483647 : Int32)) % (3 : Int32))), .unset, .unset, .unset, .unset, .unset, .unset, .unset, .unset] [(.ref w_SPLIT), (.ref oo)])) _
        refine Jvm.RoadKit.acmp (g := (mkF m 65 #[iv p0, iv p1, iv p2, iv p3, iv p4, iv p5, iv 1, iv 0, rv oo, iv 1, .val (.int ((p2 &&& (2147483647 : Int32)) % (3 : Int32))), .unset, .unset, .unset, .unset, .unset, .unset, .unset, .unset] [(.ref w_SPLIT), (.ref oo)])) X85 hx rfl rfl rfl (pc0 := 65) (pc' := 68) (same := true) rfl (hb hby at_65) rfl (decide_eq_true (congrArg Value.ref ha84)) (by decide) (by decide) ?_
        show Steps p.tables e below (T85.setTop (mkF m 68 #[iv p0, iv p1, iv p2, iv p3, iv p4, iv p5, iv 1, iv 0, rv oo, iv 1, .val (.int ((p2 &&& (2147483647 : Int32)) % (3 : Int32))), .unset, .unset, .unset, .unset, .unset, .unset, .unset, .unset] [])) _
        refine XS.iloadN X85.here hx rfl (hb hby at_68) rfl ?_
        show Steps p.tables e below (T85.setTop (mkF m 69 #[iv p0, iv p1, iv p2, iv p3, iv p4, iv p5, iv 1, iv 0, rv oo, iv 1, .val (.int ((p2 &&& (2147483647 : Int32)) % (3 : Int32))), .unset, .unset, .unset, .unset, .unset, .unset, .unset, .unset] [(.int p3)])) _
        refine X85.ldcInt hx hown (mvT hZ (hw _ (own_m 163 rfl))) (g := (mkF m 69 #[iv p0, iv p1, iv p2, iv p3, iv p4, iv p5, iv 1, iv 0, rv oo, iv 1, .val (.int ((p2 &&& (2147483647 : Int32)) % (3 : Int32))), .unset, .unset, .unset, .unset, .unset, .unset, .unset, .unset] [(.int p3)])) rfl (hb hby at_69) _ ?_
        show Steps p.tables e below (T85.setTop (mkF m 71 #[iv p0, iv p1, iv p2, iv p3, iv p4, iv p5, iv 1, iv 0, rv oo, iv 1, .val (.int ((p2 &&& (2147483647 : Int32)) % (3 : Int32))), .unset, .unset, .unset, .unset, .unset, .unset, .unset, .unset] [(.int 2147483647), (.int p3)])) _
        refine XS.iand X85.here hx rfl (hb hby at_71) rfl ?_
        show Steps p.tables e below (T85.setTop (mkF m 72 #[iv p0, iv p1, iv p2, iv p3, iv p4, iv p5, iv 1, iv 0, rv oo, iv 1, .val (.int ((p2 &&& (2147483647 : Int32)) % (3 : Int32))), .unset, .unset, .unset, .unset, .unset, .unset, .unset, .unset] [(.int (p3 &&& (2147483647 : Int32)))])) _
        refine XS.iconst X85.here hx rfl (hb hby at_72) ?_
        show Steps p.tables e below (T85.setTop (mkF m 73 #[iv p0, iv p1, iv p2, iv p3, iv p4, iv p5, iv 1, iv 0, rv oo, iv 1, .val (.int ((p2 &&& (2147483647 : Int32)) % (3 : Int32))), .unset, .unset, .unset, .unset, .unset, .unset, .unset, .unset] [(.int 3), (.int (p3 &&& (2147483647 : Int32)))])) _
        refine iremM X85 hx rfl (hb hby at_73) rfl (by decide) ?_
        show Steps p.tables e below (T85.setTop (mkF m 74 #[iv p0, iv p1, iv p2, iv p3, iv p4, iv p5, iv 1, iv 0, rv oo, iv 1, .val (.int ((p2 &&& (2147483647 : Int32)) % (3 : Int32))), .unset, .unset, .unset, .unset, .unset, .unset, .unset, .unset] [(.int ((p3 &&& (2147483647 : Int32)) % (3 : Int32)))])) _
        refine XS.goto X85.here hx rfl (pc0 := 74) (pc' := 78) rfl (hb hby at_74) (by decide) (by decide) ?_
        show Steps p.tables e below (T85.setTop (mkF m 78 #[iv p0, iv p1, iv p2, iv p3, iv p4, iv p5, iv 1, iv 0, rv oo, iv 1, .val (.int ((p2 &&& (2147483647 : Int32)) % (3 : Int32))), .unset, .unset, .unset, .unset, .unset, .unset, .unset, .unset] [(.int ((p3 &&& (2147483647 : Int32)) % (3 : Int32)))])) _
        refine XS.istore X85.here hx rfl (hb hby at_78) rfl (l' := #[iv p0, iv p1, iv p2, iv p3, iv p4, iv p5, iv 1, iv 0, rv oo, iv 1, .val (.int ((p2 &&& (2147483647 : Int32)) % (3 : Int32))), .val (.int ((p3 &&& (2147483647 : Int32)) % (3 : Int32))), .unset, .unset, .unset, .unset, .unset, .unset, .unset]) rfl ?_
        show Steps p.tables e below (T85.setTop (mkF m 80 #[iv p0, iv p1, iv p2, iv p3, iv p4, iv p5, iv 1, iv 0, rv oo, iv 1, .val (.int ((p2 &&& (2147483647 : Int32)) % (3 : Int32))), .val (.int ((p3 &&& (2147483647 : Int32)) % (3 : Int32))), .unset, .unset, .unset, .unset, .unset, .unset, .unset] [])) _
        exact kt
      · obtain ⟨T86, X86, e86, st86⟩ := getS2 X83 hx hZ hown (host := "") (Or.inl (hw _ (own_m 9 rfl))) Via.refl e83 (U_JUMP.1.ext O0.2) (g := (mkF m 30 #[iv p0, iv p1, iv p2, iv p3, iv p4, iv p5, iv 1, iv 0, rv oo, .unset, .unset, .unset, .unset, .unset, .unset, .unset, .unset, .unset, .unset] [(.ref oo)])) rfl (hb hby at_30)
        by_cases ha87 : oo = w_JUMP
        · obtain ⟨T88, X88, e88, st88⟩ := getS2 X86 hx hZ hown (host := "") (Or.inl (hw _ (own_m 7 rfl))) Via.refl e86 (U_SPLIT.1.ext O0.2) (g := (mkF m 62 #[iv p0, iv p1, iv p2, iv p3, iv p4, iv p5, iv 1, iv 0, rv oo, iv 1, .val (.int ((p2 &&& (2147483647 : Int32)) % (3 : Int32))), .unset, .unset, .unset, .unset, .unset, .unset, .unset, .unset] [(.ref oo)])) rfl (hb hby at_62)
          refine ⟨(1 : Int32), ((p2 &&& (2147483647 : Int32)) % (3 : Int32)), p3, T88, _, ⟨fun _ => own_rem3 p2, fun q => (ha84 q).elim⟩, X88, N81, e88, fun target kt => ?_⟩
          show Steps p.tables e below (T81.setTop (mkF m 20 #[iv p0, iv p1, iv p2, iv p3, iv p4, iv p5, iv 1, iv 0, rv oo, .unset, .unset, .unset, .unset, .unset, .unset, .unset, .unset, .unset, .unset] [])) _
          refine XS.aload X81.here hx rfl (hb hby at_20) rfl rfl ?_
          show Steps p.tables e below (T81.setTop (mkF m 22 #[iv p0, iv p1, iv p2, iv p3, iv p4, iv p5, iv 1, iv 0, rv oo, .unset, .unset, .unset, .unset, .unset, .unset, .unset, .unset, .unset, .unset] [(.ref oo)])) _
          refine st83 _ ?_
          show Steps p.tables e below (T83.setTop (mkF m 25 #[iv p0, iv p1, iv p2, iv p3, iv p4, iv p5, iv 1, iv 0, rv oo, .unset, .unset, .unset, .unset, .unset, .unset, .unset, .unset, .unset, .unset] [(.ref w_SPLIT), (.ref oo)])) _
          refine Jvm.RoadKit.acmp (g := (mkF m 25 #[iv p0, iv p1, iv p2, iv p3, iv p4, iv p5, iv 1, iv 0, rv oo, .unset, .unset, .unset, .unset, .unset, .unset, .unset, .unset, .unset, .unset] [(.ref w_SPLIT), (.ref oo)])) X83 hx rfl rfl rfl (pc0 := 25) (pc' := 28) (same := false) rfl (hb hby at_25) rfl (decide_eq_false fun q => ha84 (Value.ref.inj q)) (by decide) (by decide) ?_
          show Steps p.tables e below (T83.setTop (mkF m 28 #[iv p0, iv p1, iv p2, iv p3, iv p4, iv p5, iv 1, iv 0, rv oo, .unset, .unset, .unset, .unset, .unset, .unset, .unset, .unset, .unset, .unset] [])) _
          refine XS.aload X83.here hx rfl (hb hby at_28) rfl rfl ?_
          show Steps p.tables e below (T83.setTop (mkF m 30 #[iv p0, iv p1, iv p2, iv p3, iv p4, iv p5, iv 1, iv 0, rv oo, .unset, .unset, .unset, .unset, .unset, .unset, .unset, .unset, .unset, .unset] [(.ref oo)])) _
          refine st86 _ ?_
          show Steps p.tables e below (T86.setTop (mkF m 33 #[iv p0, iv p1, iv p2, iv p3, iv p4, iv p5, iv 1, iv 0, rv oo, .unset, .unset, .unset, .unset, .unset, .unset, .unset, .unset, .unset, .unset] [(.ref w_JUMP), (.ref oo)])) _
          refine Jvm.RoadKit.acmp (g := (mkF m 33 #[iv p0, iv p1, iv p2, iv p3, iv p4, iv p5, iv 1, iv 0, rv oo, .unset, .unset, .unset, .unset, .unset, .unset, .unset, .unset, .unset, .unset] [(.ref w_JUMP), (.ref oo)])) X86 hx rfl rfl rfl (pc0 := 33) (pc' := 36) (same := true) rfl (hb hby at_33) rfl (decide_eq_true (congrArg Value.ref ha87)) (by decide) (by decide) ?_
          show Steps p.tables e below (T86.setTop (mkF m 36 #[iv p0, iv p1, iv p2, iv p3, iv p4, iv p5, iv 1, iv 0, rv oo, .unset, .unset, .unset, .unset, .unset, .unset, .unset, .unset, .unset, .unset] [])) _
          refine XS.iconst X86.here hx rfl (hb hby at_36) ?_
          show Steps p.tables e below (T86.setTop (mkF m 37 #[iv p0, iv p1, iv p2, iv p3, iv p4, iv p5, iv 1, iv 0, rv oo, .unset, .unset, .unset, .unset, .unset, .unset, .unset, .unset, .unset, .unset] [(.int 1)])) _
          refine XS.goto X86.here hx rfl (pc0 := 37) (pc' := 41) rfl (hb hby at_37) (by decide) (by decide) ?_
          show Steps p.tables e below (T86.setTop (mkF m 41 #[iv p0, iv p1, iv p2, iv p3, iv p4, iv p5, iv 1, iv 0, rv oo, .unset, .unset, .unset, .unset, .unset, .unset, .unset, .unset, .unset, .unset] [(.int 1)])) _
          refine XS.istore X86.here hx rfl (hb hby at_41) rfl (l' := #[iv p0, iv p1, iv p2, iv p3, iv p4, iv p5, iv 1, iv 0, rv oo, iv 1, .unset, .unset, .unset, .unset, .unset, .unset, .unset, .unset, .unset]) rfl ?_
          show Steps p.tables e below (T86.setTop (mkF m 43 #[iv p0, iv p1, iv p2, iv p3, iv p4, iv p5, iv 1, iv 0, rv oo, iv 1, .unset, .unset, .unset, .unset, .unset, .unset, .unset, .unset, .unset] [])) _
          refine XS.iload X86.here hx rfl (hb hby at_43) rfl ?_
          show Steps p.tables e below (T86.setTop (mkF m 45 #[iv p0, iv p1, iv p2, iv p3, iv p4, iv p5, iv 1, iv 0, rv oo, iv 1, .unset, .unset, .unset, .unset, .unset, .unset, .unset, .unset, .unset] [(.int 1)])) _
          refine XS.ifNo X86.here hx rfl (hb hby at_45) rfl ((if0 _ _).trans (feq (by decide)).1) ?_
          show Steps p.tables e below (T86.setTop (mkF m 48 #[iv p0, iv p1, iv p2, iv p3, iv p4, iv p5, iv 1, iv 0, rv oo, iv 1, .unset, .unset, .unset, .unset, .unset, .unset, .unset, .unset, .unset] [])) _
          refine XS.iloadN X86.here hx rfl (hb hby at_48) rfl ?_
          show Steps p.tables e below (T86.setTop (mkF m 49 #[iv p0, iv p1, iv p2, iv p3, iv p4, iv p5, iv 1, iv 0, rv oo, iv 1, .unset, .unset, .unset, .unset, .unset, .unset, .unset, .unset, .unset] [(.int p2)])) _
          refine X86.ldcInt hx hown (mvT hZ (hw _ (own_m 163 rfl))) (g := (mkF m 49 #[iv p0, iv p1, iv p2, iv p3, iv p4, iv p5, iv 1, iv 0, rv oo, iv 1, .unset, .unset, .unset, .unset, .unset, .unset, .unset, .unset, .unset] [(.int p2)])) rfl (hb hby at_49) _ ?_
          show Steps p.tables e below (T86.setTop (mkF m 51 #[iv p0, iv p1, iv p2, iv p3, iv p4, iv p5, iv 1, iv 0, rv oo, iv 1, .unset, .unset, .unset, .unset, .unset, .unset, .unset, .unset, .unset] [(.int 2147483647), (.int p2)])) _
          refine XS.iand X86.here hx rfl (hb hby at_51) rfl ?_
          show Steps p.tables e below (T86.setTop (mkF m 52 #[iv p0, iv p1, iv p2, iv p3, iv p4, iv p5, iv 1, iv 0, rv oo, iv 1, .unset, .unset, .unset, .unset, .unset, .unset, .unset, .unset, .unset] [(.int (p2 &&& (2147483647 : Int32)))])) _
          refine XS.iconst X86.here hx rfl (hb hby at_52) ?_
          show Steps p.tables e below (T86.setTop (mkF m 53 #[iv p0, iv p1, iv p2, iv p3, iv p4, iv p5, iv 1, iv 0, rv oo, iv 1, .unset, .unset, .unset, .unset, .unset, .unset, .unset, .unset, .unset] [(.int 3), (.int (p2 &&& (2147483647 : Int32)))])) _
          refine iremM X86 hx rfl (hb hby at_53) rfl (by decide) ?_
          show Steps p.tables e below (T86.setTop (mkF m 54 #[iv p0, iv p1, iv p2, iv p3, iv p4, iv p5, iv 1, iv 0, rv oo, iv 1, .unset, .unset, .unset, .unset, .unset, .unset, .unset, .unset, .unset] [(.int ((p2 &&& (2147483647 : Int32)) % (3 : Int32)))])) _
          refine XS.goto X86.here hx rfl (pc0 := 54) (pc' := 58) rfl (hb hby at_54) (by decide) (by decide) ?_
          show Steps p.tables e below (T86.setTop (mkF m 58 #[iv p0, iv p1, iv p2, iv p3, iv p4, iv p5, iv 1, iv 0, rv oo, iv 1, .unset, .unset, .unset, .unset, .unset, .unset, .unset, .unset, .unset] [(.int ((p2 &&& (2147483647 : Int32)) % (3 : Int32)))])) _
          refine XS.istore X86.here hx rfl (hb hby at_58) rfl (l' := #[iv p0, iv p1, iv p2, iv p3, iv p4, iv p5, iv 1, iv 0, rv oo, iv 1, .val (.int ((p2 &&& (2147483647 : Int32)) % (3 : Int32))), .unset, .unset, .unset, .unset, .unset, .unset, .unset, .unset]) rfl ?_
          show Steps p.tables e below (T86.setTop (mkF m 60 #[iv p0, iv p1, iv p2, iv p3, iv p4, iv p5, iv 1, iv 0, rv oo, iv 1, .val (.int ((p2 &&& (2147483647 : Int32)) % (3 : Int32))), .unset, .unset, .unset, .unset, .unset, .unset, .unset, .unset] [])) _
          refine XS.aload X86.here hx rfl (hb hby at_60) rfl rfl ?_
          show Steps p.tables e below (T86.setTop (mkF m 62 #[iv p0, iv p1, iv p2, iv p3, iv p4, iv p5, iv 1, iv 0, rv oo, iv 1, .val (.int ((p2 &&& (2147483647 : Int32)) % (3 : Int32))), .unset, .unset, .unset, .unset, .unset, .unset, .unset, .unset] [(.ref oo)])) _
          refine st88 _ ?_
          show Steps p.tables e below (T88.setTop (mkF m 65 #[iv p0, iv p1, iv p2, iv p3, iv p4, iv p5, iv 1, iv 0, rv oo, iv 1, .val (.int ((p2 &&& (2147483647 : Int32)) % (3 : Int32))), .unset, .unset, .unset, .unset, .unset, .unset, .unset, .unset] [(.ref w_SPLIT), (.ref oo)])) _
          refine Jvm.RoadKit.acmp (g := (mkF m 65 #[iv p0, iv p1, iv p2, iv p3, iv p4, iv p5, iv 1, iv 0, rv oo, iv 1, .val (.int ((p2 &&& (2147483647 : Int32)) % (3 : Int32))), .unset, .unset, .unset, .unset, .unset, .unset, .unset, .unset] [(.ref w_SPLIT), (.ref oo)])) X88 hx rfl rfl rfl (pc0 := 65) (pc' := 77) (same := false) rfl (hb hby at_65) rfl (decide_eq_false fun q => ha84 (Value.ref.inj q)) (by decide) (by decide) ?_
          show Steps p.tables e below (T88.setTop (mkF m 77 #[iv p0, iv p1, iv p2, iv p3, iv p4, iv p5, iv 1, iv 0, rv oo, iv 1, .val (.int ((p2 &&& (2147483647 : Int32)) % (3 : Int32))), .unset, .unset, .unset, .unset, .unset, .unset, .unset, .unset] [])) _
          refine XS.iloadN X88.here hx rfl (hb hby at_77) rfl ?_
          show Steps p.tables e below (T88.setTop (mkF m 78 #[iv p0, iv p1, iv p2, iv p3, iv p4, iv p5, iv 1, iv 0, rv oo, iv 1, .val (.int ((p2 &&& (2147483647 : Int32)) % (3 : Int32))), .unset, .unset, .unset, .unset, .unset, .unset, .unset, .unset] [(.int p3)])) _
          refine XS.istore X88.here hx rfl (hb hby at_78) rfl (l' := #[iv p0, iv p1, iv p2, iv p3, iv p4, iv p5, iv 1, iv 0, rv oo, iv 1, .val (.int ((p2 &&& (2147483647 : Int32)) % (3 : Int32))), iv p3, .unset, .unset, .unset, .unset, .unset, .unset, .unset]) rfl ?_
          show Steps p.tables e below (T88.setTop (mkF m 80 #[iv p0, iv p1, iv p2, iv p3, iv p4, iv p5, iv 1, iv 0, rv oo, iv 1, .val (.int ((p2 &&& (2147483647 : Int32)) % (3 : Int32))), iv p3, .unset, .unset, .unset, .unset, .unset, .unset, .unset] [])) _
          exact kt
        · obtain ⟨T89, X89, e89, st89⟩ := getS2 X86 hx hZ hown (host := "") (Or.inl (hw _ (own_m 7 rfl))) Via.refl e86 (U_SPLIT.1.ext O0.2) (g := (mkF m 62 #[iv p0, iv p1, iv p2, iv p3, iv p4, iv p5, iv 1, iv 0, rv oo, iv 0, iv p2, .unset, .unset, .unset, .unset, .unset, .unset, .unset, .unset] [(.ref oo)])) rfl (hb hby at_62)
          refine ⟨(0 : Int32), p2, p3, T89, _, ⟨fun q => (q.elim ha84 ha87).elim, fun q => (ha84 q).elim⟩, X89, N81, e89, fun target kt => ?_⟩
          show Steps p.tables e below (T81.setTop (mkF m 20 #[iv p0, iv p1, iv p2, iv p3, iv p4, iv p5, iv 1, iv 0, rv oo, .unset, .unset, .unset, .unset, .unset, .unset, .unset, .unset, .unset, .unset] [])) _
          refine XS.aload X81.here hx rfl (hb hby at_20) rfl rfl ?_
          show Steps p.tables e below (T81.setTop (mkF m 22 #[iv p0, iv p1, iv p2, iv p3, iv p4, iv p5, iv 1, iv 0, rv oo, .unset, .unset, .unset, .unset, .unset, .unset, .unset, .unset, .unset, .unset] [(.ref oo)])) _
          refine st83 _ ?_
          show Steps p.tables e below (T83.setTop (mkF m 25 #[iv p0, iv p1, iv p2, iv p3, iv p4, iv p5, iv 1, iv 0, rv oo, .unset, .unset, .unset, .unset, .unset, .unset, .unset, .unset, .unset, .unset] [(.ref w_SPLIT), (.ref oo)])) _
          refine Jvm.RoadKit.acmp (g := (mkF m 25 #[iv p0, iv p1, iv p2, iv p3, iv p4, iv p5, iv 1, iv 0, rv oo, .unset, .unset, .unset, .unset, .unset, .unset, .unset, .unset, .unset, .unset] [(.ref w_SPLIT), (.ref oo)])) X83 hx rfl rfl rfl (pc0 := 25) (pc' := 28) (same := false) rfl (hb hby at_25) rfl (decide_eq_false fun q => ha84 (Value.ref.inj q)) (by decide) (by decide) ?_
          show Steps p.tables e below (T83.setTop (mkF m 28 #[iv p0, iv p1, iv p2, iv p3, iv p4, iv p5, iv 1, iv 0, rv oo, .unset, .unset, .unset, .unset, .unset, .unset, .unset, .unset, .unset, .unset] [])) _
          refine XS.aload X83.here hx rfl (hb hby at_28) rfl rfl ?_
          show Steps p.tables e below (T83.setTop (mkF m 30 #[iv p0, iv p1, iv p2, iv p3, iv p4, iv p5, iv 1, iv 0, rv oo, .unset, .unset, .unset, .unset, .unset, .unset, .unset, .unset, .unset, .unset] [(.ref oo)])) _
          refine st86 _ ?_
          show Steps p.tables e below (T86.setTop (mkF m 33 #[iv p0, iv p1, iv p2, iv p3, iv p4, iv p5, iv 1, iv 0, rv oo, .unset, .unset, .unset, .unset, .unset, .unset, .unset, .unset, .unset, .unset] [(.ref w_JUMP), (.ref oo)])) _
          refine Jvm.RoadKit.acmp (g := (mkF m 33 #[iv p0, iv p1, iv p2, iv p3, iv p4, iv p5, iv 1, iv 0, rv oo, .unset, .unset, .unset, .unset, .unset, .unset, .unset, .unset, .unset, .unset] [(.ref w_JUMP), (.ref oo)])) X86 hx rfl rfl rfl (pc0 := 33) (pc' := 40) (same := false) rfl (hb hby at_33) rfl (decide_eq_false fun q => ha87 (Value.ref.inj q)) (by decide) (by decide) ?_
          show Steps p.tables e below (T86.setTop (mkF m 40 #[iv p0, iv p1, iv p2, iv p3, iv p4, iv p5, iv 1, iv 0, rv oo, .unset, .unset, .unset, .unset, .unset, .unset, .unset, .unset, .unset, .unset] [])) _
          refine XS.iconst X86.here hx rfl (hb hby at_40) ?_
          show Steps p.tables e below (T86.setTop (mkF m 41 #[iv p0, iv p1, iv p2, iv p3, iv p4, iv p5, iv 1, iv 0, rv oo, .unset, .unset, .unset, .unset, .unset, .unset, .unset, .unset, .unset, .unset] [(.int 0)])) _
          refine XS.istore X86.here hx rfl (hb hby at_41) rfl (l' := #[iv p0, iv p1, iv p2, iv p3, iv p4, iv p5, iv 1, iv 0, rv oo, iv 0, .unset, .unset, .unset, .unset, .unset, .unset, .unset, .unset, .unset]) rfl ?_
          show Steps p.tables e below (T86.setTop (mkF m 43 #[iv p0, iv p1, iv p2, iv p3, iv p4, iv p5, iv 1, iv 0, rv oo, iv 0, .unset, .unset, .unset, .unset, .unset, .unset, .unset, .unset, .unset] [])) _
          refine XS.iload X86.here hx rfl (hb hby at_43) rfl ?_
          show Steps p.tables e below (T86.setTop (mkF m 45 #[iv p0, iv p1, iv p2, iv p3, iv p4, iv p5, iv 1, iv 0, rv oo, iv 0, .unset, .unset, .unset, .unset, .unset, .unset, .unset, .unset, .unset] [(.int 0)])) _
          refine XS.ifYes X86.here hx rfl (pc0 := 45) (pc' := 57) rfl (hb hby at_45) rfl ((if0 _ _).trans (teq (by decide)).1) (by decide) (by decide) ?_
          show Steps p.tables e below (T86.setTop (mkF m 57 #[iv p0, iv p1, iv p2, iv p3, iv p4, iv p5, iv 1, iv 0, rv oo, iv 0, .unset, .unset, .unset, .unset, .unset, .unset, .unset, .unset, .unset] [])) _
          refine XS.iloadN X86.here hx rfl (hb hby at_57) rfl ?_
          show Steps p.tables e below (T86.setTop (mkF m 58 #[iv p0, iv p1, iv p2, iv p3, iv p4, iv p5, iv 1, iv 0, rv oo, iv 0, .unset, .unset, .unset, .unset, .unset, .unset, .unset, .unset, .unset] [(.int p2)])) _
          refine XS.istore X86.here hx rfl (hb hby at_58) rfl (l' := #[iv p0, iv p1, iv p2, iv p3, iv p4, iv p5, iv 1, iv 0, rv oo, iv 0, iv p2, .unset, .unset, .unset, .unset, .unset, .unset, .unset, .unset]) rfl ?_
          show Steps p.tables e below (T86.setTop (mkF m 60 #[iv p0, iv p1, iv p2, iv p3, iv p4, iv p5, iv 1, iv 0, rv oo, iv 0, iv p2, .unset, .unset, .unset, .unset, .unset, .unset, .unset, .unset] [])) _
          refine XS.aload X86.here hx rfl (hb hby at_60) rfl rfl ?_
          show Steps p.tables e below (T86.setTop (mkF m 62 #[iv p0, iv p1, iv p2, iv p3, iv p4, iv p5, iv 1, iv 0, rv oo, iv 0, iv p2, .unset, .unset, .unset, .unset, .unset, .unset, .unset, .unset] [(.ref oo)])) _
          refine st89 _ ?_
          show Steps p.tables e below (T89.setTop (mkF m 65 #[iv p0, iv p1, iv p2, iv p3, iv p4, iv p5, iv 1, iv 0, rv oo, iv 0, iv p2, .unset, .unset, .unset, .unset, .unset, .unset, .unset, .unset] [(.ref w_SPLIT), (.ref oo)])) _
          refine Jvm.RoadKit.acmp (g := (mkF m 65 #[iv p0, iv p1, iv p2, iv p3, iv p4, iv p5, iv 1, iv 0, rv oo, iv 0, iv p2, .unset, .unset, .unset, .unset, .unset, .unset, .unset, .unset] [(.ref w_SPLIT), (.ref oo)])) X89 hx rfl rfl rfl (pc0 := 65) (pc' := 77) (same := false) rfl (hb hby at_65) rfl (decide_eq_false fun q => ha84 (Value.ref.inj q)) (by decide) (by decide) ?_
          show Steps p.tables e below (T89.setTop (mkF m 77 #[iv p0, iv p1, iv p2, iv p3, iv p4, iv p5, iv 1, iv 0, rv oo, iv 0, iv p2, .unset, .unset, .unset, .unset, .unset, .unset, .unset, .unset] [])) _
          refine XS.iloadN X89.here hx rfl (hb hby at_77) rfl ?_
          show Steps p.tables e below (T89.setTop (mkF m 78 #[iv p0, iv p1, iv p2, iv p3, iv p4, iv p5, iv 1, iv 0, rv oo, iv 0, iv p2, .unset, .unset, .unset, .unset, .unset, .unset, .unset, .unset] [(.int p3)])) _
          refine XS.istore X89.here hx rfl (hb hby at_78) rfl (l' := #[iv p0, iv p1, iv p2, iv p3, iv p4, iv p5, iv 1, iv 0, rv oo, iv 0, iv p2, iv p3, .unset, .unset, .unset, .unset, .unset, .unset, .unset]) rfl ?_
          show Steps p.tables e below (T89.setTop (mkF m 80 #[iv p0, iv p1, iv p2, iv p3, iv p4, iv p5, iv 1, iv 0, rv oo, iv 0, iv p2, iv p3, .unset, .unset, .unset, .unset, .unset, .unset, .unset] [])) _
          exact kt
    obtain ⟨T90, h90, X90, e90, E90, A90, D90, -, st90⟩ := newO X82 hx hZ hown (hw _ (own_m 11 rfl)) (hw _ (own_m 12 rfl)) (hw _ (own_m 13 rfl)) e82 (g := (mkF m 80 #[iv p0, iv p1, iv p2, iv p3, iv p4, iv p5, iv 1, iv 0, rv oo, iv jv, iv fa, iv fb, .unset, .unset, .unset, .unset, .unset, .unset, .unset] [])) rfl (hb hby at_80) (by decide) (by decide)
    obtain ⟨b90, g90⟩ : ∃ z, z = h0.size := ⟨_, rfl⟩
    rw [← g90] at A90 D90 st90
    have gg_b90 : n0 ≤ b90 := g90 ▸ own_le O0
    have O91 := O0.ext E90
    have F_ops_b90 : Fld Z h90 b90 "com/example/quillgraph/quillgraph/sparql/RegexProgram$Builder" "ops" "[Lcom/example/quillgraph/quillgraph/sparql/RegexProgram$Op;" .null := D90 (Or.inl (hw _ (own_m 23 rfl))) (ty := (.array (.object "com/example/quillgraph/quillgraph/sparql/RegexProgram$Op"))) (by decide)
    have F_first_b90 : Fld Z h90 b90 "com/example/quillgraph/quillgraph/sparql/RegexProgram$Builder" "first" "[I" .null := D90 (Or.inl (hw _ (own_m 26 rfl))) (ty := (.array .int)) (by decide)
    have F_second_b90 : Fld Z h90 b90 "com/example/quillgraph/quillgraph/sparql/RegexProgram$Builder" "second" "[I" .null := D90 (Or.inl (hw _ (own_m 28 rfl))) (ty := (.array .int)) (by decide)
    have F_classes_b90 : Fld Z h90 b90 "com/example/quillgraph/quillgraph/sparql/RegexProgram$Builder" "classes" "Ljava/util/List;" .null := D90 (Or.inr (hw _ (own_m 54 rfl))) (ty := (.object "java/util/List")) (by decide)
    have F_limit_b90 : Fld Z h90 b90 "com/example/quillgraph/quillgraph/sparql/RegexProgram$Builder" "limit" "I" (.int 0) := D90 (Or.inr (hw _ (own_m 56 rfl))) (ty := .int) (by decide)
    have F_size_b90 : Fld Z h90 b90 "com/example/quillgraph/quillgraph/sparql/RegexProgram$Builder" "size" "I" (.int 0) := D90 (Or.inl (hw _ (own_m 68 rfl))) (ty := .int) (by decide)
    have F_registers_b90 : Fld Z h90 b90 "com/example/quillgraph/quillgraph/sparql/RegexProgram$Builder" "registers" "I" (.int 0) := D90 (Or.inl (hw _ (own_m 126 rfl))) (ty := .int) (by decide)
    obtain ⟨_, _, ⟨T92, L92, k92, n92⟩, -, X92, ⟨Lc92, hQ92, l92, y92, z92⟩, st92⟩ := X90.specialBack hx (y := (⟨"com/example/quillgraph/quillgraph/sparql/RegexProgram$Builder", "<init>", "(I)V"⟩ : MethodName)) rfl hown (mvT hZ (hw _ (own_m 14 rfl))) (mvT hZ (hw _ (own_m 15 rfl))) (mvT hZ (hw _ (own_m 16 rfl))) (by decide) (backOf (W := 1) (own_bk l Z a0 hw [] w_CHARACTER w_SPLIT w_JUMP w_TEXT_START w_LINE_START w_TEXT_END w_LINE_END w_SAVE w_BACK_REFERENCE w_MARK w_PROGRESS w_MATCH w_NOTHING w_DE k_DE b90 h90 n0 O91 U_CHARACTER U_SPLIT U_JUMP U_TEXT_START U_LINE_START U_TEXT_END U_LINE_END U_SAVE U_BACK_REFERENCE U_MARK U_PROGRESS U_MATCH U_NOTHING S_DE V_DE gg_b90 A90 F_ops_b90 F_first_b90 F_second_b90 F_classes_b90 F_limit_b90 F_size_b90 F_registers_b90) hZ (hw _ (own_m 16 rfl)) (hw _ (own_m 13 rfl)) (by decide) (by decide)) (g := (mkF m 86 #[iv p0, iv p1, iv p2, iv p3, iv p4, iv p5, iv 1, iv 0, rv oo, iv jv, iv fa, iv fb, .unset, .unset, .unset, .unset, .unset, .unset, .unset] [(.int 16), (.ref b90), (.ref b90)])) rfl (by rw [hml]; rfl) (Steps.refl _) (a := b90) (argsL := [(.int 16)]) (rest := [(.ref b90)]) (lenOf own_pd8 rfl) rfl (by show 2 * 0 + _ ≤ _; exact Nat.le_of_eq rfl) (hb hby at_86) (fun _ _ => ⟨rfl, e90, (by decide : 1 + 4 ≤ _), (by decide : 7 + 51 ≤ _)⟩)
    dsimp only [Pt.U, Pt.locs, Pt.cells, Pt.slots] at X92 l92 y92 z92 st92 hQ92
    subst l92 y92 z92
    obtain ⟨rfl, N92q, K92, bo, bf, bs, ll, ko, kf, ks, z_bo, z_bf, z_bs, z_ll, n_bo_a, n_bf_a, n_bs_a, n_ll_a, n_bo_bf, n_bo_bs, n_bf_bs, n_bo_ll, n_bf_ll, n_bs_ll, O_bo, V_bo, V_bf, V_bs, q93, q94, q95, q96, q97, q98, q99, q100, q101, q102, q103, q104⟩ := hQ92
    have N92 := Fr.app N82 N92q
    have g_bo : n0 ≤ bo := Nat.le_trans (own_le O91) z_bo
    have g_bf : n0 ≤ bf := Nat.le_trans (own_le O91) z_bf
    have g_bs : n0 ≤ bs := Nat.le_trans (own_le O91) z_bs
    have g_ll : n0 ≤ ll := Nat.le_trans (own_le O91) z_ll
    have O105 := O91.keep K92 (allS gg_b90 all0)
    obtain ⟨T106, X106, e106, st106⟩ := getS2 X92 hx hZ hown (host := "") (Or.inl (hw _ (own_m 4 rfl))) Via.refl rfl (U_TEXT_START.1.ext O105.2) (g := (mkF m 93 #[iv p0, iv p1, iv p2, iv p3, iv p4, iv p5, iv 1, iv 0, rv oo, iv jv, iv fa, iv fb, rv b90, .unset, .unset, .unset, .unset, .unset, .unset] [(.ref b90)])) rfl (hb hby at_93)
    obtain ⟨cq107, kq107, q107a, q107b, q107c⟩ := isOf hZ e106 q97
    obtain ⟨_, _, ⟨T107, L107, k107, n107⟩, -, X107, ⟨Lc107, hQ107, l107, y107, z107⟩, st107⟩ := X106.virtualBack hx (y := (⟨"com/example/quillgraph/quillgraph/sparql/RegexProgram$Builder", "add", "(Lcom/example/quillgraph/quillgraph/sparql/RegexProgram$Op;II)I"⟩ : MethodName)) (z := (⟨"com/example/quillgraph/quillgraph/sparql/RegexProgram$Builder", "add", "(Lcom/example/quillgraph/quillgraph/sparql/RegexProgram$Op;II)I"⟩ : MethodName)) hown (mvT hZ (hw _ (own_m 57 rfl))) (mvT hZ (hw _ (own_m 58 rfl))) (notFace_of_selects (args := #[]) (mvT hZ (hw _ (own_m 60 rfl)))) (mvT hZ (hw _ (own_m 60 rfl))) (mvT hZ (hw _ (own_m 59 rfl))) (by decide) (backOf (W := 0) (own_add0 l Z a0 hw [] w_CHARACTER w_SPLIT w_JUMP w_TEXT_START w_LINE_START w_TEXT_END w_LINE_END w_SAVE w_BACK_REFERENCE w_MARK w_PROGRESS w_MATCH w_NOTHING w_DE k_DE b90 bo bf bs ll ko kf ks w_TEXT_START p4 p5 T92.heap n0 O105 U_CHARACTER U_SPLIT U_JUMP U_TEXT_START U_LINE_START U_TEXT_END U_LINE_END U_SAVE U_BACK_REFERENCE U_MARK U_PROGRESS U_MATCH U_NOTHING S_DE V_DE gg_b90 q97 q98 q99 q100 q101 q102 q103 q104 g_bo g_bf g_bs n_bo_a n_bf_a n_bs_a n_ll_a n_bo_bf n_bo_bs n_bf_bs n_bo_ll n_bf_ll n_bs_ll O_bo V_bo V_bf V_bs (U_TEXT_START.2.1.ext O105.2)) hZ (hw _ (own_m 61 rfl)) (hw _ (own_m 13 rfl)) (by decide) (by decide)) q107a q107c (g := (mkF m 100 #[iv p0, iv p1, iv p2, iv p3, iv p4, iv p5, iv 1, iv 0, rv oo, iv jv, iv fa, iv fb, rv b90, .unset, .unset, .unset, .unset, .unset, .unset] [(.int p5), (.int p4), (.ref w_TEXT_START), (.ref b90)])) rfl (by rw [hml]; rfl) (Steps.refl _) (argsL := [(.ref w_TEXT_START), (.int p4), (.int p5)]) (rest := []) (lenOf own_pd2 rfl) rfl (by show 2 * 0 + _ ≤ _; exact Nat.le_of_eq rfl) (hb hby at_100) (fun _ _ => ⟨rfl, e106, (by decide : 5 + 0 ≤ _), (by decide : 58 + 0 ≤ _)⟩)
    dsimp only [Pt.U, Pt.locs, Pt.cells, Pt.slots] at X107 l107 y107 z107 st107 hQ107
    subst l107 y107 z107
    obtain ⟨rfl, N107q, K107, q108, q109, q110, q111, q112, q113, q114, q115, q116, q117, q118⟩ := hQ107
    have N107 := Fr.app N92 N107q
    have O119 := O105.keep K107 (allS gg_b90 (allS g_bo (allS g_bf (allS g_bs all0))))
    obtain ⟨T120, X120, e120, st120⟩ := getS2 X107 hx hZ hown (host := "") (Or.inl (hw _ (own_m 70 rfl))) Via.refl rfl (U_LINE_END.1.ext O119.2) (g := (mkF m 106 #[iv p0, iv p1, iv p2, iv p3, iv p4, iv p5, iv 1, iv 0, rv oo, iv jv, iv fa, iv fb, rv b90, .unset, .unset, .unset, .unset, .unset, .unset] [(.ref b90)])) rfl (hb hby at_106)
    obtain ⟨cq121, kq121, q121a, q121b, q121c⟩ := isOf hZ e120 q111
    obtain ⟨_, _, ⟨T121, L121, k121, n121⟩, -, X121, ⟨Lc121, hQ121, l121, y121, z121⟩, st121⟩ := X120.virtualBack hx (y := (⟨"com/example/quillgraph/quillgraph/sparql/RegexProgram$Builder", "add", "(Lcom/example/quillgraph/quillgraph/sparql/RegexProgram$Op;II)I"⟩ : MethodName)) (z := (⟨"com/example/quillgraph/quillgraph/sparql/RegexProgram$Builder", "add", "(Lcom/example/quillgraph/quillgraph/sparql/RegexProgram$Op;II)I"⟩ : MethodName)) hown (mvT hZ (hw _ (own_m 57 rfl))) (mvT hZ (hw _ (own_m 58 rfl))) (notFace_of_selects (args := #[]) (mvT hZ (hw _ (own_m 60 rfl)))) (mvT hZ (hw _ (own_m 60 rfl))) (mvT hZ (hw _ (own_m 59 rfl))) (by decide) (backOf (W := 0) (own_add1 l Z a0 hw [] w_CHARACTER w_SPLIT w_JUMP w_TEXT_START w_LINE_START w_TEXT_END w_LINE_END w_SAVE w_BACK_REFERENCE w_MARK w_PROGRESS w_MATCH w_NOTHING w_DE k_DE b90 bo bf bs ll ko kf ks w_TEXT_START p4 p5 w_LINE_END p5 p4 T107.heap n0 O119 U_CHARACTER U_SPLIT U_JUMP U_TEXT_START U_LINE_START U_TEXT_END U_LINE_END U_SAVE U_BACK_REFERENCE U_MARK U_PROGRESS U_MATCH U_NOTHING S_DE V_DE gg_b90 q111 q112 q113 q114 q115 q116 q117 q118 g_bo g_bf g_bs n_bo_a n_bf_a n_bs_a n_ll_a n_bo_bf n_bo_bs n_bf_bs n_bo_ll n_bf_ll n_bs_ll O_bo q108 q109 q110 (U_LINE_END.2.1.ext O119.2)) hZ (hw _ (own_m 61 rfl)) (hw _ (own_m 13 rfl)) (by decide) (by decide)) q121a q121c (g := (mkF m 113 #[iv p0, iv p1, iv p2, iv p3, iv p4, iv p5, iv 1, iv 0, rv oo, iv jv, iv fa, iv fb, rv b90, .unset, .unset, .unset, .unset, .unset, .unset] [(.int p4), (.int p5), (.ref w_LINE_END), (.ref b90)])) rfl (by rw [hml]; rfl) (Steps.refl _) (argsL := [(.ref w_LINE_END), (.int p5), (.int p4)]) (rest := []) (lenOf own_pd2 rfl) rfl (by show 2 * 0 + _ ≤ _; exact Nat.le_of_eq rfl) (hb hby at_113) (fun _ _ => ⟨rfl, e120, (by decide : 5 + 0 ≤ _), (by decide : 58 + 0 ≤ _)⟩)
    dsimp only [Pt.U, Pt.locs, Pt.cells, Pt.slots] at X121 l121 y121 z121 st121 hQ121
    subst l121 y121 z121
    obtain ⟨rfl, N121q, K121, q122, q123, q124, q125, q126, q127, q128, q129, q130, q131, q132⟩ := hQ121
    have N121 := Fr.app N107 N121q
    have O133 := O119.keep K121 (allS gg_b90 (allS g_bo (allS g_bf (allS g_bs all0))))
    obtain ⟨cq134, kq134, q134a, q134b, q134c⟩ := isOf hZ rfl q125
    obtain ⟨_, _, ⟨T134, L134, k134, n134⟩, -, X134, ⟨Lc134, hQ134, l134, y134, z134⟩, st134⟩ := X121.virtualBack hx (y := (⟨"com/example/quillgraph/quillgraph/sparql/RegexProgram$Builder", "set", "(ILcom/example/quillgraph/quillgraph/sparql/RegexProgram$Op;II)V"⟩ : MethodName)) (z := (⟨"com/example/quillgraph/quillgraph/sparql/RegexProgram$Builder", "set", "(ILcom/example/quillgraph/quillgraph/sparql/RegexProgram$Op;II)V"⟩ : MethodName)) hown (mvT hZ (hw _ (own_m 72 rfl))) (mvT hZ (hw _ (own_m 73 rfl))) (notFace_of_selects (args := #[]) (mvT hZ (hw _ (own_m 75 rfl)))) (mvT hZ (hw _ (own_m 75 rfl))) (mvT hZ (hw _ (own_m 74 rfl))) (by decide) (backOf (W := 0) (own_set1 l Z a0 hw [] w_CHARACTER w_SPLIT w_JUMP w_TEXT_START w_LINE_START w_TEXT_END w_LINE_END w_SAVE w_BACK_REFERENCE w_MARK w_PROGRESS w_MATCH w_NOTHING w_DE k_DE b90 bo bf bs ll ko kf ks w_TEXT_START p4 p5 w_LINE_END p5 p4 oo fa fb T121.heap n0 O133 U_CHARACTER U_SPLIT U_JUMP U_TEXT_START U_LINE_START U_TEXT_END U_LINE_END U_SAVE U_BACK_REFERENCE U_MARK U_PROGRESS U_MATCH U_NOTHING S_DE V_DE gg_b90 q125 q126 q127 q128 q129 q130 q131 q132 g_bo g_bf g_bs n_bo_a n_bf_a n_bs_a n_ll_a n_bo_bf n_bo_bs n_bf_bs n_bo_ll n_bf_ll n_bs_ll O_bo q122 q123 q124 (Go.1.ext O133.2)) hZ (hw _ (own_m 76 rfl)) (hw _ (own_m 13 rfl)) (by decide) (by decide)) q134a q134c (g := (mkF m 127 #[iv p0, iv p1, iv p2, iv p3, iv p4, iv p5, iv 1, iv 0, rv oo, iv jv, iv fa, iv fb, rv b90, .unset, .unset, .unset, .unset, .unset, .unset] [(.int fb), (.int fa), (.ref oo), (.int 1), (.ref b90)])) rfl (by rw [hml]; rfl) (Steps.refl _) (argsL := [(.int 1), (.ref oo), (.int fa), (.int fb)]) (rest := []) (lenOf own_pd9 rfl) rfl (by show 2 * 0 + _ ≤ _; exact Nat.le_of_eq rfl) (hb hby at_127) (fun _ _ => ⟨rfl, rfl, (by decide : 5 + 0 ≤ _), (by decide : 58 + 0 ≤ _)⟩)
    dsimp only [Pt.U, Pt.locs, Pt.cells, Pt.slots] at X134 l134 y134 z134 st134 hQ134
    subst l134 y134 z134
    obtain ⟨rfl, N134q, K134, q135, q136, q137, q138, q139, q140, q141, q142, q143, q144, q145⟩ := hQ134
    have N134 := Fr.app N121 N134q
    have O146 := O133.keep K134 (allS g_bo (allS g_bf (allS g_bs all0)))
    have f147 := (((q93.keep K107).keep K121).keep K134)
    have f148 := (((q94.keep K107 (ninS n_ll_a (ninS (Ne.symm n_bo_ll) (ninS (Ne.symm n_bf_ll) (ninS (Ne.symm n_bs_ll) nin0))))).keep K121 (ninS n_ll_a (ninS (Ne.symm n_bo_ll) (ninS (Ne.symm n_bf_ll) (ninS (Ne.symm n_bs_ll) nin0))))).keep K134 (ninS (Ne.symm n_bo_ll) (ninS (Ne.symm n_bf_ll) (ninS (Ne.symm n_bs_ll) nin0))))
    have f149 := (((q95.keep K107 (ninS n_ll_a (ninS (Ne.symm n_bo_ll) (ninS (Ne.symm n_bf_ll) (ninS (Ne.symm n_bs_ll) nin0))))).keep K121 (ninS n_ll_a (ninS (Ne.symm n_bo_ll) (ninS (Ne.symm n_bf_ll) (ninS (Ne.symm n_bs_ll) nin0))))).keep K134 (ninS (Ne.symm n_bo_ll) (ninS (Ne.symm n_bf_ll) (ninS (Ne.symm n_bs_ll) nin0))))
    have f150 := (((q96.keep K107 (ninS n_ll_a (ninS (Ne.symm n_bo_ll) (ninS (Ne.symm n_bf_ll) (ninS (Ne.symm n_bs_ll) nin0))))).keep K121 (ninS n_ll_a (ninS (Ne.symm n_bo_ll) (ninS (Ne.symm n_bf_ll) (ninS (Ne.symm n_bs_ll) nin0))))).keep K134 (ninS (Ne.symm n_bo_ll) (ninS (Ne.symm n_bf_ll) (ninS (Ne.symm n_bs_ll) nin0))))
    obtain ⟨cq151, kq151, q151a, q151b, q151c⟩ := isOf hZ rfl q138
    obtain ⟨_, _, ⟨T151, L151, k151, n151⟩, -, X151, ⟨Lc151, hQ151, l151, y151, z151⟩, st151⟩ := X134.virtualBack hx (y := (⟨"com/example/quillgraph/quillgraph/sparql/RegexProgram$Builder", "build", "()Lcom/example/quillgraph/quillgraph/sparql/RegexProgram;"⟩ : MethodName)) (z := (⟨"com/example/quillgraph/quillgraph/sparql/RegexProgram$Builder", "build", "()Lcom/example/quillgraph/quillgraph/sparql/RegexProgram;"⟩ : MethodName)) hown (mvT hZ (hw _ (own_m 77 rfl))) (mvT hZ (hw _ (own_m 78 rfl))) (notFace_of_selects (args := #[]) (mvT hZ (hw _ (own_m 80 rfl)))) (mvT hZ (hw _ (own_m 80 rfl))) (mvT hZ (hw _ (own_m 79 rfl))) (by decide) (backOf (W := 0) (own_build l Z a0 hw [] w_CHARACTER w_SPLIT w_JUMP w_TEXT_START w_LINE_START w_TEXT_END w_LINE_END w_SAVE w_BACK_REFERENCE w_MARK w_PROGRESS w_MATCH w_NOTHING w_DE k_DE b90 bo bf bs ll ko kf ks w_TEXT_START p4 p5 oo fa fb T134.heap n0 O146 U_CHARACTER U_SPLIT U_JUMP U_TEXT_START U_LINE_START U_TEXT_END U_LINE_END U_SAVE U_BACK_REFERENCE U_MARK U_PROGRESS U_MATCH U_NOTHING S_DE V_DE gg_b90 q138 q139 q140 q141 q142 q143 q144 q145 g_bo g_bf g_bs n_bo_a n_bf_a n_bs_a n_ll_a n_bo_bf n_bo_bs n_bf_bs n_bo_ll n_bf_ll n_bs_ll O_bo q135 q136 q137 g_ll f147 f148 f149 f150 ⟨U_TEXT_START.2.1, Fld.ne U_TEXT_START.2.2 U_NOTHING.2.2 (by decide), Fld.ne U_TEXT_START.2.2 U_SAVE.2.2 (by decide), Fld.ne U_TEXT_START.2.2 U_MARK.2.2 (by decide), Fld.ne U_TEXT_START.2.2 U_PROGRESS.2.2 (by decide)⟩ Go (fun q => (q.elim (Fld.ne U_TEXT_START.2.2 U_SPLIT.2.2 (by decide)) (Fld.ne U_TEXT_START.2.2 U_JUMP.2.2 (by decide))).elim) hj82.1 (fun q => ((Fld.ne U_TEXT_START.2.2 U_SPLIT.2.2 (by decide)) q).elim) hj82.2) hZ (hw _ (own_m 81 rfl)) (hw _ (own_m 13 rfl)) (by decide) (by decide)) q151a q151c (g := (mkF m 132 #[iv p0, iv p1, iv p2, iv p3, iv p4, iv p5, iv 1, iv 0, rv oo, iv jv, iv fa, iv fb, rv b90, .unset, .unset, .unset, .unset, .unset, .unset] [(.ref b90)])) rfl (by rw [hml]; rfl) (Steps.refl _) (argsL := []) (rest := []) (lenOf own_pd10 rfl) rfl (by show 2 * 0 + _ ≤ _; exact Nat.le_of_eq rfl) (hb hby at_132) (fun _ _ => ⟨rfl, rfl, (by decide : 5 + 6 ≤ _), (by decide : 58 + 18 ≤ _)⟩)
    dsimp only [Pt.U, Pt.locs, Pt.cells, Pt.slots] at X151 l151 y151 z151 st151 hQ151
    subst l151 y151 z151
    obtain ⟨rr, xo, xf, xs, k1, k2, k3, N151q, K151, -, rfl, Er, Fo, Ff, Fs, V_xo, V_xf, V_xs, -⟩ := hQ151
    have N151 := Fr.app N134 N151q
    have O152 := O146.keep K151 (allS gg_b90 (allS g_bo (allS g_bf (allS g_bs all0))))
    obtain ⟨cq153, kq153, q153a, q153b, q153c⟩ := isOf hZ rfl Er
    obtain ⟨_, _, ⟨T153, L153, k153, n153⟩, -, X153, ⟨Lc153, hQ153, l153, y153, z153⟩, st153⟩ := X151.virtualBack hx (y := (⟨"com/example/quillgraph/quillgraph/sparql/RegexProgram", "size", "()I"⟩ : MethodName)) (z := (⟨"com/example/quillgraph/quillgraph/sparql/RegexProgram", "size", "()I"⟩ : MethodName)) hown (mvT hZ (hw _ (own_m 143 rfl))) (mvT hZ (hw _ (own_m 144 rfl))) (notFace_of_selects (args := #[]) (mvT hZ (hw _ (own_m 146 rfl)))) (mvT hZ (hw _ (own_m 146 rfl))) (mvT hZ (hw _ (own_m 145 rfl))) (by decide) (backOf (W := 0) (own_size3 l Z a0 hw [] w_CHARACTER w_SPLIT w_JUMP w_TEXT_START w_LINE_START w_TEXT_END w_LINE_END w_SAVE w_BACK_REFERENCE w_MARK w_PROGRESS w_MATCH w_NOTHING w_DE k_DE rr xo xf xs k1 k2 k3 w_TEXT_START p4 p5 oo fa fb T151.heap n0 O152 U_CHARACTER U_SPLIT U_JUMP U_TEXT_START U_LINE_START U_TEXT_END U_LINE_END U_SAVE U_BACK_REFERENCE U_MARK U_PROGRESS U_MATCH U_NOTHING S_DE V_DE Fo Ff Fs V_xo V_xf V_xs) hZ (hw _ (own_m 147 rfl)) (hw _ (own_m 105 rfl)) (by decide) (by decide)) q153a q153c (g := (mkF m 139 #[iv p0, iv p1, iv p2, iv p3, iv p4, iv p5, iv 1, iv 0, rv oo, iv jv, iv fa, iv fb, rv b90, rv rr, .unset, .unset, .unset, .unset, .unset] [(.ref rr)])) rfl (by rw [hml]; rfl) (Steps.refl _) (argsL := []) (rest := []) (lenOf own_pd11 rfl) rfl (by show 2 * 0 + _ ≤ _; exact Nat.le_of_eq rfl) (hb hby at_139) (fun _ _ => ⟨rfl, rfl, (by decide : 11 + 0 ≤ _), (by decide : 76 + 0 ≤ _)⟩)
    dsimp only [Pt.U, Pt.locs, Pt.cells, Pt.slots] at X153 l153 y153 z153 st153 hQ153
    subst l153 y153 z153
    obtain ⟨rfl, N153q, e153⟩ := hQ153
    have N153 := Fr.app N151 N153q
    obtain ⟨cq154, kq154, q154a, q154b, q154c⟩ := isOf hZ e153 Er
    obtain ⟨_, _, ⟨T154, L154, k154, n154⟩, -, X154, ⟨Lc154, hQ154, l154, y154, z154⟩, st154⟩ := X153.virtualBack hx (y := (⟨"com/example/quillgraph/quillgraph/sparql/RegexProgram", "op", "(I)Lcom/example/quillgraph/quillgraph/sparql/RegexProgram$Op;"⟩ : MethodName)) (z := (⟨"com/example/quillgraph/quillgraph/sparql/RegexProgram", "op", "(I)Lcom/example/quillgraph/quillgraph/sparql/RegexProgram$Op;"⟩ : MethodName)) hown (mvT hZ (hw _ (own_m 148 rfl))) (mvT hZ (hw _ (own_m 149 rfl))) (notFace_of_selects (args := #[]) (mvT hZ (hw _ (own_m 151 rfl)))) (mvT hZ (hw _ (own_m 151 rfl))) (mvT hZ (hw _ (own_m 150 rfl))) (by decide) (backOf (W := 0) (own_rop1 l Z a0 hw [] w_CHARACTER w_SPLIT w_JUMP w_TEXT_START w_LINE_START w_TEXT_END w_LINE_END w_SAVE w_BACK_REFERENCE w_MARK w_PROGRESS w_MATCH w_NOTHING w_DE k_DE rr xo xf xs k1 k2 k3 w_TEXT_START p4 p5 oo fa fb T151.heap n0 O152 U_CHARACTER U_SPLIT U_JUMP U_TEXT_START U_LINE_START U_TEXT_END U_LINE_END U_SAVE U_BACK_REFERENCE U_MARK U_PROGRESS U_MATCH U_NOTHING S_DE V_DE Fo Ff Fs V_xo V_xf V_xs) hZ (hw _ (own_m 152 rfl)) (hw _ (own_m 105 rfl)) (by decide) (by decide)) q154a q154c (g := (mkF m 152 #[iv p0, iv p1, iv p2, iv p3, iv p4, iv p5, iv 1, iv 0, rv oo, iv jv, iv fa, iv fb, rv b90, rv rr, .unset, .unset, .unset, .unset, .unset] [(.int 1), (.ref rr)])) rfl (by rw [hml]; rfl) (Steps.refl _) (argsL := [(.int 1)]) (rest := []) (lenOf own_pd7 rfl) rfl (by show 2 * 0 + _ ≤ _; exact Nat.le_of_eq rfl) (hb hby at_152) (fun _ _ => ⟨rfl, e153, (by decide : 11 + 0 ≤ _), (by decide : 76 + 0 ≤ _)⟩)
    dsimp only [Pt.U, Pt.locs, Pt.cells, Pt.slots] at X154 l154 y154 z154 st154 hQ154
    subst l154 y154 z154
    obtain ⟨rfl, N154q, e154⟩ := hQ154
    have N154 := Fr.app N153 N154q
    obtain ⟨cq155, kq155, q155a, q155b, q155c⟩ := isOf hZ e154 Er
    obtain ⟨_, _, ⟨T155, L155, k155, n155⟩, -, X155, ⟨Lc155, hQ155, l155, y155, z155⟩, st155⟩ := X154.virtualBack hx (y := (⟨"com/example/quillgraph/quillgraph/sparql/RegexProgram", "first", "(I)I"⟩ : MethodName)) (z := (⟨"com/example/quillgraph/quillgraph/sparql/RegexProgram", "first", "(I)I"⟩ : MethodName)) hown (mvT hZ (hw _ (own_m 153 rfl))) (mvT hZ (hw _ (own_m 154 rfl))) (notFace_of_selects (args := #[]) (mvT hZ (hw _ (own_m 156 rfl)))) (mvT hZ (hw _ (own_m 156 rfl))) (mvT hZ (hw _ (own_m 155 rfl))) (by decide) (backOf (W := 0) (own_rfirst1 l Z a0 hw [] w_CHARACTER w_SPLIT w_JUMP w_TEXT_START w_LINE_START w_TEXT_END w_LINE_END w_SAVE w_BACK_REFERENCE w_MARK w_PROGRESS w_MATCH w_NOTHING w_DE k_DE rr xo xf xs k1 k2 k3 w_TEXT_START p4 p5 oo fa fb T151.heap n0 O152 U_CHARACTER U_SPLIT U_JUMP U_TEXT_START U_LINE_START U_TEXT_END U_LINE_END U_SAVE U_BACK_REFERENCE U_MARK U_PROGRESS U_MATCH U_NOTHING S_DE V_DE Fo Ff Fs V_xo V_xf V_xs) hZ (hw _ (own_m 157 rfl)) (hw _ (own_m 105 rfl)) (by decide) (by decide)) q155a q155c (g := (mkF m 164 #[iv p0, iv p1, iv p2, iv p3, iv p4, iv p5, iv 1, iv 0, rv oo, iv jv, iv fa, iv fb, rv b90, rv rr, .unset, .unset, .unset, .unset, .unset] [(.int 1), (.ref rr)])) rfl (by rw [hml]; rfl) (Steps.refl _) (argsL := [(.int 1)]) (rest := []) (lenOf own_pd12 rfl) rfl (by show 2 * 0 + _ ≤ _; exact Nat.le_of_eq rfl) (hb hby at_164) (fun _ _ => ⟨rfl, e154, (by decide : 11 + 0 ≤ _), (by decide : 76 + 0 ≤ _)⟩)
    dsimp only [Pt.U, Pt.locs, Pt.cells, Pt.slots] at X155 l155 y155 z155 st155 hQ155
    subst l155 y155 z155
    obtain ⟨rfl, N155q, e155⟩ := hQ155
    have N155 := Fr.app N154 N155q
    obtain ⟨cq156, kq156, q156a, q156b, q156c⟩ := isOf hZ e155 Er
    obtain ⟨_, _, ⟨T156, L156, k156, n156⟩, -, X156, ⟨Lc156, hQ156, l156, y156, z156⟩, st156⟩ := X155.virtualBack hx (y := (⟨"com/example/quillgraph/quillgraph/sparql/RegexProgram", "second", "(I)I"⟩ : MethodName)) (z := (⟨"com/example/quillgraph/quillgraph/sparql/RegexProgram", "second", "(I)I"⟩ : MethodName)) hown (mvT hZ (hw _ (own_m 158 rfl))) (mvT hZ (hw _ (own_m 159 rfl))) (notFace_of_selects (args := #[]) (mvT hZ (hw _ (own_m 161 rfl)))) (mvT hZ (hw _ (own_m 161 rfl))) (mvT hZ (hw _ (own_m 160 rfl))) (by decide) (backOf (W := 0) (own_rsecond1 l Z a0 hw [] w_CHARACTER w_SPLIT w_JUMP w_TEXT_START w_LINE_START w_TEXT_END w_LINE_END w_SAVE w_BACK_REFERENCE w_MARK w_PROGRESS w_MATCH w_NOTHING w_DE k_DE rr xo xf xs k1 k2 k3 w_TEXT_START p4 p5 oo fa fb T151.heap n0 O152 U_CHARACTER U_SPLIT U_JUMP U_TEXT_START U_LINE_START U_TEXT_END U_LINE_END U_SAVE U_BACK_REFERENCE U_MARK U_PROGRESS U_MATCH U_NOTHING S_DE V_DE Fo Ff Fs V_xo V_xf V_xs) hZ (hw _ (own_m 162 rfl)) (hw _ (own_m 105 rfl)) (by decide) (by decide)) q156a q156c (g := (mkF m 176 #[iv p0, iv p1, iv p2, iv p3, iv p4, iv p5, iv 1, iv 0, rv oo, iv jv, iv fa, iv fb, rv b90, rv rr, .unset, .unset, .unset, .unset, .unset] [(.int 1), (.ref rr)])) rfl (by rw [hml]; rfl) (Steps.refl _) (argsL := [(.int 1)]) (rest := []) (lenOf own_pd12 rfl) rfl (by show 2 * 0 + _ ≤ _; exact Nat.le_of_eq rfl) (hb hby at_176) (fun _ _ => ⟨rfl, e155, (by decide : 11 + 0 ≤ _), (by decide : 76 + 0 ≤ _)⟩)
    dsimp only [Pt.U, Pt.locs, Pt.cells, Pt.slots] at X156 l156 y156 z156 st156 hQ156
    subst l156 y156 z156
    obtain ⟨rfl, N156q, e156⟩ := hQ156
    have N156 := Fr.app N155 N156q
    obtain ⟨T157, X157, e157, st157⟩ := getS2 X156 hx hZ hown (host := "") (Or.inl (hw _ (own_m 4 rfl))) Via.refl e156 (U_TEXT_START.1.ext O152.2) (g := (mkF m 196 #[iv p0, iv p1, iv p2, iv p3, iv p4, iv p5, iv 1, iv 0, rv oo, iv jv, iv fa, iv fb, rv b90, rv rr, iv 1, .unset, .unset, .unset, .unset] [])) rfl (hb hby at_196)
    obtain ⟨cq158, kq158, q158a, q158b, q158c⟩ := isOf hZ e157 Er
    obtain ⟨_, _, ⟨T158, L158, k158, n158⟩, -, X158, ⟨Lc158, hQ158, l158, y158, z158⟩, st158⟩ := X157.virtualBack hx (y := (⟨"com/example/quillgraph/quillgraph/sparql/RegexProgram", "op", "(I)Lcom/example/quillgraph/quillgraph/sparql/RegexProgram$Op;"⟩ : MethodName)) (z := (⟨"com/example/quillgraph/quillgraph/sparql/RegexProgram", "op", "(I)Lcom/example/quillgraph/quillgraph/sparql/RegexProgram$Op;"⟩ : MethodName)) hown (mvT hZ (hw _ (own_m 148 rfl))) (mvT hZ (hw _ (own_m 149 rfl))) (notFace_of_selects (args := #[]) (mvT hZ (hw _ (own_m 151 rfl)))) (mvT hZ (hw _ (own_m 151 rfl))) (mvT hZ (hw _ (own_m 150 rfl))) (by decide) (backOf (W := 0) (own_rop0 l Z a0 hw [] w_CHARACTER w_SPLIT w_JUMP w_TEXT_START w_LINE_START w_TEXT_END w_LINE_END w_SAVE w_BACK_REFERENCE w_MARK w_PROGRESS w_MATCH w_NOTHING w_DE k_DE rr xo xf xs k1 k2 k3 w_TEXT_START p4 p5 oo fa fb T151.heap n0 O152 U_CHARACTER U_SPLIT U_JUMP U_TEXT_START U_LINE_START U_TEXT_END U_LINE_END U_SAVE U_BACK_REFERENCE U_MARK U_PROGRESS U_MATCH U_NOTHING S_DE V_DE Fo Ff Fs V_xo V_xf V_xs) hZ (hw _ (own_m 152 rfl)) (hw _ (own_m 105 rfl)) (by decide) (by decide)) q158a q158c (g := (mkF m 239 #[iv p0, iv p1, iv p2, iv p3, iv p4, iv p5, iv 1, iv 0, rv oo, iv jv, iv fa, iv fb, rv b90, rv rr, iv 1, rv w_TEXT_START, iv p4, iv p5, .unset] [(.int 0), (.ref rr)])) rfl (by rw [hml]; rfl) (Steps.refl _) (argsL := [(.int 0)]) (rest := []) (lenOf own_pd7 rfl) rfl (by show 2 * 0 + _ ≤ _; exact Nat.le_of_eq rfl) (hb hby at_239) (fun _ _ => ⟨rfl, e157, (by decide : 11 + 0 ≤ _), (by decide : 76 + 0 ≤ _)⟩)
    dsimp only [Pt.U, Pt.locs, Pt.cells, Pt.slots] at X158 l158 y158 z158 st158 hQ158
    subst l158 y158 z158
    obtain ⟨rfl, N158q, e158⟩ := hQ158
    have N158 := Fr.app N156 N158q
    obtain ⟨cq159, kq159, q159a, q159b, q159c⟩ := isOf hZ e158 Er
    obtain ⟨_, _, ⟨T159, L159, k159, n159⟩, -, X159, ⟨Lc159, hQ159, l159, y159, z159⟩, st159⟩ := X158.virtualBack hx (y := (⟨"com/example/quillgraph/quillgraph/sparql/RegexProgram", "first", "(I)I"⟩ : MethodName)) (z := (⟨"com/example/quillgraph/quillgraph/sparql/RegexProgram", "first", "(I)I"⟩ : MethodName)) hown (mvT hZ (hw _ (own_m 153 rfl))) (mvT hZ (hw _ (own_m 154 rfl))) (notFace_of_selects (args := #[]) (mvT hZ (hw _ (own_m 156 rfl)))) (mvT hZ (hw _ (own_m 156 rfl))) (mvT hZ (hw _ (own_m 155 rfl))) (by decide) (backOf (W := 0) (own_rfirst0 l Z a0 hw [] w_CHARACTER w_SPLIT w_JUMP w_TEXT_START w_LINE_START w_TEXT_END w_LINE_END w_SAVE w_BACK_REFERENCE w_MARK w_PROGRESS w_MATCH w_NOTHING w_DE k_DE rr xo xf xs k1 k2 k3 w_TEXT_START p4 p5 oo fa fb T151.heap n0 O152 U_CHARACTER U_SPLIT U_JUMP U_TEXT_START U_LINE_START U_TEXT_END U_LINE_END U_SAVE U_BACK_REFERENCE U_MARK U_PROGRESS U_MATCH U_NOTHING S_DE V_DE Fo Ff Fs V_xo V_xf V_xs) hZ (hw _ (own_m 157 rfl)) (hw _ (own_m 105 rfl)) (by decide) (by decide)) q159a q159c (g := (mkF m 251 #[iv p0, iv p1, iv p2, iv p3, iv p4, iv p5, iv 1, iv 0, rv oo, iv jv, iv fa, iv fb, rv b90, rv rr, iv 1, rv w_TEXT_START, iv p4, iv p5, .unset] [(.int 0), (.ref rr)])) rfl (by rw [hml]; rfl) (Steps.refl _) (argsL := [(.int 0)]) (rest := []) (lenOf own_pd12 rfl) rfl (by show 2 * 0 + _ ≤ _; exact Nat.le_of_eq rfl) (hb hby at_251) (fun _ _ => ⟨rfl, e158, (by decide : 11 + 0 ≤ _), (by decide : 76 + 0 ≤ _)⟩)
    dsimp only [Pt.U, Pt.locs, Pt.cells, Pt.slots] at X159 l159 y159 z159 st159 hQ159
    subst l159 y159 z159
    obtain ⟨rfl, N159q, e159⟩ := hQ159
    have N159 := Fr.app N158 N159q
    obtain ⟨cq160, kq160, q160a, q160b, q160c⟩ := isOf hZ e159 Er
    obtain ⟨_, _, ⟨T160, L160, k160, n160⟩, -, X160, ⟨Lc160, hQ160, l160, y160, z160⟩, st160⟩ := X159.virtualBack hx (y := (⟨"com/example/quillgraph/quillgraph/sparql/RegexProgram", "second", "(I)I"⟩ : MethodName)) (z := (⟨"com/example/quillgraph/quillgraph/sparql/RegexProgram", "second", "(I)I"⟩ : MethodName)) hown (mvT hZ (hw _ (own_m 158 rfl))) (mvT hZ (hw _ (own_m 159 rfl))) (notFace_of_selects (args := #[]) (mvT hZ (hw _ (own_m 161 rfl)))) (mvT hZ (hw _ (own_m 161 rfl))) (mvT hZ (hw _ (own_m 160 rfl))) (by decide) (backOf (W := 0) (own_rsecond0 l Z a0 hw [] w_CHARACTER w_SPLIT w_JUMP w_TEXT_START w_LINE_START w_TEXT_END w_LINE_END w_SAVE w_BACK_REFERENCE w_MARK w_PROGRESS w_MATCH w_NOTHING w_DE k_DE rr xo xf xs k1 k2 k3 w_TEXT_START p4 p5 oo fa fb T151.heap n0 O152 U_CHARACTER U_SPLIT U_JUMP U_TEXT_START U_LINE_START U_TEXT_END U_LINE_END U_SAVE U_BACK_REFERENCE U_MARK U_PROGRESS U_MATCH U_NOTHING S_DE V_DE Fo Ff Fs V_xo V_xf V_xs) hZ (hw _ (own_m 162 rfl)) (hw _ (own_m 105 rfl)) (by decide) (by decide)) q160a q160c (g := (mkF m 263 #[iv p0, iv p1, iv p2, iv p3, iv p4, iv p5, iv 1, iv 0, rv oo, iv jv, iv fa, iv fb, rv b90, rv rr, iv 1, rv w_TEXT_START, iv p4, iv p5, .unset] [(.int 0), (.ref rr)])) rfl (by rw [hml]; rfl) (Steps.refl _) (argsL := [(.int 0)]) (rest := []) (lenOf own_pd12 rfl) rfl (by show 2 * 0 + _ ≤ _; exact Nat.le_of_eq rfl) (hb hby at_263) (fun _ _ => ⟨rfl, e159, (by decide : 11 + 0 ≤ _), (by decide : 76 + 0 ≤ _)⟩)
    dsimp only [Pt.U, Pt.locs, Pt.cells, Pt.slots] at X160 l160 y160 z160 st160 hQ160
    subst l160 y160 z160
    obtain ⟨rfl, N160q, e160⟩ := hQ160
    have N160 := Fr.app N159 N160q
    obtain ⟨fs, hr, hrun, hended, hW, hsame⟩ := X160.leave (v := some (.int 1)) (fun h => by rw [Bd.returns] at h; cases h)
    refine ⟨_, _, pre0 _ ?_, hrun, hended, _, _, rfl, ?_, ⟨_, rfl⟩, hW, hsame.mono (by decide) (by decide)⟩
    · show Steps p.tables e below (s₁.setTop (mkF m 0 #[iv p0, iv p1, iv p2, iv p3, iv p4, iv p5, .unset, .unset, .unset, .unset, .unset, .unset, .unset, .unset, .unset, .unset, .unset, .unset, .unset] [])) _
      refine XS.iloadN X0.here hx rfl (hb hby at_0) rfl ?_
      show Steps p.tables e below (s₁.setTop (mkF m 1 #[iv p0, iv p1, iv p2, iv p3, iv p4, iv p5, .unset, .unset, .unset, .unset, .unset, .unset, .unset, .unset, .unset, .unset, .unset, .unset, .unset] [(.int p0)])) _
      refine XS.iconst X0.here hx rfl (hb hby at_1) ?_
      show Steps p.tables e below (s₁.setTop (mkF m 2 #[iv p0, iv p1, iv p2, iv p3, iv p4, iv p5, .unset, .unset, .unset, .unset, .unset, .unset, .unset, .unset, .unset, .unset, .unset, .unset, .unset] [(.int 1), (.int p0)])) _
      refine XS.iand X0.here hx rfl (hb hby at_2) rfl ?_
      show Steps p.tables e below (s₁.setTop (mkF m 3 #[iv p0, iv p1, iv p2, iv p3, iv p4, iv p5, .unset, .unset, .unset, .unset, .unset, .unset, .unset, .unset, .unset, .unset, .unset, .unset, .unset] [(.int (p0 &&& (1 : Int32)))])) _
      refine own_top (v' := (.int 1)) (congrArg Value.int hk) ?_
      show Steps p.tables e below (s₁.setTop (mkF m 3 #[iv p0, iv p1, iv p2, iv p3, iv p4, iv p5, .unset, .unset, .unset, .unset, .unset, .unset, .unset, .unset, .unset, .unset, .unset, .unset, .unset] [(.int 1)])) _
      refine XS.istore X0.here hx rfl (hb hby at_3) rfl (l' := #[iv p0, iv p1, iv p2, iv p3, iv p4, iv p5, iv 1, .unset, .unset, .unset, .unset, .unset, .unset, .unset, .unset, .unset, .unset, .unset, .unset]) rfl ?_
      show Steps p.tables e below (s₁.setTop (mkF m 5 #[iv p0, iv p1, iv p2, iv p3, iv p4, iv p5, iv 1, .unset, .unset, .unset, .unset, .unset, .unset, .unset, .unset, .unset, .unset, .unset, .unset] [])) _
      refine XS.iconst X0.here hx rfl (hb hby at_5) ?_
      show Steps p.tables e below (s₁.setTop (mkF m 6 #[iv p0, iv p1, iv p2, iv p3, iv p4, iv p5, iv 1, .unset, .unset, .unset, .unset, .unset, .unset, .unset, .unset, .unset, .unset, .unset, .unset] [(.int 1)])) _
      refine XS.iload X0.here hx rfl (hb hby at_6) rfl ?_
      show Steps p.tables e below (s₁.setTop (mkF m 8 #[iv p0, iv p1, iv p2, iv p3, iv p4, iv p5, iv 1, .unset, .unset, .unset, .unset, .unset, .unset, .unset, .unset, .unset, .unset, .unset, .unset] [(.int 1), (.int 1)])) _
      refine XS.isub X0.here hx rfl (hb hby at_8) rfl ?_
      show Steps p.tables e below (s₁.setTop (mkF m 9 #[iv p0, iv p1, iv p2, iv p3, iv p4, iv p5, iv 1, .unset, .unset, .unset, .unset, .unset, .unset, .unset, .unset, .unset, .unset, .unset, .unset] [(.int ((1 : Int32) - (1 : Int32)))])) _
      refine own_top (v' := (.int 0)) (congrArg Value.int (by decide)) ?_
      show Steps p.tables e below (s₁.setTop (mkF m 9 #[iv p0, iv p1, iv p2, iv p3, iv p4, iv p5, iv 1, .unset, .unset, .unset, .unset, .unset, .unset, .unset, .unset, .unset, .unset, .unset, .unset] [(.int 0)])) _
      refine XS.istore X0.here hx rfl (hb hby at_9) rfl (l' := #[iv p0, iv p1, iv p2, iv p3, iv p4, iv p5, iv 1, iv 0, .unset, .unset, .unset, .unset, .unset, .unset, .unset, .unset, .unset, .unset, .unset]) rfl ?_
      show Steps p.tables e below (s₁.setTop (mkF m 11 #[iv p0, iv p1, iv p2, iv p3, iv p4, iv p5, iv 1, iv 0, .unset, .unset, .unset, .unset, .unset, .unset, .unset, .unset, .unset, .unset, .unset] [])) _
      refine XS.iloadN X0.here hx rfl (hb hby at_11) rfl ?_
      show Steps p.tables e below (s₁.setTop (mkF m 12 #[iv p0, iv p1, iv p2, iv p3, iv p4, iv p5, iv 1, iv 0, .unset, .unset, .unset, .unset, .unset, .unset, .unset, .unset, .unset, .unset, .unset] [(.int p1)])) _
      refine XS.bipush X0.here hx rfl (hb hby at_12) ?_
      show Steps p.tables e below (s₁.setTop (mkF m 14 #[iv p0, iv p1, iv p2, iv p3, iv p4, iv p5, iv 1, iv 0, .unset, .unset, .unset, .unset, .unset, .unset, .unset, .unset, .unset, .unset, .unset] [(.int 7), (.int p1)])) _
      refine XS.iand X0.here hx rfl (hb hby at_14) rfl ?_
      show Steps p.tables e below (s₁.setTop (mkF m 15 #[iv p0, iv p1, iv p2, iv p3, iv p4, iv p5, iv 1, iv 0, .unset, .unset, .unset, .unset, .unset, .unset, .unset, .unset, .unset, .unset, .unset] [(.int (p1 &&& (7 : Int32)))])) _
      refine st81 _ ?_
      show Steps p.tables e below (T81.setTop (mkF m 18 #[iv p0, iv p1, iv p2, iv p3, iv p4, iv p5, iv 1, iv 0, .unset, .unset, .unset, .unset, .unset, .unset, .unset, .unset, .unset, .unset, .unset] [(.ref oo)])) _
      refine XS.astore X81.here hx rfl (hb hby at_18) rfl rfl (l' := #[iv p0, iv p1, iv p2, iv p3, iv p4, iv p5, iv 1, iv 0, rv oo, .unset, .unset, .unset, .unset, .unset, .unset, .unset, .unset, .unset, .unset]) rfl ?_
      show Steps p.tables e below (T81.setTop (mkF m 20 #[iv p0, iv p1, iv p2, iv p3, iv p4, iv p5, iv 1, iv 0, rv oo, .unset, .unset, .unset, .unset, .unset, .unset, .unset, .unset, .unset, .unset] [])) _
      refine st82 _ ?_
      show Steps p.tables e below (T82.setTop (mkF m 80 #[iv p0, iv p1, iv p2, iv p3, iv p4, iv p5, iv 1, iv 0, rv oo, iv jv, iv fa, iv fb, .unset, .unset, .unset, .unset, .unset, .unset, .unset] [])) _
      refine st90 _ ?_
      show Steps p.tables e below (T90.setTop (mkF m 83 #[iv p0, iv p1, iv p2, iv p3, iv p4, iv p5, iv 1, iv 0, rv oo, iv jv, iv fa, iv fb, .unset, .unset, .unset, .unset, .unset, .unset, .unset] [(.ref b90)])) _
      refine XS.dup X90.here hx rfl (hb hby at_83) rfl rfl ?_
      show Steps p.tables e below (T90.setTop (mkF m 84 #[iv p0, iv p1, iv p2, iv p3, iv p4, iv p5, iv 1, iv 0, rv oo, iv jv, iv fa, iv fb, .unset, .unset, .unset, .unset, .unset, .unset, .unset] [(.ref b90), (.ref b90)])) _
      refine XS.bipush X90.here hx rfl (hb hby at_84) ?_
      show Steps p.tables e below (T90.setTop (mkF m 86 #[iv p0, iv p1, iv p2, iv p3, iv p4, iv p5, iv 1, iv 0, rv oo, iv jv, iv fa, iv fb, .unset, .unset, .unset, .unset, .unset, .unset, .unset] [(.int 16), (.ref b90), (.ref b90)])) _
      refine st92.trans ?_
      show Steps p.tables e below (T92.setTop (mkF m 89 #[iv p0, iv p1, iv p2, iv p3, iv p4, iv p5, iv 1, iv 0, rv oo, iv jv, iv fa, iv fb, .unset, .unset, .unset, .unset, .unset, .unset, .unset] [(.ref b90)])) _
      refine XS.astore X92.here hx rfl (hb hby at_89) rfl rfl (l' := #[iv p0, iv p1, iv p2, iv p3, iv p4, iv p5, iv 1, iv 0, rv oo, iv jv, iv fa, iv fb, rv b90, .unset, .unset, .unset, .unset, .unset, .unset]) rfl ?_
      show Steps p.tables e below (T92.setTop (mkF m 91 #[iv p0, iv p1, iv p2, iv p3, iv p4, iv p5, iv 1, iv 0, rv oo, iv jv, iv fa, iv fb, rv b90, .unset, .unset, .unset, .unset, .unset, .unset] [])) _
      refine XS.aload X92.here hx rfl (hb hby at_91) rfl rfl ?_
      show Steps p.tables e below (T92.setTop (mkF m 93 #[iv p0, iv p1, iv p2, iv p3, iv p4, iv p5, iv 1, iv 0, rv oo, iv jv, iv fa, iv fb, rv b90, .unset, .unset, .unset, .unset, .unset, .unset] [(.ref b90)])) _
      refine st106 _ ?_
      show Steps p.tables e below (T106.setTop (mkF m 96 #[iv p0, iv p1, iv p2, iv p3, iv p4, iv p5, iv 1, iv 0, rv oo, iv jv, iv fa, iv fb, rv b90, .unset, .unset, .unset, .unset, .unset, .unset] [(.ref w_TEXT_START), (.ref b90)])) _
      refine XS.iload X106.here hx rfl (hb hby at_96) rfl ?_
      show Steps p.tables e below (T106.setTop (mkF m 98 #[iv p0, iv p1, iv p2, iv p3, iv p4, iv p5, iv 1, iv 0, rv oo, iv jv, iv fa, iv fb, rv b90, .unset, .unset, .unset, .unset, .unset, .unset] [(.int p4), (.ref w_TEXT_START), (.ref b90)])) _
      refine XS.iload X106.here hx rfl (hb hby at_98) rfl ?_
      show Steps p.tables e below (T106.setTop (mkF m 100 #[iv p0, iv p1, iv p2, iv p3, iv p4, iv p5, iv 1, iv 0, rv oo, iv jv, iv fa, iv fb, rv b90, .unset, .unset, .unset, .unset, .unset, .unset] [(.int p5), (.int p4), (.ref w_TEXT_START), (.ref b90)])) _
      refine st107.trans ?_
      show Steps p.tables e below (T107.setTop (mkF m 103 #[iv p0, iv p1, iv p2, iv p3, iv p4, iv p5, iv 1, iv 0, rv oo, iv jv, iv fa, iv fb, rv b90, .unset, .unset, .unset, .unset, .unset, .unset] [(.int 0)])) _
      refine XS.pop X107.here hx rfl (hb hby at_103) rfl rfl ?_
      show Steps p.tables e below (T107.setTop (mkF m 104 #[iv p0, iv p1, iv p2, iv p3, iv p4, iv p5, iv 1, iv 0, rv oo, iv jv, iv fa, iv fb, rv b90, .unset, .unset, .unset, .unset, .unset, .unset] [])) _
      refine XS.aload X107.here hx rfl (hb hby at_104) rfl rfl ?_
      show Steps p.tables e below (T107.setTop (mkF m 106 #[iv p0, iv p1, iv p2, iv p3, iv p4, iv p5, iv 1, iv 0, rv oo, iv jv, iv fa, iv fb, rv b90, .unset, .unset, .unset, .unset, .unset, .unset] [(.ref b90)])) _
      refine st120 _ ?_
      show Steps p.tables e below (T120.setTop (mkF m 109 #[iv p0, iv p1, iv p2, iv p3, iv p4, iv p5, iv 1, iv 0, rv oo, iv jv, iv fa, iv fb, rv b90, .unset, .unset, .unset, .unset, .unset, .unset] [(.ref w_LINE_END), (.ref b90)])) _
      refine XS.iload X120.here hx rfl (hb hby at_109) rfl ?_
      show Steps p.tables e below (T120.setTop (mkF m 111 #[iv p0, iv p1, iv p2, iv p3, iv p4, iv p5, iv 1, iv 0, rv oo, iv jv, iv fa, iv fb, rv b90, .unset, .unset, .unset, .unset, .unset, .unset] [(.int p5), (.ref w_LINE_END), (.ref b90)])) _
      refine XS.iload X120.here hx rfl (hb hby at_111) rfl ?_
      show Steps p.tables e below (T120.setTop (mkF m 113 #[iv p0, iv p1, iv p2, iv p3, iv p4, iv p5, iv 1, iv 0, rv oo, iv jv, iv fa, iv fb, rv b90, .unset, .unset, .unset, .unset, .unset, .unset] [(.int p4), (.int p5), (.ref w_LINE_END), (.ref b90)])) _
      refine st121.trans ?_
      show Steps p.tables e below (T121.setTop (mkF m 116 #[iv p0, iv p1, iv p2, iv p3, iv p4, iv p5, iv 1, iv 0, rv oo, iv jv, iv fa, iv fb, rv b90, .unset, .unset, .unset, .unset, .unset, .unset] [(.int 1)])) _
      refine XS.pop X121.here hx rfl (hb hby at_116) rfl rfl ?_
      show Steps p.tables e below (T121.setTop (mkF m 117 #[iv p0, iv p1, iv p2, iv p3, iv p4, iv p5, iv 1, iv 0, rv oo, iv jv, iv fa, iv fb, rv b90, .unset, .unset, .unset, .unset, .unset, .unset] [])) _
      refine XS.aload X121.here hx rfl (hb hby at_117) rfl rfl ?_
      show Steps p.tables e below (T121.setTop (mkF m 119 #[iv p0, iv p1, iv p2, iv p3, iv p4, iv p5, iv 1, iv 0, rv oo, iv jv, iv fa, iv fb, rv b90, .unset, .unset, .unset, .unset, .unset, .unset] [(.ref b90)])) _
      refine XS.iload X121.here hx rfl (hb hby at_119) rfl ?_
      show Steps p.tables e below (T121.setTop (mkF m 121 #[iv p0, iv p1, iv p2, iv p3, iv p4, iv p5, iv 1, iv 0, rv oo, iv jv, iv fa, iv fb, rv b90, .unset, .unset, .unset, .unset, .unset, .unset] [(.int 1), (.ref b90)])) _
      refine XS.aload X121.here hx rfl (hb hby at_121) rfl rfl ?_
      show Steps p.tables e below (T121.setTop (mkF m 123 #[iv p0, iv p1, iv p2, iv p3, iv p4, iv p5, iv 1, iv 0, rv oo, iv jv, iv fa, iv fb, rv b90, .unset, .unset, .unset, .unset, .unset, .unset] [(.ref oo), (.int 1), (.ref b90)])) _
      refine XS.iload X121.here hx rfl (hb hby at_123) rfl ?_
      show Steps p.tables e below (T121.setTop (mkF m 125 #[iv p0, iv p1, iv p2, iv p3, iv p4, iv p5, iv 1, iv 0, rv oo, iv jv, iv fa, iv fb, rv b90, .unset, .unset, .unset, .unset, .unset, .unset] [(.int fa), (.ref oo), (.int 1), (.ref b90)])) _
      refine XS.iload X121.here hx rfl (hb hby at_125) rfl ?_
      show Steps p.tables e below (T121.setTop (mkF m 127 #[iv p0, iv p1, iv p2, iv p3, iv p4, iv p5, iv 1, iv 0, rv oo, iv jv, iv fa, iv fb, rv b90, .unset, .unset, .unset, .unset, .unset, .unset] [(.int fb), (.int fa), (.ref oo), (.int 1), (.ref b90)])) _
      refine st134.trans ?_
      show Steps p.tables e below (T134.setTop (mkF m 130 #[iv p0, iv p1, iv p2, iv p3, iv p4, iv p5, iv 1, iv 0, rv oo, iv jv, iv fa, iv fb, rv b90, .unset, .unset, .unset, .unset, .unset, .unset] [])) _
      refine XS.aload X134.here hx rfl (hb hby at_130) rfl rfl ?_
      show Steps p.tables e below (T134.setTop (mkF m 132 #[iv p0, iv p1, iv p2, iv p3, iv p4, iv p5, iv 1, iv 0, rv oo, iv jv, iv fa, iv fb, rv b90, .unset, .unset, .unset, .unset, .unset, .unset] [(.ref b90)])) _
      refine st151.trans ?_
      show Steps p.tables e below (T151.setTop (mkF m 135 #[iv p0, iv p1, iv p2, iv p3, iv p4, iv p5, iv 1, iv 0, rv oo, iv jv, iv fa, iv fb, rv b90, .unset, .unset, .unset, .unset, .unset, .unset] [(.ref rr)])) _
      refine XS.astore X151.here hx rfl (hb hby at_135) rfl rfl (l' := #[iv p0, iv p1, iv p2, iv p3, iv p4, iv p5, iv 1, iv 0, rv oo, iv jv, iv fa, iv fb, rv b90, rv rr, .unset, .unset, .unset, .unset, .unset]) rfl ?_
      show Steps p.tables e below (T151.setTop (mkF m 137 #[iv p0, iv p1, iv p2, iv p3, iv p4, iv p5, iv 1, iv 0, rv oo, iv jv, iv fa, iv fb, rv b90, rv rr, .unset, .unset, .unset, .unset, .unset] [])) _
      refine XS.aload X151.here hx rfl (hb hby at_137) rfl rfl ?_
      show Steps p.tables e below (T151.setTop (mkF m 139 #[iv p0, iv p1, iv p2, iv p3, iv p4, iv p5, iv 1, iv 0, rv oo, iv jv, iv fa, iv fb, rv b90, rv rr, .unset, .unset, .unset, .unset, .unset] [(.ref rr)])) _
      refine st153.trans ?_
      show Steps p.tables e below (T153.setTop (mkF m 142 #[iv p0, iv p1, iv p2, iv p3, iv p4, iv p5, iv 1, iv 0, rv oo, iv jv, iv fa, iv fb, rv b90, rv rr, .unset, .unset, .unset, .unset, .unset] [(.int 3)])) _
      refine XS.iconst X153.here hx rfl (hb hby at_142) ?_
      show Steps p.tables e below (T153.setTop (mkF m 143 #[iv p0, iv p1, iv p2, iv p3, iv p4, iv p5, iv 1, iv 0, rv oo, iv jv, iv fa, iv fb, rv b90, rv rr, .unset, .unset, .unset, .unset, .unset] [(.int 3), (.int 3)])) _
      refine XS.icmpYes X153.here hx rfl (pc0 := 143) (pc' := 148) rfl (hb hby at_143) rfl (teq (by decide)).1 (by decide) (by decide) ?_
      show Steps p.tables e below (T153.setTop (mkF m 148 #[iv p0, iv p1, iv p2, iv p3, iv p4, iv p5, iv 1, iv 0, rv oo, iv jv, iv fa, iv fb, rv b90, rv rr, .unset, .unset, .unset, .unset, .unset] [])) _
      refine XS.aload X153.here hx rfl (hb hby at_148) rfl rfl ?_
      show Steps p.tables e below (T153.setTop (mkF m 150 #[iv p0, iv p1, iv p2, iv p3, iv p4, iv p5, iv 1, iv 0, rv oo, iv jv, iv fa, iv fb, rv b90, rv rr, .unset, .unset, .unset, .unset, .unset] [(.ref rr)])) _
      refine XS.iload X153.here hx rfl (hb hby at_150) rfl ?_
      show Steps p.tables e below (T153.setTop (mkF m 152 #[iv p0, iv p1, iv p2, iv p3, iv p4, iv p5, iv 1, iv 0, rv oo, iv jv, iv fa, iv fb, rv b90, rv rr, .unset, .unset, .unset, .unset, .unset] [(.int 1), (.ref rr)])) _
      refine st154.trans ?_
      show Steps p.tables e below (T154.setTop (mkF m 155 #[iv p0, iv p1, iv p2, iv p3, iv p4, iv p5, iv 1, iv 0, rv oo, iv jv, iv fa, iv fb, rv b90, rv rr, .unset, .unset, .unset, .unset, .unset] [(.ref oo)])) _
      refine XS.aload X154.here hx rfl (hb hby at_155) rfl rfl ?_
      show Steps p.tables e below (T154.setTop (mkF m 157 #[iv p0, iv p1, iv p2, iv p3, iv p4, iv p5, iv 1, iv 0, rv oo, iv jv, iv fa, iv fb, rv b90, rv rr, .unset, .unset, .unset, .unset, .unset] [(.ref oo), (.ref oo)])) _
      refine Jvm.RoadKit.acmp (g := (mkF m 157 #[iv p0, iv p1, iv p2, iv p3, iv p4, iv p5, iv 1, iv 0, rv oo, iv jv, iv fa, iv fb, rv b90, rv rr, .unset, .unset, .unset, .unset, .unset] [(.ref oo), (.ref oo)])) X154 hx rfl rfl rfl (pc0 := 157) (pc' := 160) (same := true) rfl (hb hby at_157) rfl (decide_eq_true rfl) (by decide) (by decide) ?_
      show Steps p.tables e below (T154.setTop (mkF m 160 #[iv p0, iv p1, iv p2, iv p3, iv p4, iv p5, iv 1, iv 0, rv oo, iv jv, iv fa, iv fb, rv b90, rv rr, .unset, .unset, .unset, .unset, .unset] [])) _
      refine XS.aload X154.here hx rfl (hb hby at_160) rfl rfl ?_
      show Steps p.tables e below (T154.setTop (mkF m 162 #[iv p0, iv p1, iv p2, iv p3, iv p4, iv p5, iv 1, iv 0, rv oo, iv jv, iv fa, iv fb, rv b90, rv rr, .unset, .unset, .unset, .unset, .unset] [(.ref rr)])) _
      refine XS.iload X154.here hx rfl (hb hby at_162) rfl ?_
      show Steps p.tables e below (T154.setTop (mkF m 164 #[iv p0, iv p1, iv p2, iv p3, iv p4, iv p5, iv 1, iv 0, rv oo, iv jv, iv fa, iv fb, rv b90, rv rr, .unset, .unset, .unset, .unset, .unset] [(.int 1), (.ref rr)])) _
      refine st155.trans ?_
      show Steps p.tables e below (T155.setTop (mkF m 167 #[iv p0, iv p1, iv p2, iv p3, iv p4, iv p5, iv 1, iv 0, rv oo, iv jv, iv fa, iv fb, rv b90, rv rr, .unset, .unset, .unset, .unset, .unset] [(.int fa)])) _
      refine XS.iload X155.here hx rfl (hb hby at_167) rfl ?_
      show Steps p.tables e below (T155.setTop (mkF m 169 #[iv p0, iv p1, iv p2, iv p3, iv p4, iv p5, iv 1, iv 0, rv oo, iv jv, iv fa, iv fb, rv b90, rv rr, .unset, .unset, .unset, .unset, .unset] [(.int fa), (.int fa)])) _
      refine XS.icmpNo X155.here hx rfl (hb hby at_169) rfl (teq rfl).2 ?_
      show Steps p.tables e below (T155.setTop (mkF m 172 #[iv p0, iv p1, iv p2, iv p3, iv p4, iv p5, iv 1, iv 0, rv oo, iv jv, iv fa, iv fb, rv b90, rv rr, .unset, .unset, .unset, .unset, .unset] [])) _
      refine XS.aload X155.here hx rfl (hb hby at_172) rfl rfl ?_
      show Steps p.tables e below (T155.setTop (mkF m 174 #[iv p0, iv p1, iv p2, iv p3, iv p4, iv p5, iv 1, iv 0, rv oo, iv jv, iv fa, iv fb, rv b90, rv rr, .unset, .unset, .unset, .unset, .unset] [(.ref rr)])) _
      refine XS.iload X155.here hx rfl (hb hby at_174) rfl ?_
      show Steps p.tables e below (T155.setTop (mkF m 176 #[iv p0, iv p1, iv p2, iv p3, iv p4, iv p5, iv 1, iv 0, rv oo, iv jv, iv fa, iv fb, rv b90, rv rr, .unset, .unset, .unset, .unset, .unset] [(.int 1), (.ref rr)])) _
      refine st156.trans ?_
      show Steps p.tables e below (T156.setTop (mkF m 179 #[iv p0, iv p1, iv p2, iv p3, iv p4, iv p5, iv 1, iv 0, rv oo, iv jv, iv fa, iv fb, rv b90, rv rr, .unset, .unset, .unset, .unset, .unset] [(.int fb)])) _
      refine XS.iload X156.here hx rfl (hb hby at_179) rfl ?_
      show Steps p.tables e below (T156.setTop (mkF m 181 #[iv p0, iv p1, iv p2, iv p3, iv p4, iv p5, iv 1, iv 0, rv oo, iv jv, iv fa, iv fb, rv b90, rv rr, .unset, .unset, .unset, .unset, .unset] [(.int fb), (.int fb)])) _
      refine XS.icmpNo X156.here hx rfl (hb hby at_181) rfl (teq rfl).2 ?_
      show Steps p.tables e below (T156.setTop (mkF m 184 #[iv p0, iv p1, iv p2, iv p3, iv p4, iv p5, iv 1, iv 0, rv oo, iv jv, iv fa, iv fb, rv b90, rv rr, .unset, .unset, .unset, .unset, .unset] [])) _
      refine XS.iconst X156.here hx rfl (hb hby at_184) ?_
      show Steps p.tables e below (T156.setTop (mkF m 185 #[iv p0, iv p1, iv p2, iv p3, iv p4, iv p5, iv 1, iv 0, rv oo, iv jv, iv fa, iv fb, rv b90, rv rr, .unset, .unset, .unset, .unset, .unset] [(.int 1)])) _
      refine XS.goto X156.here hx rfl (pc0 := 185) (pc' := 189) rfl (hb hby at_185) (by decide) (by decide) ?_
      show Steps p.tables e below (T156.setTop (mkF m 189 #[iv p0, iv p1, iv p2, iv p3, iv p4, iv p5, iv 1, iv 0, rv oo, iv jv, iv fa, iv fb, rv b90, rv rr, .unset, .unset, .unset, .unset, .unset] [(.int 1)])) _
      refine XS.istore X156.here hx rfl (hb hby at_189) rfl (l' := #[iv p0, iv p1, iv p2, iv p3, iv p4, iv p5, iv 1, iv 0, rv oo, iv jv, iv fa, iv fb, rv b90, rv rr, iv 1, .unset, .unset, .unset, .unset]) rfl ?_
      show Steps p.tables e below (T156.setTop (mkF m 191 #[iv p0, iv p1, iv p2, iv p3, iv p4, iv p5, iv 1, iv 0, rv oo, iv jv, iv fa, iv fb, rv b90, rv rr, iv 1, .unset, .unset, .unset, .unset] [])) _
      refine XS.iload X156.here hx rfl (hb hby at_191) rfl ?_
      show Steps p.tables e below (T156.setTop (mkF m 193 #[iv p0, iv p1, iv p2, iv p3, iv p4, iv p5, iv 1, iv 0, rv oo, iv jv, iv fa, iv fb, rv b90, rv rr, iv 1, .unset, .unset, .unset, .unset] [(.int 0)])) _
      refine XS.ifNo X156.here hx rfl (hb hby at_193) rfl ((if0 _ _).trans (teq (by decide)).2) ?_
      show Steps p.tables e below (T156.setTop (mkF m 196 #[iv p0, iv p1, iv p2, iv p3, iv p4, iv p5, iv 1, iv 0, rv oo, iv jv, iv fa, iv fb, rv b90, rv rr, iv 1, .unset, .unset, .unset, .unset] [])) _
      refine st157 _ ?_
      show Steps p.tables e below (T157.setTop (mkF m 199 #[iv p0, iv p1, iv p2, iv p3, iv p4, iv p5, iv 1, iv 0, rv oo, iv jv, iv fa, iv fb, rv b90, rv rr, iv 1, .unset, .unset, .unset, .unset] [(.ref w_TEXT_START)])) _
      refine XS.goto X157.here hx rfl (pc0 := 199) (pc' := 205) rfl (hb hby at_199) (by decide) (by decide) ?_
      show Steps p.tables e below (T157.setTop (mkF m 205 #[iv p0, iv p1, iv p2, iv p3, iv p4, iv p5, iv 1, iv 0, rv oo, iv jv, iv fa, iv fb, rv b90, rv rr, iv 1, .unset, .unset, .unset, .unset] [(.ref w_TEXT_START)])) _
      refine XS.astore X157.here hx rfl (hb hby at_205) rfl rfl (l' := #[iv p0, iv p1, iv p2, iv p3, iv p4, iv p5, iv 1, iv 0, rv oo, iv jv, iv fa, iv fb, rv b90, rv rr, iv 1, rv w_TEXT_START, .unset, .unset, .unset]) rfl ?_
      show Steps p.tables e below (T157.setTop (mkF m 207 #[iv p0, iv p1, iv p2, iv p3, iv p4, iv p5, iv 1, iv 0, rv oo, iv jv, iv fa, iv fb, rv b90, rv rr, iv 1, rv w_TEXT_START, .unset, .unset, .unset] [])) _
      refine XS.iload X157.here hx rfl (hb hby at_207) rfl ?_
      show Steps p.tables e below (T157.setTop (mkF m 209 #[iv p0, iv p1, iv p2, iv p3, iv p4, iv p5, iv 1, iv 0, rv oo, iv jv, iv fa, iv fb, rv b90, rv rr, iv 1, rv w_TEXT_START, .unset, .unset, .unset] [(.int 0)])) _
      refine XS.ifNo X157.here hx rfl (hb hby at_209) rfl ((if0 _ _).trans (teq (by decide)).2) ?_
      show Steps p.tables e below (T157.setTop (mkF m 212 #[iv p0, iv p1, iv p2, iv p3, iv p4, iv p5, iv 1, iv 0, rv oo, iv jv, iv fa, iv fb, rv b90, rv rr, iv 1, rv w_TEXT_START, .unset, .unset, .unset] [])) _
      refine XS.iload X157.here hx rfl (hb hby at_212) rfl ?_
      show Steps p.tables e below (T157.setTop (mkF m 214 #[iv p0, iv p1, iv p2, iv p3, iv p4, iv p5, iv 1, iv 0, rv oo, iv jv, iv fa, iv fb, rv b90, rv rr, iv 1, rv w_TEXT_START, .unset, .unset, .unset] [(.int p4)])) _
      refine XS.goto X157.here hx rfl (pc0 := 214) (pc' := 219) rfl (hb hby at_214) (by decide) (by decide) ?_
      show Steps p.tables e below (T157.setTop (mkF m 219 #[iv p0, iv p1, iv p2, iv p3, iv p4, iv p5, iv 1, iv 0, rv oo, iv jv, iv fa, iv fb, rv b90, rv rr, iv 1, rv w_TEXT_START, .unset, .unset, .unset] [(.int p4)])) _
      refine XS.istore X157.here hx rfl (hb hby at_219) rfl (l' := #[iv p0, iv p1, iv p2, iv p3, iv p4, iv p5, iv 1, iv 0, rv oo, iv jv, iv fa, iv fb, rv b90, rv rr, iv 1, rv w_TEXT_START, iv p4, .unset, .unset]) rfl ?_
      show Steps p.tables e below (T157.setTop (mkF m 221 #[iv p0, iv p1, iv p2, iv p3, iv p4, iv p5, iv 1, iv 0, rv oo, iv jv, iv fa, iv fb, rv b90, rv rr, iv 1, rv w_TEXT_START, iv p4, .unset, .unset] [])) _
      refine XS.iload X157.here hx rfl (hb hby at_221) rfl ?_
      show Steps p.tables e below (T157.setTop (mkF m 223 #[iv p0, iv p1, iv p2, iv p3, iv p4, iv p5, iv 1, iv 0, rv oo, iv jv, iv fa, iv fb, rv b90, rv rr, iv 1, rv w_TEXT_START, iv p4, .unset, .unset] [(.int 0)])) _
      refine XS.ifNo X157.here hx rfl (hb hby at_223) rfl ((if0 _ _).trans (teq (by decide)).2) ?_
      show Steps p.tables e below (T157.setTop (mkF m 226 #[iv p0, iv p1, iv p2, iv p3, iv p4, iv p5, iv 1, iv 0, rv oo, iv jv, iv fa, iv fb, rv b90, rv rr, iv 1, rv w_TEXT_START, iv p4, .unset, .unset] [])) _
      refine XS.iload X157.here hx rfl (hb hby at_226) rfl ?_
      show Steps p.tables e below (T157.setTop (mkF m 228 #[iv p0, iv p1, iv p2, iv p3, iv p4, iv p5, iv 1, iv 0, rv oo, iv jv, iv fa, iv fb, rv b90, rv rr, iv 1, rv w_TEXT_START, iv p4, .unset, .unset] [(.int p5)])) _
      refine XS.goto X157.here hx rfl (pc0 := 228) (pc' := 233) rfl (hb hby at_228) (by decide) (by decide) ?_
      show Steps p.tables e below (T157.setTop (mkF m 233 #[iv p0, iv p1, iv p2, iv p3, iv p4, iv p5, iv 1, iv 0, rv oo, iv jv, iv fa, iv fb, rv b90, rv rr, iv 1, rv w_TEXT_START, iv p4, .unset, .unset] [(.int p5)])) _
      refine XS.istore X157.here hx rfl (hb hby at_233) rfl (l' := #[iv p0, iv p1, iv p2, iv p3, iv p4, iv p5, iv 1, iv 0, rv oo, iv jv, iv fa, iv fb, rv b90, rv rr, iv 1, rv w_TEXT_START, iv p4, iv p5, .unset]) rfl ?_
      show Steps p.tables e below (T157.setTop (mkF m 235 #[iv p0, iv p1, iv p2, iv p3, iv p4, iv p5, iv 1, iv 0, rv oo, iv jv, iv fa, iv fb, rv b90, rv rr, iv 1, rv w_TEXT_START, iv p4, iv p5, .unset] [])) _
      refine XS.aload X157.here hx rfl (hb hby at_235) rfl rfl ?_
      show Steps p.tables e below (T157.setTop (mkF m 237 #[iv p0, iv p1, iv p2, iv p3, iv p4, iv p5, iv 1, iv 0, rv oo, iv jv, iv fa, iv fb, rv b90, rv rr, iv 1, rv w_TEXT_START, iv p4, iv p5, .unset] [(.ref rr)])) _
      refine XS.iload X157.here hx rfl (hb hby at_237) rfl ?_
      show Steps p.tables e below (T157.setTop (mkF m 239 #[iv p0, iv p1, iv p2, iv p3, iv p4, iv p5, iv 1, iv 0, rv oo, iv jv, iv fa, iv fb, rv b90, rv rr, iv 1, rv w_TEXT_START, iv p4, iv p5, .unset] [(.int 0), (.ref rr)])) _
      refine st158.trans ?_
      show Steps p.tables e below (T158.setTop (mkF m 242 #[iv p0, iv p1, iv p2, iv p3, iv p4, iv p5, iv 1, iv 0, rv oo, iv jv, iv fa, iv fb, rv b90, rv rr, iv 1, rv w_TEXT_START, iv p4, iv p5, .unset] [(.ref w_TEXT_START)])) _
      refine XS.aload X158.here hx rfl (hb hby at_242) rfl rfl ?_
      show Steps p.tables e below (T158.setTop (mkF m 244 #[iv p0, iv p1, iv p2, iv p3, iv p4, iv p5, iv 1, iv 0, rv oo, iv jv, iv fa, iv fb, rv b90, rv rr, iv 1, rv w_TEXT_START, iv p4, iv p5, .unset] [(.ref w_TEXT_START), (.ref w_TEXT_START)])) _
      refine Jvm.RoadKit.acmp (g := (mkF m 244 #[iv p0, iv p1, iv p2, iv p3, iv p4, iv p5, iv 1, iv 0, rv oo, iv jv, iv fa, iv fb, rv b90, rv rr, iv 1, rv w_TEXT_START, iv p4, iv p5, .unset] [(.ref w_TEXT_START), (.ref w_TEXT_START)])) X158 hx rfl rfl rfl (pc0 := 244) (pc' := 247) (same := true) rfl (hb hby at_244) rfl (decide_eq_true rfl) (by decide) (by decide) ?_
      show Steps p.tables e below (T158.setTop (mkF m 247 #[iv p0, iv p1, iv p2, iv p3, iv p4, iv p5, iv 1, iv 0, rv oo, iv jv, iv fa, iv fb, rv b90, rv rr, iv 1, rv w_TEXT_START, iv p4, iv p5, .unset] [])) _
      refine XS.aload X158.here hx rfl (hb hby at_247) rfl rfl ?_
      show Steps p.tables e below (T158.setTop (mkF m 249 #[iv p0, iv p1, iv p2, iv p3, iv p4, iv p5, iv 1, iv 0, rv oo, iv jv, iv fa, iv fb, rv b90, rv rr, iv 1, rv w_TEXT_START, iv p4, iv p5, .unset] [(.ref rr)])) _
      refine XS.iload X158.here hx rfl (hb hby at_249) rfl ?_
      show Steps p.tables e below (T158.setTop (mkF m 251 #[iv p0, iv p1, iv p2, iv p3, iv p4, iv p5, iv 1, iv 0, rv oo, iv jv, iv fa, iv fb, rv b90, rv rr, iv 1, rv w_TEXT_START, iv p4, iv p5, .unset] [(.int 0), (.ref rr)])) _
      refine st159.trans ?_
      show Steps p.tables e below (T159.setTop (mkF m 254 #[iv p0, iv p1, iv p2, iv p3, iv p4, iv p5, iv 1, iv 0, rv oo, iv jv, iv fa, iv fb, rv b90, rv rr, iv 1, rv w_TEXT_START, iv p4, iv p5, .unset] [(.int p4)])) _
      refine XS.iload X159.here hx rfl (hb hby at_254) rfl ?_
      show Steps p.tables e below (T159.setTop (mkF m 256 #[iv p0, iv p1, iv p2, iv p3, iv p4, iv p5, iv 1, iv 0, rv oo, iv jv, iv fa, iv fb, rv b90, rv rr, iv 1, rv w_TEXT_START, iv p4, iv p5, .unset] [(.int p4), (.int p4)])) _
      refine XS.icmpNo X159.here hx rfl (hb hby at_256) rfl (teq rfl).2 ?_
      show Steps p.tables e below (T159.setTop (mkF m 259 #[iv p0, iv p1, iv p2, iv p3, iv p4, iv p5, iv 1, iv 0, rv oo, iv jv, iv fa, iv fb, rv b90, rv rr, iv 1, rv w_TEXT_START, iv p4, iv p5, .unset] [])) _
      refine XS.aload X159.here hx rfl (hb hby at_259) rfl rfl ?_
      show Steps p.tables e below (T159.setTop (mkF m 261 #[iv p0, iv p1, iv p2, iv p3, iv p4, iv p5, iv 1, iv 0, rv oo, iv jv, iv fa, iv fb, rv b90, rv rr, iv 1, rv w_TEXT_START, iv p4, iv p5, .unset] [(.ref rr)])) _
      refine XS.iload X159.here hx rfl (hb hby at_261) rfl ?_
      show Steps p.tables e below (T159.setTop (mkF m 263 #[iv p0, iv p1, iv p2, iv p3, iv p4, iv p5, iv 1, iv 0, rv oo, iv jv, iv fa, iv fb, rv b90, rv rr, iv 1, rv w_TEXT_START, iv p4, iv p5, .unset] [(.int 0), (.ref rr)])) _
      refine st160.trans ?_
      show Steps p.tables e below (T160.setTop (mkF m 266 #[iv p0, iv p1, iv p2, iv p3, iv p4, iv p5, iv 1, iv 0, rv oo, iv jv, iv fa, iv fb, rv b90, rv rr, iv 1, rv w_TEXT_START, iv p4, iv p5, .unset] [(.int p5)])) _
      refine XS.iload X160.here hx rfl (hb hby at_266) rfl ?_
      show Steps p.tables e below (T160.setTop (mkF m 268 #[iv p0, iv p1, iv p2, iv p3, iv p4, iv p5, iv 1, iv 0, rv oo, iv jv, iv fa, iv fb, rv b90, rv rr, iv 1, rv w_TEXT_START, iv p4, iv p5, .unset] [(.int p5), (.int p5)])) _
      refine XS.icmpNo X160.here hx rfl (hb hby at_268) rfl (teq rfl).2 ?_
      show Steps p.tables e below (T160.setTop (mkF m 271 #[iv p0, iv p1, iv p2, iv p3, iv p4, iv p5, iv 1, iv 0, rv oo, iv jv, iv fa, iv fb, rv b90, rv rr, iv 1, rv w_TEXT_START, iv p4, iv p5, .unset] [])) _
      refine XS.iconst X160.here hx rfl (hb hby at_271) ?_
      show Steps p.tables e below (T160.setTop (mkF m 272 #[iv p0, iv p1, iv p2, iv p3, iv p4, iv p5, iv 1, iv 0, rv oo, iv jv, iv fa, iv fb, rv b90, rv rr, iv 1, rv w_TEXT_START, iv p4, iv p5, .unset] [(.int 1)])) _
      refine XS.goto X160.here hx rfl (pc0 := 272) (pc' := 276) rfl (hb hby at_272) (by decide) (by decide) ?_
      show Steps p.tables e below (T160.setTop (mkF m 276 #[iv p0, iv p1, iv p2, iv p3, iv p4, iv p5, iv 1, iv 0, rv oo, iv jv, iv fa, iv fb, rv b90, rv rr, iv 1, rv w_TEXT_START, iv p4, iv p5, .unset] [(.int 1)])) _
      refine XS.istore X160.here hx rfl (hb hby at_276) rfl (l' := #[iv p0, iv p1, iv p2, iv p3, iv p4, iv p5, iv 1, iv 0, rv oo, iv jv, iv fa, iv fb, rv b90, rv rr, iv 1, rv w_TEXT_START, iv p4, iv p5, iv 1]) rfl ?_
      show Steps p.tables e below (T160.setTop (mkF m 278 #[iv p0, iv p1, iv p2, iv p3, iv p4, iv p5, iv 1, iv 0, rv oo, iv jv, iv fa, iv fb, rv b90, rv rr, iv 1, rv w_TEXT_START, iv p4, iv p5, iv 1] [])) _
      refine XS.iload X160.here hx rfl (hb hby at_278) rfl ?_
      show Steps p.tables e below (T160.setTop (mkF m 280 #[iv p0, iv p1, iv p2, iv p3, iv p4, iv p5, iv 1, iv 0, rv oo, iv jv, iv fa, iv fb, rv b90, rv rr, iv 1, rv w_TEXT_START, iv p4, iv p5, iv 1] [(.int 1)])) _
      refine XS.ifNo X160.here hx rfl (hb hby at_280) rfl ((if0 _ _).trans (feq (by decide)).1) ?_
      show Steps p.tables e below (T160.setTop (mkF m 283 #[iv p0, iv p1, iv p2, iv p3, iv p4, iv p5, iv 1, iv 0, rv oo, iv jv, iv fa, iv fb, rv b90, rv rr, iv 1, rv w_TEXT_START, iv p4, iv p5, iv 1] [])) _
      refine XS.iload X160.here hx rfl (hb hby at_283) rfl ?_
      show Steps p.tables e below (T160.setTop (mkF m 285 #[iv p0, iv p1, iv p2, iv p3, iv p4, iv p5, iv 1, iv 0, rv oo, iv jv, iv fa, iv fb, rv b90, rv rr, iv 1, rv w_TEXT_START, iv p4, iv p5, iv 1] [(.int 1)])) _
      refine XS.ifNo X160.here hx rfl (hb hby at_285) rfl ((if0 _ _).trans (feq (by decide)).1) ?_
      show Steps p.tables e below (T160.setTop (mkF m 288 #[iv p0, iv p1, iv p2, iv p3, iv p4, iv p5, iv 1, iv 0, rv oo, iv jv, iv fa, iv fb, rv b90, rv rr, iv 1, rv w_TEXT_START, iv p4, iv p5, iv 1] [])) _
      refine XS.iconst X160.here hx rfl (hb hby at_288) ?_
      show Steps p.tables e below (T160.setTop (mkF m 289 #[iv p0, iv p1, iv p2, iv p3, iv p4, iv p5, iv 1, iv 0, rv oo, iv jv, iv fa, iv fb, rv b90, rv rr, iv 1, rv w_TEXT_START, iv p4, iv p5, iv 1] [(.int 1)])) _
      refine XS.goto X160.here hx rfl (pc0 := 289) (pc' := 293) rfl (hb hby at_289) (by decide) (by decide) ?_
      show Steps p.tables e below (T160.setTop (mkF m 293 #[iv p0, iv p1, iv p2, iv p3, iv p4, iv p5, iv 1, iv 0, rv oo, iv jv, iv fa, iv fb, rv b90, rv rr, iv 1, rv w_TEXT_START, iv p4, iv p5, iv 1] [(.int 1)])) _
      exact retN X160 hx (t := .boolean) Bd.returns (by simp) (hb hby at_293) hr
    · show own_law_Q Z w_CHARACTER w_SPLIT w_JUMP w_TEXT_START w_LINE_START w_TEXT_END w_LINE_END w_SAVE w_BACK_REFERENCE w_MARK w_PROGRESS w_MATCH w_NOTHING w_DE k_DE p0 p1 p2 p3 p4 p5 h0 n0 _ T160.heap _
      rw [e160]
      exact ⟨rfl, N160⟩
set_option maxRecDepth 65536 in
set_option maxHeartbeats 40000000 in
theorem comes_1 {Post : Tables → Env → Array Value → State → Outcome → State → Prop} (hpost : ∀ tb e args s v u, (limb_1_1.after args s (.returned v) u = true ∧ limb_1_2.after args s (.returned v) u = true ∧ True) → FrameEnd s (.returned v) u (Jvm.fieldLocs frame_1_writes args s ++ Jvm.arrayLocs frame_1_arrays args s ++ Jvm.staticLocs frame_1_statics s) 32 256 → Post tb e args s (.returned v) u) :
    ArmFor flags0 classFile x code maxLocals ret World_1 tables_1 room_1 Calls_1 rest_1 Pre_1 Post := by
  intro l hfl _ _ p e ha hc hk s m args below hf hA hF happ hP
  obtain ⟨hcalls, hrest, hpre⟩ := hP
  obtain ⟨-, -, -, hnamed, -, -, -, hat⟩ := (Spec.applies_iff hf).mp happ
  obtain ⟨hg, hn⟩ := and_e (Cond.before_iff.mp (show (Jvm.Cond.and given_1 narrow_1).before args s = true from hpre))
  obtain ⟨hq1, hq2⟩ := and_e hg
  obtain ⟨hq3, hq4⟩ := and_e hq2
  obtain ⟨hq5, hq6⟩ := and_e hq4
  obtain ⟨hq7, hq8⟩ := and_e hq6
  obtain ⟨hq9, hq10⟩ := and_e hq8
  obtain ⟨hq11, hq12⟩ := and_e hq10
  obtain ⟨w0, w1, w2, w3, w4, w5, rfl⟩ : ∃ w0 w1 w2 w3 w4 w5 : Value, args = #[w0, w1, w2, w3, w4, w5] := by
    have hs : args.size = 6 := by simpa [Cond.value, given_1] using hq1
    obtain ⟨L⟩ := args
    match L, hs with
    | [w0, w1, w2, w3, w4, w5], _ => exact ⟨w0, w1, w2, w3, w4, w5, rfl⟩
  have hw := fun d (hd : d ∈ tables_1) => atoms_spec (ws := Jvm.Cond.code x code maxLocals ret :: tables_1) hat d (List.mem_cons_of_mem _ hd)
  have hfit : Fit s := fun {y c} hc i hi => by
    obtain ⟨ha, rfl⟩ := Array.getElem?_eq_some_iff.mp hc
    have q := List.all_eq_true.mp ((Array.all_eq_true_iff_forall_mem.mp hF) _ (Array.getElem_mem ha)) i (List.mem_range.mpr hi)
    simpa [Array.getElem?_eq_getElem hi] using q
  obtain ⟨hsets, hown0⟩ := atoms_of _ (rest_1_c_eq ▸ (show rest_1_c.before _ s = true from hrest))
  obtain ⟨i0, ei0⟩ := is_v hq3
  obtain rfl : w0 = (.int i0) := Option.some.inj ei0
  obtain ⟨i1, ei1⟩ := is_v hq5
  obtain rfl : w1 = (.int i1) := Option.some.inj ei1
  obtain ⟨i2, ei2⟩ := is_v hq7
  obtain rfl : w2 = (.int i2) := Option.some.inj ei2
  obtain ⟨i3, ei3⟩ := is_v hq9
  obtain rfl : w3 = (.int i3) := Option.some.inj ei3
  obtain ⟨i4, ei4⟩ := is_v hq11
  obtain rfl : w4 = (.int i4) := Option.some.inj ei4
  obtain ⟨i5, ei5⟩ := is_v hq12
  obtain rfl : w5 = (.int i5) := Option.some.inj ei5
  obtain ⟨hq13, hq14⟩ := and_e hn
  obtain ⟨hq15, hq16⟩ := and_e hq14
  obtain ⟨hq17, hq18⟩ := and_e hq16
  obtain ⟨hq19, hq20⟩ := and_e hq18
  obtain ⟨hq21, hq22⟩ := and_e hq20
  obtain ⟨hq23, hq24⟩ := and_e hq22
  obtain ⟨hq25, hq26⟩ := and_e hq24
  obtain ⟨hq27, hq28⟩ := and_e hq26
  obtain ⟨hq29, hq30⟩ := and_e hq28
  obtain ⟨hq31, hq32⟩ := and_e hq30
  obtain ⟨hq33, hq34⟩ := and_e hq32
  obtain ⟨hq35, hq36⟩ := and_e hq34
  obtain ⟨hq37, hq38⟩ := and_e hq36
  obtain ⟨hq39, hq40⟩ := and_e hq38
  obtain ⟨hq41, hq42⟩ := and_e hq40
  obtain ⟨hq43, hq44⟩ := and_e hq42
  obtain ⟨hq45, hq46⟩ := and_e hq44
  obtain ⟨hq47, hq48⟩ := and_e hq46
  obtain ⟨hq49, hq50⟩ := and_e hq48
  obtain ⟨hq51, hq52⟩ := and_e hq50
  obtain ⟨hq53, hq54⟩ := and_e hq52
  obtain ⟨hq55, hq56⟩ := and_e hq54
  obtain ⟨hq57, hq58⟩ := and_e hq56
  obtain ⟨hq59, hq60⟩ := and_e hq58
  obtain ⟨hq61, hq62⟩ := and_e hq60
  obtain ⟨w_CHARACTER, ev_CHARACTER⟩ := exa_v hq57
  have S_CHARACTER : Sta s s.heap "com/example/quillgraph/quillgraph/sparql/RegexProgram$Op" "CHARACTER" "Lcom/example/quillgraph/quillgraph/sparql/RegexProgram$Op;" (.ref w_CHARACTER) := Sta.start ev_CHARACTER (Or.inr ⟨(hw _ (own_m 5 rfl)), (hw _ (own_m 167 rfl))⟩)
  have E_CHARACTER : Exa s s.heap w_CHARACTER "com/example/quillgraph/quillgraph/sparql/RegexProgram$Op" := Exa.start ev_CHARACTER hq57
  have R_CHARACTER : Fld s s.heap w_CHARACTER "java/lang/Enum" "ordinal" "I" (.int (0 : Int32)) := Fld.start ((fld_at ev_CHARACTER).symm.trans (own_eqI hq59))
  have U_CHARACTER := And.intro S_CHARACTER (And.intro E_CHARACTER R_CHARACTER)
  obtain ⟨w_SPLIT, ev_SPLIT⟩ := exa_v hq15
  have S_SPLIT : Sta s s.heap "com/example/quillgraph/quillgraph/sparql/RegexProgram$Op" "SPLIT" "Lcom/example/quillgraph/quillgraph/sparql/RegexProgram$Op;" (.ref w_SPLIT) := Sta.start ev_SPLIT (Or.inr ⟨(hw _ (own_m 5 rfl)), (hw _ (own_m 8 rfl))⟩)
  have E_SPLIT : Exa s s.heap w_SPLIT "com/example/quillgraph/quillgraph/sparql/RegexProgram$Op" := Exa.start ev_SPLIT hq15
  have R_SPLIT : Fld s s.heap w_SPLIT "java/lang/Enum" "ordinal" "I" (.int (1 : Int32)) := Fld.start ((fld_at ev_SPLIT).symm.trans (own_eqI hq19))
  have U_SPLIT := And.intro S_SPLIT (And.intro E_SPLIT R_SPLIT)
  obtain ⟨w_JUMP, ev_JUMP⟩ := exa_v hq21
  have S_JUMP : Sta s s.heap "com/example/quillgraph/quillgraph/sparql/RegexProgram$Op" "JUMP" "Lcom/example/quillgraph/quillgraph/sparql/RegexProgram$Op;" (.ref w_JUMP) := Sta.start ev_JUMP (Or.inr ⟨(hw _ (own_m 5 rfl)), (hw _ (own_m 10 rfl))⟩)
  have E_JUMP : Exa s s.heap w_JUMP "com/example/quillgraph/quillgraph/sparql/RegexProgram$Op" := Exa.start ev_JUMP hq21
  have R_JUMP : Fld s s.heap w_JUMP "java/lang/Enum" "ordinal" "I" (.int (2 : Int32)) := Fld.start ((fld_at ev_JUMP).symm.trans (own_eqI hq23))
  have U_JUMP := And.intro S_JUMP (And.intro E_JUMP R_JUMP)
  obtain ⟨w_TEXT_START, ev_TEXT_START⟩ := exa_v hq13
  have S_TEXT_START : Sta s s.heap "com/example/quillgraph/quillgraph/sparql/RegexProgram$Op" "TEXT_START" "Lcom/example/quillgraph/quillgraph/sparql/RegexProgram$Op;" (.ref w_TEXT_START) := Sta.start ev_TEXT_START (Or.inr ⟨(hw _ (own_m 5 rfl)), (hw _ (own_m 6 rfl))⟩)
  have E_TEXT_START : Exa s s.heap w_TEXT_START "com/example/quillgraph/quillgraph/sparql/RegexProgram$Op" := Exa.start ev_TEXT_START hq13
  have R_TEXT_START : Fld s s.heap w_TEXT_START "java/lang/Enum" "ordinal" "I" (.int (3 : Int32)) := Fld.start ((fld_at ev_TEXT_START).symm.trans (own_eqI hq17))
  have U_TEXT_START := And.intro S_TEXT_START (And.intro E_TEXT_START R_TEXT_START)
  obtain ⟨w_LINE_START, ev_LINE_START⟩ := exa_v hq53
  have S_LINE_START : Sta s s.heap "com/example/quillgraph/quillgraph/sparql/RegexProgram$Op" "LINE_START" "Lcom/example/quillgraph/quillgraph/sparql/RegexProgram$Op;" (.ref w_LINE_START) := Sta.start ev_LINE_START (Or.inr ⟨(hw _ (own_m 5 rfl)), (hw _ (own_m 165 rfl))⟩)
  have E_LINE_START : Exa s s.heap w_LINE_START "com/example/quillgraph/quillgraph/sparql/RegexProgram$Op" := Exa.start ev_LINE_START hq53
  have R_LINE_START : Fld s s.heap w_LINE_START "java/lang/Enum" "ordinal" "I" (.int (4 : Int32)) := Fld.start ((fld_at ev_LINE_START).symm.trans (own_eqI hq55))
  have U_LINE_START := And.intro S_LINE_START (And.intro E_LINE_START R_LINE_START)
  obtain ⟨w_TEXT_END, ev_TEXT_END⟩ := exa_v hq61
  have S_TEXT_END : Sta s s.heap "com/example/quillgraph/quillgraph/sparql/RegexProgram$Op" "TEXT_END" "Lcom/example/quillgraph/quillgraph/sparql/RegexProgram$Op;" (.ref w_TEXT_END) := Sta.start ev_TEXT_END (Or.inr ⟨(hw _ (own_m 5 rfl)), (hw _ (own_m 169 rfl))⟩)
  have E_TEXT_END : Exa s s.heap w_TEXT_END "com/example/quillgraph/quillgraph/sparql/RegexProgram$Op" := Exa.start ev_TEXT_END hq61
  have R_TEXT_END : Fld s s.heap w_TEXT_END "java/lang/Enum" "ordinal" "I" (.int (5 : Int32)) := Fld.start ((fld_at ev_TEXT_END).symm.trans (own_eqI hq62))
  have U_TEXT_END := And.intro S_TEXT_END (And.intro E_TEXT_END R_TEXT_END)
  obtain ⟨w_LINE_END, ev_LINE_END⟩ := exa_v hq25
  have S_LINE_END : Sta s s.heap "com/example/quillgraph/quillgraph/sparql/RegexProgram$Op" "LINE_END" "Lcom/example/quillgraph/quillgraph/sparql/RegexProgram$Op;" (.ref w_LINE_END) := Sta.start ev_LINE_END (Or.inr ⟨(hw _ (own_m 5 rfl)), (hw _ (own_m 71 rfl))⟩)
  have E_LINE_END : Exa s s.heap w_LINE_END "com/example/quillgraph/quillgraph/sparql/RegexProgram$Op" := Exa.start ev_LINE_END hq25
  have R_LINE_END : Fld s s.heap w_LINE_END "java/lang/Enum" "ordinal" "I" (.int (6 : Int32)) := Fld.start ((fld_at ev_LINE_END).symm.trans (own_eqI hq33))
  have U_LINE_END := And.intro S_LINE_END (And.intro E_LINE_END R_LINE_END)
  obtain ⟨w_SAVE, ev_SAVE⟩ := exa_v hq41
  have S_SAVE : Sta s s.heap "com/example/quillgraph/quillgraph/sparql/RegexProgram$Op" "SAVE" "Lcom/example/quillgraph/quillgraph/sparql/RegexProgram$Op;" (.ref w_SAVE) := Sta.start ev_SAVE (Or.inr ⟨(hw _ (own_m 5 rfl)), (hw _ (own_m 93 rfl))⟩)
  have E_SAVE : Exa s s.heap w_SAVE "com/example/quillgraph/quillgraph/sparql/RegexProgram$Op" := Exa.start ev_SAVE hq41
  have R_SAVE : Fld s s.heap w_SAVE "java/lang/Enum" "ordinal" "I" (.int (7 : Int32)) := Fld.start ((fld_at ev_SAVE).symm.trans (own_eqI hq43))
  have U_SAVE := And.intro S_SAVE (And.intro E_SAVE R_SAVE)
  obtain ⟨w_BACK_REFERENCE, ev_BACK_REFERENCE⟩ := exa_v hq29
  have S_BACK_REFERENCE : Sta s s.heap "com/example/quillgraph/quillgraph/sparql/RegexProgram$Op" "BACK_REFERENCE" "Lcom/example/quillgraph/quillgraph/sparql/RegexProgram$Op;" (.ref w_BACK_REFERENCE) := Sta.start ev_BACK_REFERENCE (Or.inr ⟨(hw _ (own_m 5 rfl)), (hw _ (own_m 86 rfl))⟩)
  have E_BACK_REFERENCE : Exa s s.heap w_BACK_REFERENCE "com/example/quillgraph/quillgraph/sparql/RegexProgram$Op" := Exa.start ev_BACK_REFERENCE hq29
  have R_BACK_REFERENCE : Fld s s.heap w_BACK_REFERENCE "java/lang/Enum" "ordinal" "I" (.int (8 : Int32)) := Fld.start ((fld_at ev_BACK_REFERENCE).symm.trans (own_eqI hq31))
  have U_BACK_REFERENCE := And.intro S_BACK_REFERENCE (And.intro E_BACK_REFERENCE R_BACK_REFERENCE)
  obtain ⟨w_MARK, ev_MARK⟩ := exa_v hq45
  have S_MARK : Sta s s.heap "com/example/quillgraph/quillgraph/sparql/RegexProgram$Op" "MARK" "Lcom/example/quillgraph/quillgraph/sparql/RegexProgram$Op;" (.ref w_MARK) := Sta.start ev_MARK (Or.inr ⟨(hw _ (own_m 5 rfl)), (hw _ (own_m 95 rfl))⟩)
  have E_MARK : Exa s s.heap w_MARK "com/example/quillgraph/quillgraph/sparql/RegexProgram$Op" := Exa.start ev_MARK hq45
  have R_MARK : Fld s s.heap w_MARK "java/lang/Enum" "ordinal" "I" (.int (9 : Int32)) := Fld.start ((fld_at ev_MARK).symm.trans (own_eqI hq47))
  have U_MARK := And.intro S_MARK (And.intro E_MARK R_MARK)
  obtain ⟨w_PROGRESS, ev_PROGRESS⟩ := exa_v hq49
  have S_PROGRESS : Sta s s.heap "com/example/quillgraph/quillgraph/sparql/RegexProgram$Op" "PROGRESS" "Lcom/example/quillgraph/quillgraph/sparql/RegexProgram$Op;" (.ref w_PROGRESS) := Sta.start ev_PROGRESS (Or.inr ⟨(hw _ (own_m 5 rfl)), (hw _ (own_m 97 rfl))⟩)
  have E_PROGRESS : Exa s s.heap w_PROGRESS "com/example/quillgraph/quillgraph/sparql/RegexProgram$Op" := Exa.start ev_PROGRESS hq49
  have R_PROGRESS : Fld s s.heap w_PROGRESS "java/lang/Enum" "ordinal" "I" (.int (10 : Int32)) := Fld.start ((fld_at ev_PROGRESS).symm.trans (own_eqI hq51))
  have U_PROGRESS := And.intro S_PROGRESS (And.intro E_PROGRESS R_PROGRESS)
  obtain ⟨w_MATCH, ev_MATCH⟩ := exa_v hq27
  have S_MATCH : Sta s s.heap "com/example/quillgraph/quillgraph/sparql/RegexProgram$Op" "MATCH" "Lcom/example/quillgraph/quillgraph/sparql/RegexProgram$Op;" (.ref w_MATCH) := Sta.start ev_MATCH (Or.inr ⟨(hw _ (own_m 5 rfl)), (hw _ (own_m 83 rfl))⟩)
  have E_MATCH : Exa s s.heap w_MATCH "com/example/quillgraph/quillgraph/sparql/RegexProgram$Op" := Exa.start ev_MATCH hq27
  have R_MATCH : Fld s s.heap w_MATCH "java/lang/Enum" "ordinal" "I" (.int (11 : Int32)) := Fld.start ((fld_at ev_MATCH).symm.trans (own_eqI hq35))
  have U_MATCH := And.intro S_MATCH (And.intro E_MATCH R_MATCH)
  obtain ⟨w_NOTHING, ev_NOTHING⟩ := exa_v hq37
  have S_NOTHING : Sta s s.heap "com/example/quillgraph/quillgraph/sparql/RegexProgram$Op" "NOTHING" "Lcom/example/quillgraph/quillgraph/sparql/RegexProgram$Op;" (.ref w_NOTHING) := Sta.start ev_NOTHING (Or.inr ⟨(hw _ (own_m 5 rfl)), (hw _ (own_m 91 rfl))⟩)
  have E_NOTHING : Exa s s.heap w_NOTHING "com/example/quillgraph/quillgraph/sparql/RegexProgram$Op" := Exa.start ev_NOTHING hq37
  have R_NOTHING : Fld s s.heap w_NOTHING "java/lang/Enum" "ordinal" "I" (.int (12 : Int32)) := Fld.start ((fld_at ev_NOTHING).symm.trans (own_eqI hq39))
  have U_NOTHING := And.intro S_NOTHING (And.intro E_NOTHING R_NOTHING)
  obtain ⟨w_DE, ev_DE⟩ := arr_v (Cond.before_iff.mp (hsets _ (own_m 6 rfl)))
  have S_DE : Sta s s.heap "java/util/ArrayList" "DEFAULTCAPACITY_EMPTY_ELEMENTDATA" "[Ljava/lang/Object;" (.ref w_DE) := Sta.start ev_DE (Or.inr ⟨(hw _ (own_m 31 rfl)), (hsets _ (own_m 2 rfl))⟩)
  obtain ⟨c_DE, A_DE⟩ := Arr.start ev_DE (Cond.before_iff.mp (hsets _ (own_m 6 rfl)))
  have V_DE : Arv s s.heap w_DE c_DE.cls (.object "java/lang/Object") (0 : Int32) [] .null := own_empty ev_DE A_DE (Cond.before_iff.mp (hsets _ (own_m 8 rfl)))
  obtain ⟨n, o, h1, h2, h3, _, L, rfl, ⟨rfl, N⟩, hq⟩ := own_law l s _ hw tables_1 w_CHARACTER w_SPLIT w_JUMP w_TEXT_START w_LINE_START w_TEXT_END w_LINE_END w_SAVE w_BACK_REFERENCE w_MARK w_PROGRESS w_MATCH w_NOTHING w_DE c_DE.cls i0 i1 i2 i3 i4 i5 s.heap s.heap.size (Old.start s) U_CHARACTER U_SPLIT U_JUMP U_TEXT_START U_LINE_START U_TEXT_END U_LINE_END U_SAVE U_BACK_REFERENCE U_MARK U_PROGRESS U_MATCH U_NOTHING S_DE V_DE p e ha hc hk s m _ below hf ((Spec.applies_iff_loose hf).mp happ).1 ⟨rfl, State.Warmed39.refl s, rfl⟩ trivial
  refine ⟨n, _, h1, h2, h3, hpost _ _ _ _ _ _ ⟨Cond.after_iff.mpr rfl, Cond.after_iff.mpr (eq_i res_at (Term.int_eval (1)) rfl), trivial⟩ ⟨hq.1, hq.2.1, (hq.2.2.sift fun y hy => Or.inr (N y hy)).mono (by decide) (by decide)⟩⟩
theorem main_1_1 : Claimed_1_1 := comes_1 fun _ _ _ _ _ _ h hF => ⟨h.1, hF⟩
theorem main_1_2 : Claimed_1_2 := comes_1 fun _ _ _ _ _ _ h hF => ⟨h.2.1, hF⟩
end Jvm.Pilot.@@N@@
namespace Jvm.Pilot.@@N@@
open Jvm Jvm.ClassFile Sem Op Lib Jvm.Free Jvm.Stand Jvm.Pilot.@@N@@.Jvm.D
/-! MADE BY PROGRAM (witnessworld.py) out of the Statement's table words and the real class files: 27 classes; the members and pool entries that the words name. The judged class is class 1, her method 2. -/
namespace start1
open Jvm.ClassFile
def u (s : String) : CpInfo := .utf8 (stringToUtf16 s)
/-- a pool by its gaps: so many unusable entries, then the entry; so many at the end -/
def gap : Nat → List CpInfo → List CpInfo
  | 0, r => r
  | n + 1, r => .unusable :: gap n r
def poolList (es : List (Nat × CpInfo)) (last : Nat) : List CpInfo := es.foldr (fun e r => gap e.1 (e.2 :: r)) (gap last [])
def pool (es : List (Nat × CpInfo)) (last : Nat) : Array CpInfo := ⟨poolList es last⟩
def fileOf (pool : Array CpInfo) (this : Nat) (attrs : Array Attribute := #[]) (ms : Array MethodInfo := #[]) (fl : Nat := 33) (sup : Nat := 0) (ifs : Array Nat := #[]) (fds : Array FieldInfo := #[]) : ClassFile where
  minorVersion := 0
  majorVersion := 65
  constantPool := pool
  accessFlags := fl
  thisClass := this
  superClass := sup
  interfaces := ifs
  fields := fds
  methods := ms
  attributes := attrs
def plain (name : String) (sup : Option ClassId) : Class where
  name := name
  kind := .ordinary
  loader := none
  accessFlags := 33
  super := sup
  interfaces := #[]
  cf := none
  fields := #[]
  methods := #[]
  instanceTypes := #[]
  staticTypes := #[]
  resolved := #[]
  callSites := []
  init := .initialized
  statics := none
  mirror := none

def pool0 : Array CpInfo := pool [(5, u "<init>"), (0, u "()V"), (1, .class_ 10), (1, u "java/lang/Object")] 113

def k0c0 : Code := { maxStack := 0, maxLocals := 1, code := object_method_1_code, exceptionTable := #[], attributes := #[] }
def k0m0 : Method := { name := "<init>", desc := "()V", sig := { parameters := [], returnType := none }, accessFlags := 1, code := some k0c0 }
/-- java/lang/Object -/
def k0 : Class := { plain "java/lang/Object" none with
  accessFlags := 33
  interfaces := #[]
  cf := some (fileOf pool0 8 #[] #[{ accessFlags := 1, nameIndex := 5, descriptorIndex := 6, attributes := #[] }] 33 0 #[] #[])
  fields := #[]
  methods := #[k0m0]
  instanceTypes := #[]
  staticTypes := #[]
  resolved := Array.replicate 124 none
  statics := none }

def pool1 : Array CpInfo := pool [(2, .class_ 4), (1, u "java/lang/Object"), (0, u "<init>"), (0, u "()V"), (0, .fieldref 8 9), (0, .class_ 10), (0, .nameAndType 11 12), (0, u "com/example/quillgraph/quillgraph/sparql/RegexProgram$Op"), (0, u "CHARACTER"), (0, u "Lcom/example/quillgraph/quillgraph/sparql/RegexProgram$Op;"), (0, .fieldref 8 14), (0, .nameAndType 15 12), (0, u "SPLIT"), (0, .fieldref 8 17), (0, .nameAndType 18 12), (0, u "JUMP"), (0, .fieldref 8 20), (0, .nameAndType 21 12), (0, u "TEXT_START"), (0, .fieldref 8 23), (0, .nameAndType 24 12), (0, u "LINE_START"), (0, .fieldref 8 26), (0, .nameAndType 27 12), (0, u "TEXT_END"), (0, .fieldref 8 29), (0, .nameAndType 30 12), (0, u "LINE_END"), (0, .fieldref 8 32), (0, .nameAndType 33 12), (0, u "BACK_REFERENCE"), (0, .methodref 35 36), (0, .class_ 37), (0, .nameAndType 38 39), (0, u "com/example/quillgraph/quillgraph/sparql/BuilderSetPinLaw"), (0, u "pick"), (0, u "(I)Lcom/example/quillgraph/quillgraph/sparql/RegexProgram$Op;"), (0, .integer 2147483647), (0, .class_ 42), (0, u "com/example/quillgraph/quillgraph/sparql/RegexProgram$Builder"), (0, .methodref 41 44), (0, .nameAndType 5 45), (0, u "(I)V"), (0, .methodref 41 47), (0, .nameAndType 48 49), (0, u "add"), (0, u "(Lcom/example/quillgraph/quillgraph/sparql/RegexProgram$Op;II)I"), (0, .methodref 41 51), (0, .nameAndType 52 53), (0, u "set"), (0, u "(ILcom/example/quillgraph/quillgraph/sparql/RegexProgram$Op;II)V"), (0, .methodref 41 55), (0, .nameAndType 56 57), (0, u "build"), (0, u "()Lcom/example/quillgraph/quillgraph/sparql/RegexProgram;"), (0, .methodref 59 60), (0, .class_ 61), (0, .nameAndType 62 63), (0, u "com/example/quillgraph/quillgraph/sparql/RegexProgram"), (0, u "size"), (0, u "()I"), (0, .methodref 59 65), (0, .nameAndType 66 39), (0, u "op"), (0, .methodref 59 68), (0, .nameAndType 69 70), (0, u "first"), (0, u "(I)I"), (0, .methodref 59 72), (0, .nameAndType 73 70), (0, u "second"), (3, u "law"), (0, u "(IIIIII)Z")] 5

def k1m0 : Method := { name := "<init>", desc := "()V", sig := { parameters := [], returnType := none }, accessFlags := 1, code := none }
def k1c1 : Code := { maxStack := 2, maxLocals := 1, code := method_2_code, exceptionTable := #[], attributes := #[] }
def k1m1 : Method := { name := "pick", desc := "(I)Lcom/example/quillgraph/quillgraph/sparql/RegexProgram$Op;", sig := { parameters := [.int], returnType := some (.object "com/example/quillgraph/quillgraph/sparql/RegexProgram$Op") }, accessFlags := 10, code := some k1c1 }
def k1c2 : Code := { maxStack := 5, maxLocals := 19, code := code, exceptionTable := #[], attributes := #[] }
def k1m2 : Method := { name := "law", desc := "(IIIIII)Z", sig := { parameters := [.int, .int, .int, .int, .int, .int], returnType := some .boolean }, accessFlags := 9, code := some k1c2 }
/-- com/example/quillgraph/quillgraph/sparql/BuilderSetPinLaw -/
def k1 : Class := { plain "com/example/quillgraph/quillgraph/sparql/BuilderSetPinLaw" (some 0) with
  accessFlags := 49
  interfaces := #[]
  cf := some (fileOf pool1 35 #[] #[{ accessFlags := 1, nameIndex := 5, descriptorIndex := 6, attributes := #[] }, { accessFlags := 10, nameIndex := 38, descriptorIndex := 39, attributes := #[] }, { accessFlags := 9, nameIndex := 77, descriptorIndex := 78, attributes := #[] }] 49 2 #[] #[])
  fields := #[]
  methods := #[k1m0, k1m1, k1m2]
  instanceTypes := #[]
  staticTypes := #[]
  resolved := Array.replicate 84 none
  statics := none }

def pool2 : Array CpInfo := pool [(1, .class_ 2), (0, u "java/lang/constant/Constable"), (0, .class_ 4), (0, u "java/lang/Object")] 6

/-- java/lang/constant/Constable -/
def k2 : Class := { plain "java/lang/constant/Constable" (some 0) with
  accessFlags := 1537
  interfaces := #[]
  cf := some (fileOf pool2 1 #[] #[] 1537 3 #[] #[])
  fields := #[]
  methods := #[]
  instanceTypes := #[]
  staticTypes := #[]
  resolved := Array.replicate 11 none
  statics := none }

def pool3 : Array CpInfo := pool [(1, .class_ 2), (0, u "java/lang/Comparable"), (0, .class_ 4), (0, u "java/lang/Object")] 7

/-- java/lang/Comparable -/
def k3 : Class := { plain "java/lang/Comparable" (some 0) with
  accessFlags := 1537
  interfaces := #[]
  cf := some (fileOf pool3 1 #[] #[] 1537 3 #[] #[])
  fields := #[]
  methods := #[]
  instanceTypes := #[]
  staticTypes := #[]
  resolved := Array.replicate 12 none
  statics := none }

def pool4 : Array CpInfo := pool [(1, .class_ 2), (0, u "java/io/Serializable"), (0, .class_ 4), (0, u "java/lang/Object")] 2

/-- java/io/Serializable -/
def k4 : Class := { plain "java/io/Serializable" (some 0) with
  accessFlags := 1537
  interfaces := #[]
  cf := some (fileOf pool4 1 #[] #[] 1537 3 #[] #[])
  fields := #[]
  methods := #[]
  instanceTypes := #[]
  staticTypes := #[]
  resolved := Array.replicate 7 none
  statics := none }

def pool5 : Array CpInfo := pool [(2, .class_ 4), (1, u "java/lang/Enum"), (0, u "name"), (0, u "Ljava/lang/String;"), (2, u "ordinal"), (0, u "I"), (1, .class_ 14), (1, u "java/lang/Object"), (4, u "hash"), (86, .class_ 108), (1, u "java/lang/Enum$EnumDesc"), (2, .class_ 112), (0, u "java/lang/constant/Constable"), (0, .class_ 114), (0, u "java/lang/Comparable"), (0, .class_ 116), (0, u "java/io/Serializable")] 87

/-- java/lang/Enum -/
def k5 : Class := { plain "java/lang/Enum" (some 0) with
  accessFlags := 1057
  interfaces := #[2, 3, 4]
  cf := some (fileOf pool5 2 #[.nestMembers #[106]] #[] 1057 12 #[111, 113, 115] #[{ accessFlags := 18, nameIndex := 5, descriptorIndex := 6, attributes := #[] }, { accessFlags := 18, nameIndex := 9, descriptorIndex := 10, attributes := #[] }, { accessFlags := 2, nameIndex := 19, descriptorIndex := 10, attributes := #[] }])
  fields := #[{ name := "name", type := (.object "java/lang/String"), accessFlags := 18, slot := 0, constantValue := 0 }, { name := "ordinal", type := .int, accessFlags := 18, slot := 1, constantValue := 0 }, { name := "hash", type := .int, accessFlags := 2, slot := 2, constantValue := 0 }]
  methods := #[]
  instanceTypes := #[(.object "java/lang/String"), .int, .int]
  staticTypes := #[]
  resolved := Array.replicate 204 none
  statics := none }

def pool6 : Array CpInfo := pool [(1, .class_ 2), (0, u "com/example/quillgraph/quillgraph/sparql/RegexProgram$Op"), (2, u "CHARACTER"), (0, u "Lcom/example/quillgraph/quillgraph/sparql/RegexProgram$Op;"), (2, u "SPLIT"), (2, u "JUMP"), (2, u "TEXT_START"), (2, u "LINE_START"), (2, u "TEXT_END"), (2, u "LINE_END"), (2, u "SAVE"), (2, u "BACK_REFERENCE"), (2, u "MARK"), (2, u "PROGRESS"), (2, u "MATCH"), (2, u "NOTHING"), (2, u "$VALUES"), (0, u "[Lcom/example/quillgraph/quillgraph/sparql/RegexProgram$Op;"), (6, .class_ 55), (1, u "java/lang/Enum"), (36, .class_ 93), (0, u "com/example/quillgraph/quillgraph/sparql/RegexProgram")] 2

/-- com/example/quillgraph/quillgraph/sparql/RegexProgram$Op -/
def k6 : Class := { plain "com/example/quillgraph/quillgraph/sparql/RegexProgram$Op" (some 5) with
  accessFlags := 16432
  interfaces := #[]
  cf := some (fileOf pool6 1 #[.nestHost 92] #[] 16432 53 #[] #[{ accessFlags := 16409, nameIndex := 5, descriptorIndex := 6, attributes := #[] }, { accessFlags := 16409, nameIndex := 9, descriptorIndex := 6, attributes := #[] }, { accessFlags := 16409, nameIndex := 12, descriptorIndex := 6, attributes := #[] }, { accessFlags := 16409, nameIndex := 15, descriptorIndex := 6, attributes := #[] }, { accessFlags := 16409, nameIndex := 18, descriptorIndex := 6, attributes := #[] }, { accessFlags := 16409, nameIndex := 21, descriptorIndex := 6, attributes := #[] }, { accessFlags := 16409, nameIndex := 24, descriptorIndex := 6, attributes := #[] }, { accessFlags := 16409, nameIndex := 27, descriptorIndex := 6, attributes := #[] }, { accessFlags := 16409, nameIndex := 30, descriptorIndex := 6, attributes := #[] }, { accessFlags := 16409, nameIndex := 33, descriptorIndex := 6, attributes := #[] }, { accessFlags := 16409, nameIndex := 36, descriptorIndex := 6, attributes := #[] }, { accessFlags := 16409, nameIndex := 39, descriptorIndex := 6, attributes := #[] }, { accessFlags := 16409, nameIndex := 42, descriptorIndex := 6, attributes := #[] }, { accessFlags := 4122, nameIndex := 45, descriptorIndex := 46, attributes := #[] }])
  fields := #[{ name := "CHARACTER", type := (.object "com/example/quillgraph/quillgraph/sparql/RegexProgram$Op"), accessFlags := 16409, slot := 0, constantValue := 0 }, { name := "SPLIT", type := (.object "com/example/quillgraph/quillgraph/sparql/RegexProgram$Op"), accessFlags := 16409, slot := 1, constantValue := 0 }, { name := "JUMP", type := (.object "com/example/quillgraph/quillgraph/sparql/RegexProgram$Op"), accessFlags := 16409, slot := 2, constantValue := 0 }, { name := "TEXT_START", type := (.object "com/example/quillgraph/quillgraph/sparql/RegexProgram$Op"), accessFlags := 16409, slot := 3, constantValue := 0 }, { name := "LINE_START", type := (.object "com/example/quillgraph/quillgraph/sparql/RegexProgram$Op"), accessFlags := 16409, slot := 4, constantValue := 0 }, { name := "TEXT_END", type := (.object "com/example/quillgraph/quillgraph/sparql/RegexProgram$Op"), accessFlags := 16409, slot := 5, constantValue := 0 }, { name := "LINE_END", type := (.object "com/example/quillgraph/quillgraph/sparql/RegexProgram$Op"), accessFlags := 16409, slot := 6, constantValue := 0 }, { name := "SAVE", type := (.object "com/example/quillgraph/quillgraph/sparql/RegexProgram$Op"), accessFlags := 16409, slot := 7, constantValue := 0 }, { name := "BACK_REFERENCE", type := (.object "com/example/quillgraph/quillgraph/sparql/RegexProgram$Op"), accessFlags := 16409, slot := 8, constantValue := 0 }, { name := "MARK", type := (.object "com/example/quillgraph/quillgraph/sparql/RegexProgram$Op"), accessFlags := 16409, slot := 9, constantValue := 0 }, { name := "PROGRESS", type := (.object "com/example/quillgraph/quillgraph/sparql/RegexProgram$Op"), accessFlags := 16409, slot := 10, constantValue := 0 }, { name := "MATCH", type := (.object "com/example/quillgraph/quillgraph/sparql/RegexProgram$Op"), accessFlags := 16409, slot := 11, constantValue := 0 }, { name := "NOTHING", type := (.object "com/example/quillgraph/quillgraph/sparql/RegexProgram$Op"), accessFlags := 16409, slot := 12, constantValue := 0 }, { name := "$VALUES", type := (.array (.object "com/example/quillgraph/quillgraph/sparql/RegexProgram$Op")), accessFlags := 4122, slot := 13, constantValue := 0 }]
  methods := #[]
  instanceTypes := #[(.object "java/lang/String"), .int, .int]
  staticTypes := #[(.object "com/example/quillgraph/quillgraph/sparql/RegexProgram$Op"), (.object "com/example/quillgraph/quillgraph/sparql/RegexProgram$Op"), (.object "com/example/quillgraph/quillgraph/sparql/RegexProgram$Op"), (.object "com/example/quillgraph/quillgraph/sparql/RegexProgram$Op"), (.object "com/example/quillgraph/quillgraph/sparql/RegexProgram$Op"), (.object "com/example/quillgraph/quillgraph/sparql/RegexProgram$Op"), (.object "com/example/quillgraph/quillgraph/sparql/RegexProgram$Op"), (.object "com/example/quillgraph/quillgraph/sparql/RegexProgram$Op"), (.object "com/example/quillgraph/quillgraph/sparql/RegexProgram$Op"), (.object "com/example/quillgraph/quillgraph/sparql/RegexProgram$Op"), (.object "com/example/quillgraph/quillgraph/sparql/RegexProgram$Op"), (.object "com/example/quillgraph/quillgraph/sparql/RegexProgram$Op"), (.object "com/example/quillgraph/quillgraph/sparql/RegexProgram$Op"), (.array (.object "com/example/quillgraph/quillgraph/sparql/RegexProgram$Op"))]
  resolved := Array.replicate 96 none
  statics := some 0 }

def pool7 : Array CpInfo := pool [(1, .methodref 2 3), (0, .class_ 4), (0, .nameAndType 5 6), (0, u "java/lang/Object"), (0, u "<init>"), (0, u "()V"), (0, .class_ 8), (0, u "com/example/quillgraph/quillgraph/sparql/RegexProgram$Op"), (0, .fieldref 10 11), (0, .class_ 12), (0, .nameAndType 13 14), (0, u "com/example/quillgraph/quillgraph/sparql/RegexProgram$Builder"), (0, u "ops"), (0, u "[Lcom/example/quillgraph/quillgraph/sparql/RegexProgram$Op;"), (0, .fieldref 10 16), (0, .nameAndType 17 18), (0, u "first"), (0, u "[I"), (0, .fieldref 10 20), (0, .nameAndType 21 18), (0, u "second"), (0, .class_ 23), (0, u "java/util/ArrayList"), (0, .methodref 22 3), (0, .fieldref 10 26), (0, .nameAndType 27 28), (0, u "classes"), (0, u "Ljava/util/List;"), (0, .fieldref 10 30), (0, .nameAndType 31 32), (0, u "limit"), (0, u "I"), (0, .fieldref 10 34), (0, .nameAndType 35 32), (0, u "size"), (0, .methodref 10 37), (0, .nameAndType 38 39), (0, u "reserve"), (0, u "(J)V"), (1, .class_ 43), (1, u "java/util/List"), (0, u "add"), (4, u "Lcom/example/quillgraph/quillgraph/sparql/RegexProgram$Op;"), (3, .methodref 10 54), (0, .nameAndType 44 55), (0, u "(Lcom/example/quillgraph/quillgraph/sparql/RegexProgram$Op;II)I"), (0, .fieldref 10 57), (0, .nameAndType 58 32), (0, u "registers"), (0, .methodref 10 60), (0, .nameAndType 61 62), (0, u "isJump"), (0, u "(Lcom/example/quillgraph/quillgraph/sparql/RegexProgram$Op;)Z"), (0, .fieldref 7 64), (0, .nameAndType 65 49), (0, u "SPLIT"), (9, .long 2), (20, .fieldref 7 97), (0, .nameAndType 98 49), (0, u "MATCH"), (0, .fieldref 7 100), (0, .nameAndType 101 49), (0, u "BACK_REFERENCE"), (0, .methodref 10 103), (0, .nameAndType 104 105), (0, u "isDropped"), (0, u "(Lcom/example/quillgraph/quillgraph/sparql/RegexProgram$Op;Z)Z"), (0, .class_ 107), (0, u "com/example/quillgraph/quillgraph/sparql/RegexProgram"), (0, .class_ 109), (0, u "com/example/quillgraph/quillgraph/sparql/CodePointSet"), (0, .interfaceMethodref 41 111), (0, .nameAndType 112 113), (0, u "toArray"), (0, u "([Ljava/lang/Object;)[Ljava/lang/Object;"), (0, .class_ 115), (0, u "[Lcom/example/quillgraph/quillgraph/sparql/CodePointSet;"), (0, .methodref 106 117), (0, .nameAndType 5 118), (0, u "([Lcom/example/quillgraph/quillgraph/sparql/RegexProgram$Op;[I[I[Lcom/example/quillgraph/quillgraph/sparql/CodePointSet;IZ)V"), (0, .fieldref 7 120), (0, .nameAndType 121 49), (0, u "JUMP"), (0, .fieldref 7 123), (0, .nameAndType 124 49), (0, u "NOTHING"), (0, .fieldref 7 126), (0, .nameAndType 127 49), (0, u "SAVE"), (0, .fieldref 7 129), (0, .nameAndType 130 49), (0, u "MARK"), (0, .fieldref 7 132), (0, .nameAndType 133 49), (0, u "PROGRESS"), (2, u "(I)V"), (4, u "set"), (0, u "(ILcom/example/quillgraph/quillgraph/sparql/RegexProgram$Op;II)V"), (6, u "build"), (0, u "()Lcom/example/quillgraph/quillgraph/sparql/RegexProgram;")] 20

def k7c0 : Code := { maxStack := 3, maxLocals := 2, code := prog_117_method_1_code, exceptionTable := #[], attributes := #[] }
def k7m0 : Method := { name := "<init>", desc := "(I)V", sig := { parameters := [.int], returnType := none }, accessFlags := 0, code := some k7c0 }
def k7c1 : Code := { maxStack := 4, maxLocals := 4, code := prog_117_method_3_code, exceptionTable := #[], attributes := #[] }
def k7m1 : Method := { name := "add", desc := "(Lcom/example/quillgraph/quillgraph/sparql/RegexProgram$Op;II)I", sig := { parameters := [(.object "com/example/quillgraph/quillgraph/sparql/RegexProgram$Op"), .int, .int], returnType := some .int }, accessFlags := 0, code := some k7c1 }
def k7c2 : Code := { maxStack := 3, maxLocals := 5, code := prog_117_method_5_code, exceptionTable := #[], attributes := #[] }
def k7m2 : Method := { name := "set", desc := "(ILcom/example/quillgraph/quillgraph/sparql/RegexProgram$Op;II)V", sig := { parameters := [.int, (.object "com/example/quillgraph/quillgraph/sparql/RegexProgram$Op"), .int, .int], returnType := none }, accessFlags := 0, code := some k7c2 }
def k7c3 : Code := { maxStack := 8, maxLocals := 4, code := prog_117_method_9_code, exceptionTable := #[], attributes := #[] }
def k7m3 : Method := { name := "reserve", desc := "(J)V", sig := { parameters := [.long], returnType := none }, accessFlags := 0, code := some k7c3 }
def k7c4 : Code := { maxStack := 8, maxLocals := 9, code := prog_117_method_10_code, exceptionTable := #[], attributes := #[] }
def k7m4 : Method := { name := "build", desc := "()Lcom/example/quillgraph/quillgraph/sparql/RegexProgram;", sig := { parameters := [], returnType := some (.object "com/example/quillgraph/quillgraph/sparql/RegexProgram") }, accessFlags := 0, code := some k7c4 }
def k7c5 : Code := { maxStack := 2, maxLocals := 1, code := prog_117_method_11_code, exceptionTable := #[], attributes := #[] }
def k7m5 : Method := { name := "isJump", desc := "(Lcom/example/quillgraph/quillgraph/sparql/RegexProgram$Op;)Z", sig := { parameters := [(.object "com/example/quillgraph/quillgraph/sparql/RegexProgram$Op")], returnType := some .boolean }, accessFlags := 10, code := some k7c5 }
def k7c6 : Code := { maxStack := 2, maxLocals := 2, code := prog_117_method_12_code, exceptionTable := #[], attributes := #[] }
def k7m6 : Method := { name := "isDropped", desc := "(Lcom/example/quillgraph/quillgraph/sparql/RegexProgram$Op;Z)Z", sig := { parameters := [(.object "com/example/quillgraph/quillgraph/sparql/RegexProgram$Op"), .boolean], returnType := some .boolean }, accessFlags := 10, code := some k7c6 }
/-- com/example/quillgraph/quillgraph/sparql/RegexProgram$Builder -/
def k7 : Class := { plain "com/example/quillgraph/quillgraph/sparql/RegexProgram$Builder" (some 0) with
  accessFlags := 48
  interfaces := #[]
  cf := some (fileOf pool7 10 #[.nestHost 106] #[{ accessFlags := 0, nameIndex := 5, descriptorIndex := 136, attributes := #[] }, { accessFlags := 0, nameIndex := 44, descriptorIndex := 55, attributes := #[] }, { accessFlags := 0, nameIndex := 141, descriptorIndex := 142, attributes := #[] }, { accessFlags := 0, nameIndex := 38, descriptorIndex := 39, attributes := #[] }, { accessFlags := 0, nameIndex := 149, descriptorIndex := 150, attributes := #[] }, { accessFlags := 10, nameIndex := 61, descriptorIndex := 62, attributes := #[] }, { accessFlags := 10, nameIndex := 104, descriptorIndex := 105, attributes := #[] }] 48 2 #[] #[{ accessFlags := 18, nameIndex := 31, descriptorIndex := 32, attributes := #[] }, { accessFlags := 2, nameIndex := 13, descriptorIndex := 14, attributes := #[] }, { accessFlags := 2, nameIndex := 17, descriptorIndex := 18, attributes := #[] }, { accessFlags := 2, nameIndex := 21, descriptorIndex := 18, attributes := #[] }, { accessFlags := 2, nameIndex := 35, descriptorIndex := 32, attributes := #[] }, { accessFlags := 18, nameIndex := 27, descriptorIndex := 28, attributes := #[] }, { accessFlags := 2, nameIndex := 58, descriptorIndex := 32, attributes := #[] }])
  fields := #[{ name := "limit", type := .int, accessFlags := 18, slot := 0, constantValue := 0 }, { name := "ops", type := (.array (.object "com/example/quillgraph/quillgraph/sparql/RegexProgram$Op")), accessFlags := 2, slot := 1, constantValue := 0 }, { name := "first", type := (.array .int), accessFlags := 2, slot := 2, constantValue := 0 }, { name := "second", type := (.array .int), accessFlags := 2, slot := 3, constantValue := 0 }, { name := "size", type := .int, accessFlags := 2, slot := 4, constantValue := 0 }, { name := "classes", type := (.object "java/util/List"), accessFlags := 18, slot := 5, constantValue := 0 }, { name := "registers", type := .int, accessFlags := 2, slot := 6, constantValue := 0 }]
  methods := #[k7m0, k7m1, k7m2, k7m3, k7m4, k7m5, k7m6]
  instanceTypes := #[.int, (.array (.object "com/example/quillgraph/quillgraph/sparql/RegexProgram$Op")), (.array .int), (.array .int), .int, (.object "java/util/List"), .int]
  staticTypes := #[]
  resolved := Array.replicate 171 none
  statics := none }

def pool8 : Array CpInfo := pool [(8, .class_ 10), (1, u "java/lang/Iterable"), (24, .class_ 36), (0, u "java/lang/Object")] 25

/-- java/lang/Iterable -/
def k8 : Class := { plain "java/lang/Iterable" (some 0) with
  accessFlags := 1537
  interfaces := #[]
  cf := some (fileOf pool8 8 #[] #[] 1537 35 #[] #[])
  fields := #[]
  methods := #[]
  instanceTypes := #[]
  staticTypes := #[]
  resolved := Array.replicate 62 none
  statics := none }

def pool9 : Array CpInfo := pool [(10, .class_ 12), (1, u "java/util/Collection"), (47, .class_ 61), (0, u "java/lang/Object"), (0, .class_ 63), (0, u "java/lang/Iterable")] 51

/-- java/util/Collection -/
def k9 : Class := { plain "java/util/Collection" (some 0) with
  accessFlags := 1537
  interfaces := #[8]
  cf := some (fileOf pool9 10 #[] #[] 1537 60 #[62] #[])
  fields := #[]
  methods := #[]
  instanceTypes := #[]
  staticTypes := #[]
  resolved := Array.replicate 115 none
  statics := none }

def pool10 : Array CpInfo := pool [(1, .methodref 2 3), (0, .class_ 4), (0, .nameAndType 5 6), (0, u "java/lang/Object"), (0, u "<init>"), (0, u "()V"), (1, .class_ 10), (1, u "java/util/AbstractCollection"), (66, .class_ 78), (0, u "java/util/Collection")] 81

def k10c0 : Code := { maxStack := 1, maxLocals := 1, code := jdk_22_method_1_code, exceptionTable := #[], attributes := #[] }
def k10m0 : Method := { name := "<init>", desc := "()V", sig := { parameters := [], returnType := none }, accessFlags := 4, code := some k10c0 }
/-- java/util/AbstractCollection -/
def k10 : Class := { plain "java/util/AbstractCollection" (some 0) with
  accessFlags := 1057
  interfaces := #[9]
  cf := some (fileOf pool10 8 #[] #[{ accessFlags := 4, nameIndex := 5, descriptorIndex := 6, attributes := #[] }] 1057 2 #[77] #[])
  fields := #[]
  methods := #[k10m0]
  instanceTypes := #[]
  staticTypes := #[]
  resolved := Array.replicate 160 none
  statics := none }

def pool11 : Array CpInfo := pool [(8, .class_ 10), (1, u "java/util/SequencedCollection"), (15, .class_ 27), (0, u "java/lang/Object"), (0, .class_ 29), (0, u "java/util/Collection")] 27

/-- java/util/SequencedCollection -/
def k11 : Class := { plain "java/util/SequencedCollection" (some 0) with
  accessFlags := 1537
  interfaces := #[9]
  cf := some (fileOf pool11 8 #[] #[] 1537 26 #[28] #[])
  fields := #[]
  methods := #[]
  instanceTypes := #[]
  staticTypes := #[]
  resolved := Array.replicate 57 none
  statics := none }

def pool12 : Array CpInfo := pool [(8, .class_ 10), (1, u "java/util/List"), (23, u "toArray"), (68, .class_ 104), (0, u "java/lang/Object"), (15, .class_ 121), (0, u "java/util/SequencedCollection"), (5, u "([Ljava/lang/Object;)[Ljava/lang/Object;")] 123

def k12m0 : Method := { name := "toArray", desc := "([Ljava/lang/Object;)[Ljava/lang/Object;", sig := { parameters := [(.array (.object "java/lang/Object"))], returnType := some (.array (.object "java/lang/Object")) }, accessFlags := 1025, code := none }
/-- java/util/List -/
def k12 : Class := { plain "java/util/List" (some 0) with
  accessFlags := 1537
  interfaces := #[11]
  cf := some (fileOf pool12 8 #[] #[{ accessFlags := 1025, nameIndex := 34, descriptorIndex := 127, attributes := #[] }] 1537 103 #[120] #[])
  fields := #[]
  methods := #[k12m0]
  instanceTypes := #[]
  staticTypes := #[]
  resolved := Array.replicate 251 none
  statics := none }

def pool13 : Array CpInfo := pool [(1, .methodref 2 3), (0, .class_ 4), (0, .nameAndType 5 6), (0, u "java/util/AbstractCollection"), (0, u "<init>"), (0, u "()V"), (0, .fieldref 8 9), (0, .class_ 10), (0, .nameAndType 11 12), (0, u "java/util/AbstractList"), (0, u "modCount"), (0, u "I"), (64, .class_ 78), (0, u "java/util/AbstractList$Itr"), (3, .class_ 83), (0, u "java/util/AbstractList$ListItr"), (9, .class_ 94), (0, u "java/util/AbstractList$RandomAccessSubList"), (3, .class_ 99), (0, u "java/util/AbstractList$SubList"), (33, .class_ 134), (0, u "java/util/List"), (73, .class_ 209), (0, u "java/util/AbstractList$SubList$1"), (0, .class_ 211), (0, u "java/util/AbstractList$RandomAccessSpliterator")] 6

def k13c0 : Code := { maxStack := 2, maxLocals := 1, code := jdk_39_method_1_code, exceptionTable := #[], attributes := #[] }
def k13m0 : Method := { name := "<init>", desc := "()V", sig := { parameters := [], returnType := none }, accessFlags := 4, code := some k13c0 }
/-- java/util/AbstractList -/
def k13 : Class := { plain "java/util/AbstractList" (some 10) with
  accessFlags := 1057
  interfaces := #[12]
  cf := some (fileOf pool13 8 #[.nestMembers #[93, 98, 208, 210, 82, 77]] #[{ accessFlags := 4, nameIndex := 5, descriptorIndex := 6, attributes := #[] }] 1057 2 #[133] #[{ accessFlags := 132, nameIndex := 11, descriptorIndex := 12, attributes := #[] }])
  fields := #[{ name := "modCount", type := .int, accessFlags := 132, slot := 0, constantValue := 0 }]
  methods := #[k13m0]
  instanceTypes := #[.int]
  staticTypes := #[]
  resolved := Array.replicate 218 none
  statics := none }

def pool14 : Array CpInfo := pool [(1, .class_ 2), (0, u "java/util/RandomAccess"), (0, .class_ 4), (0, u "java/lang/Object")] 2

/-- java/util/RandomAccess -/
def k14 : Class := { plain "java/util/RandomAccess" (some 0) with
  accessFlags := 1537
  interfaces := #[]
  cf := some (fileOf pool14 1 #[] #[] 1537 3 #[] #[])
  fields := #[]
  methods := #[]
  instanceTypes := #[]
  staticTypes := #[]
  resolved := Array.replicate 7 none
  statics := none }

def pool15 : Array CpInfo := pool [(1, .class_ 2), (0, u "java/lang/Cloneable"), (0, .class_ 4), (0, u "java/lang/Object")] 2

/-- java/lang/Cloneable -/
def k15 : Class := { plain "java/lang/Cloneable" (some 0) with
  accessFlags := 1537
  interfaces := #[]
  cf := some (fileOf pool15 1 #[] #[] 1537 3 #[] #[])
  fields := #[]
  methods := #[]
  instanceTypes := #[]
  staticTypes := #[]
  resolved := Array.replicate 7 none
  statics := none }

def pool16 : Array CpInfo := pool [(1, .methodref 2 3), (0, .class_ 4), (0, .nameAndType 5 6), (0, u "java/util/AbstractList"), (0, u "<init>"), (0, u "()V"), (2, .fieldref 10 11), (0, .class_ 12), (0, .nameAndType 13 14), (0, u "java/util/ArrayList"), (0, u "elementData"), (0, u "[Ljava/lang/Object;"), (2, u "EMPTY_ELEMENTDATA"), (21, .fieldref 10 40), (0, .nameAndType 41 14), (0, u "DEFAULTCAPACITY_EMPTY_ELEMENTDATA"), (4, u "toArray"), (1, .fieldref 10 49), (0, .nameAndType 50 51), (0, u "size"), (0, u "I"), (60, .methodref 113 114), (0, .class_ 115), (0, .nameAndType 116 117), (0, u "java/lang/System"), (0, u "arraycopy"), (0, u "(Ljava/lang/Object;ILjava/lang/Object;II)V"), (30, .class_ 149), (0, u "java/util/List"), (112, .class_ 263), (0, u "java/util/ArrayList$ListItr"), (3, .class_ 268), (0, u "java/util/ArrayList$Itr"), (7, .class_ 277), (0, u "java/util/ArrayList$SubList"), (12, .class_ 291), (0, u "java/util/ArrayList$ArrayListSpliterator"), (37, .class_ 330), (0, u "java/util/RandomAccess"), (0, .class_ 332), (0, u "java/lang/Cloneable"), (0, .class_ 334), (0, u "java/io/Serializable"), (0, u "serialVersionUID"), (0, u "J"), (3, u "DEFAULT_CAPACITY"), (34, u "([Ljava/lang/Object;)[Ljava/lang/Object;"), (124, .class_ 501), (0, u "java/util/ArrayList$SubList$2"), (0, .class_ 503), (0, u "java/util/ArrayList$SubList$1")] 5

def k16c0 : Code := { maxStack := 2, maxLocals := 1, code := jdk_38_method_2_code, exceptionTable := #[], attributes := #[] }
def k16m0 : Method := { name := "<init>", desc := "()V", sig := { parameters := [], returnType := none }, accessFlags := 1, code := some k16c0 }
def k16c1 : Code := { maxStack := 5, maxLocals := 2, code := jdk_38_method_17_code, exceptionTable := #[], attributes := #[] }
def k16m1 : Method := { name := "toArray", desc := "([Ljava/lang/Object;)[Ljava/lang/Object;", sig := { parameters := [(.array (.object "java/lang/Object"))], returnType := some (.array (.object "java/lang/Object")) }, accessFlags := 1, code := some k16c1 }
/-- java/util/ArrayList -/
def k16 : Class := { plain "java/util/ArrayList" (some 13) with
  accessFlags := 33
  interfaces := #[12, 14, 15, 4]
  cf := some (fileOf pool16 10 #[.nestMembers #[290, 276, 500, 502, 262, 267]] #[{ accessFlags := 1, nameIndex := 5, descriptorIndex := 6, attributes := #[] }, { accessFlags := 1, nameIndex := 46, descriptorIndex := 375, attributes := #[] }] 33 2 #[148, 329, 331, 333] #[{ accessFlags := 26, nameIndex := 335, descriptorIndex := 336, attributes := #[] }, { accessFlags := 26, nameIndex := 340, descriptorIndex := 51, attributes := #[] }, { accessFlags := 26, nameIndex := 17, descriptorIndex := 14, attributes := #[] }, { accessFlags := 26, nameIndex := 41, descriptorIndex := 14, attributes := #[] }, { accessFlags := 128, nameIndex := 13, descriptorIndex := 14, attributes := #[] }, { accessFlags := 2, nameIndex := 50, descriptorIndex := 51, attributes := #[] }])
  fields := #[{ name := "serialVersionUID", type := .long, accessFlags := 26, slot := 0, constantValue := 0 }, { name := "DEFAULT_CAPACITY", type := .int, accessFlags := 26, slot := 1, constantValue := 0 }, { name := "EMPTY_ELEMENTDATA", type := (.array (.object "java/lang/Object")), accessFlags := 26, slot := 2, constantValue := 0 }, { name := "DEFAULTCAPACITY_EMPTY_ELEMENTDATA", type := (.array (.object "java/lang/Object")), accessFlags := 26, slot := 3, constantValue := 0 }, { name := "elementData", type := (.array (.object "java/lang/Object")), accessFlags := 128, slot := 1, constantValue := 0 }, { name := "size", type := .int, accessFlags := 2, slot := 2, constantValue := 0 }]
  methods := #[k16m0, k16m1]
  instanceTypes := #[.int, (.array (.object "java/lang/Object")), .int]
  staticTypes := #[.long, .int, (.array (.object "java/lang/Object")), (.array (.object "java/lang/Object"))]
  resolved := Array.replicate 509 none
  statics := some 1 }

def pool17 : Array CpInfo := pool [(1, .methodref 2 3), (0, .class_ 4), (0, .nameAndType 5 6), (0, u "java/lang/Object"), (0, u "<init>"), (0, u "()V"), (0, .fieldref 8 9), (0, .class_ 10), (0, .nameAndType 11 12), (0, u "com/example/quillgraph/quillgraph/sparql/RegexProgram"), (0, u "ops"), (0, u "[Lcom/example/quillgraph/quillgraph/sparql/RegexProgram$Op;"), (0, .fieldref 8 14), (0, .nameAndType 15 16), (0, u "first"), (0, u "[I"), (0, .fieldref 8 18), (0, .nameAndType 19 16), (0, u "second"), (0, .fieldref 8 21), (0, .nameAndType 22 23), (0, u "classes"), (0, u "[Lcom/example/quillgraph/quillgraph/sparql/CodePointSet;"), (0, .fieldref 8 25), (0, .nameAndType 26 27), (0, u "registers"), (0, u "I"), (0, .fieldref 8 29), (0, .nameAndType 30 31), (0, u "backReferences"), (0, u "Z"), (6, u "([Lcom/example/quillgraph/quillgraph/sparql/RegexProgram$Op;[I[I[Lcom/example/quillgraph/quillgraph/sparql/CodePointSet;IZ)V"), (2, u "size"), (0, u "()I"), (0, u "op"), (0, u "(I)Lcom/example/quillgraph/quillgraph/sparql/RegexProgram$Op;"), (0, u "(I)I"), (7, .class_ 54), (0, u "com/example/quillgraph/quillgraph/sparql/RegexProgram$Builder"), (0, .class_ 56), (0, u "com/example/quillgraph/quillgraph/sparql/RegexProgram$Op")] 3

def k17c0 : Code := { maxStack := 2, maxLocals := 7, code := prog_116_method_1_code, exceptionTable := #[], attributes := #[] }
def k17m0 : Method := { name := "<init>", desc := "([Lcom/example/quillgraph/quillgraph/sparql/RegexProgram$Op;[I[I[Lcom/example/quillgraph/quillgraph/sparql/CodePointSet;IZ)V", sig := { parameters := [(.array (.object "com/example/quillgraph/quillgraph/sparql/RegexProgram$Op")), (.array .int), (.array .int), (.array (.object "com/example/quillgraph/quillgraph/sparql/CodePointSet")), .int, .boolean], returnType := none }, accessFlags := 2, code := some k17c0 }
def k17c1 : Code := { maxStack := 1, maxLocals := 1, code := prog_116_method_2_code, exceptionTable := #[], attributes := #[] }
def k17m1 : Method := { name := "size", desc := "()I", sig := { parameters := [], returnType := some .int }, accessFlags := 0, code := some k17c1 }
def k17c2 : Code := { maxStack := 2, maxLocals := 2, code := prog_116_method_3_code, exceptionTable := #[], attributes := #[] }
def k17m2 : Method := { name := "op", desc := "(I)Lcom/example/quillgraph/quillgraph/sparql/RegexProgram$Op;", sig := { parameters := [.int], returnType := some (.object "com/example/quillgraph/quillgraph/sparql/RegexProgram$Op") }, accessFlags := 0, code := some k17c2 }
def k17c3 : Code := { maxStack := 2, maxLocals := 2, code := prog_116_method_4_code, exceptionTable := #[], attributes := #[] }
def k17m3 : Method := { name := "first", desc := "(I)I", sig := { parameters := [.int], returnType := some .int }, accessFlags := 0, code := some k17c3 }
def k17c4 : Code := { maxStack := 2, maxLocals := 2, code := prog_116_method_5_code, exceptionTable := #[], attributes := #[] }
def k17m4 : Method := { name := "second", desc := "(I)I", sig := { parameters := [.int], returnType := some .int }, accessFlags := 0, code := some k17c4 }
/-- com/example/quillgraph/quillgraph/sparql/RegexProgram -/
def k17 : Class := { plain "com/example/quillgraph/quillgraph/sparql/RegexProgram" (some 0) with
  accessFlags := 48
  interfaces := #[]
  cf := some (fileOf pool17 8 #[.nestMembers #[53, 55]] #[{ accessFlags := 2, nameIndex := 5, descriptorIndex := 38, attributes := #[] }, { accessFlags := 0, nameIndex := 41, descriptorIndex := 42, attributes := #[] }, { accessFlags := 0, nameIndex := 43, descriptorIndex := 44, attributes := #[] }, { accessFlags := 0, nameIndex := 15, descriptorIndex := 45, attributes := #[] }, { accessFlags := 0, nameIndex := 19, descriptorIndex := 45, attributes := #[] }] 48 2 #[] #[{ accessFlags := 18, nameIndex := 11, descriptorIndex := 12, attributes := #[] }, { accessFlags := 18, nameIndex := 15, descriptorIndex := 16, attributes := #[] }, { accessFlags := 18, nameIndex := 19, descriptorIndex := 16, attributes := #[] }, { accessFlags := 18, nameIndex := 22, descriptorIndex := 23, attributes := #[] }, { accessFlags := 18, nameIndex := 26, descriptorIndex := 27, attributes := #[] }, { accessFlags := 18, nameIndex := 30, descriptorIndex := 31, attributes := #[] }])
  fields := #[{ name := "ops", type := (.array (.object "com/example/quillgraph/quillgraph/sparql/RegexProgram$Op")), accessFlags := 18, slot := 0, constantValue := 0 }, { name := "first", type := (.array .int), accessFlags := 18, slot := 1, constantValue := 0 }, { name := "second", type := (.array .int), accessFlags := 18, slot := 2, constantValue := 0 }, { name := "classes", type := (.array (.object "com/example/quillgraph/quillgraph/sparql/CodePointSet")), accessFlags := 18, slot := 3, constantValue := 0 }, { name := "registers", type := .int, accessFlags := 18, slot := 4, constantValue := 0 }, { name := "backReferences", type := .boolean, accessFlags := 18, slot := 5, constantValue := 0 }]
  methods := #[k17m0, k17m1, k17m2, k17m3, k17m4]
  instanceTypes := #[(.array (.object "com/example/quillgraph/quillgraph/sparql/RegexProgram$Op")), (.array .int), (.array .int), (.array (.object "com/example/quillgraph/quillgraph/sparql/CodePointSet")), .int, .boolean]
  staticTypes := #[]
  resolved := Array.replicate 60 none
  statics := none }

def pool18 : Array CpInfo := pool [(4, .class_ 6), (1, u "java/lang/Object"), (3, .class_ 12), (1, u "com/example/quillgraph/quillgraph/sparql/CodePointSet"), (0, u "ranges"), (0, u "[I"), (2, u "byCategory"), (0, u "[[I"), (14, u "ALL"), (0, u "Lcom/example/quillgraph/quillgraph/sparql/CodePointSet;"), (2, u "NONE"), (141, u "CATEGORIES"), (0, u "I")] 64

/-- com/example/quillgraph/quillgraph/sparql/CodePointSet -/
def k18 : Class := { plain "com/example/quillgraph/quillgraph/sparql/CodePointSet" (some 0) with
  accessFlags := 48
  interfaces := #[]
  cf := some (fileOf pool18 10 #[] #[] 48 4 #[] #[{ accessFlags := 24, nameIndex := 37, descriptorIndex := 34, attributes := #[] }, { accessFlags := 24, nameIndex := 33, descriptorIndex := 34, attributes := #[] }, { accessFlags := 26, nameIndex := 179, descriptorIndex := 180, attributes := #[] }, { accessFlags := 18, nameIndex := 13, descriptorIndex := 14, attributes := #[] }, { accessFlags := 18, nameIndex := 17, descriptorIndex := 18, attributes := #[] }])
  fields := #[{ name := "NONE", type := (.object "com/example/quillgraph/quillgraph/sparql/CodePointSet"), accessFlags := 24, slot := 0, constantValue := 0 }, { name := "ALL", type := (.object "com/example/quillgraph/quillgraph/sparql/CodePointSet"), accessFlags := 24, slot := 1, constantValue := 0 }, { name := "CATEGORIES", type := .int, accessFlags := 26, slot := 2, constantValue := 0 }, { name := "ranges", type := (.array .int), accessFlags := 18, slot := 0, constantValue := 0 }, { name := "byCategory", type := (.array (.array .int)), accessFlags := 18, slot := 1, constantValue := 0 }]
  methods := #[]
  instanceTypes := #[(.array .int), (.array (.array .int))]
  staticTypes := #[(.object "com/example/quillgraph/quillgraph/sparql/CodePointSet"), (.object "com/example/quillgraph/quillgraph/sparql/CodePointSet"), .int]
  resolved := Array.replicate 245 none
  statics := none }

def pool19 : Array CpInfo := pool [(2, .class_ 4), (1, u "java/lang/Object"), (0, u "<init>"), (0, u "()V"), (1, .class_ 10), (1, u "java/lang/System"), (0, u "allowSecurityManager"), (0, u "I"), (16, u "cons"), (0, u "Ljava/io/Console;"), (77, .class_ 110), (1, u "java/lang/System$CallersHolder"), (43, u "initialErrStream"), (0, u "Ljava/io/PrintStream;"), (19, u "security"), (0, u "Ljava/lang/SecurityManager;"), (31, .class_ 209), (0, u "java/lang/System$1"), (7, u "props"), (0, u "Ljava/util/Properties;"), (2, u "lineSeparator"), (0, u "Ljava/lang/String;"), (96, .class_ 321), (1, u "java/lang/System$LoggerFinder"), (5, .class_ 328), (0, u "java/lang/System$Logger"), (67, u "err"), (2, u "out"), (91, u "notSupportedJnuEncoding"), (15, u "in"), (17, u "initialIn"), (0, u "Ljava/io/InputStream;"), (35, u "bootLayer"), (0, u "Ljava/lang/ModuleLayer;"), (99, .class_ 664), (0, u "java/lang/System$2"), (9, u "NEVER"), (2, u "MAYBE"), (49, u "arraycopy"), (0, u "(Ljava/lang/Object;ILjava/lang/Object;II)V"), (72, .class_ 802), (0, u "java/lang/System$Logger$Level")] 31

def k19m0 : Method := { name := "<init>", desc := "()V", sig := { parameters := [], returnType := none }, accessFlags := 2, code := none }
def k19m1 : Method := { name := "arraycopy", desc := "(Ljava/lang/Object;ILjava/lang/Object;II)V", sig := { parameters := [(.object "java/lang/Object"), .int, (.object "java/lang/Object"), .int, .int], returnType := none }, accessFlags := 265, code := none }
/-- java/lang/System -/
def k19 : Class := { plain "java/lang/System" (some 0) with
  accessFlags := 49
  interfaces := #[]
  cf := some (fileOf pool19 8 #[.nestMembers #[319, 327, 801, 108, 663, 208]] #[{ accessFlags := 2, nameIndex := 5, descriptorIndex := 6, attributes := #[] }, { accessFlags := 265, nameIndex := 727, descriptorIndex := 728, attributes := #[] }] 49 2 #[] #[{ accessFlags := 25, nameIndex := 507, descriptorIndex := 526, attributes := #[] }, { accessFlags := 25, nameIndex := 399, descriptorIndex := 155, attributes := #[] }, { accessFlags := 25, nameIndex := 396, descriptorIndex := 155, attributes := #[] }, { accessFlags := 10, nameIndex := 525, descriptorIndex := 526, attributes := #[] }, { accessFlags := 26, nameIndex := 674, descriptorIndex := 12, attributes := #[] }, { accessFlags := 26, nameIndex := 677, descriptorIndex := 12, attributes := #[] }, { accessFlags := 10, nameIndex := 11, descriptorIndex := 12, attributes := #[] }, { accessFlags := 74, nameIndex := 175, descriptorIndex := 176, attributes := #[] }, { accessFlags := 10, nameIndex := 491, descriptorIndex := 222, attributes := #[] }, { accessFlags := 74, nameIndex := 29, descriptorIndex := 30, attributes := #[] }, { accessFlags := 74, nameIndex := 154, descriptorIndex := 155, attributes := #[] }, { accessFlags := 10, nameIndex := 217, descriptorIndex := 218, attributes := #[] }, { accessFlags := 10, nameIndex := 221, descriptorIndex := 222, attributes := #[] }, { accessFlags := 8, nameIndex := 562, descriptorIndex := 563, attributes := #[] }])
  fields := #[{ name := "in", type := (.object "java/io/InputStream"), accessFlags := 25, slot := 0, constantValue := 0 }, { name := "out", type := (.object "java/io/PrintStream"), accessFlags := 25, slot := 1, constantValue := 0 }, { name := "err", type := (.object "java/io/PrintStream"), accessFlags := 25, slot := 2, constantValue := 0 }, { name := "initialIn", type := (.object "java/io/InputStream"), accessFlags := 10, slot := 3, constantValue := 0 }, { name := "NEVER", type := .int, accessFlags := 26, slot := 4, constantValue := 0 }, { name := "MAYBE", type := .int, accessFlags := 26, slot := 5, constantValue := 0 }, { name := "allowSecurityManager", type := .int, accessFlags := 10, slot := 6, constantValue := 0 }, { name := "security", type := (.object "java/lang/SecurityManager"), accessFlags := 74, slot := 7, constantValue := 0 }, { name := "notSupportedJnuEncoding", type := (.object "java/lang/String"), accessFlags := 10, slot := 8, constantValue := 0 }, { name := "cons", type := (.object "java/io/Console"), accessFlags := 74, slot := 9, constantValue := 0 }, { name := "initialErrStream", type := (.object "java/io/PrintStream"), accessFlags := 74, slot := 10, constantValue := 0 }, { name := "props", type := (.object "java/util/Properties"), accessFlags := 10, slot := 11, constantValue := 0 }, { name := "lineSeparator", type := (.object "java/lang/String"), accessFlags := 10, slot := 12, constantValue := 0 }, { name := "bootLayer", type := (.object "java/lang/ModuleLayer"), accessFlags := 8, slot := 13, constantValue := 0 }]
  methods := #[k19m0, k19m1]
  instanceTypes := #[]
  staticTypes := #[(.object "java/io/InputStream"), (.object "java/io/PrintStream"), (.object "java/io/PrintStream"), (.object "java/io/InputStream"), .int, .int, .int, (.object "java/lang/SecurityManager"), (.object "java/lang/String"), (.object "java/io/Console"), (.object "java/io/PrintStream"), (.object "java/util/Properties"), (.object "java/lang/String"), (.object "java/lang/ModuleLayer")]
  resolved := Array.replicate 834 none
  statics := none }

/-- the primitive byte -/
def k20 : Class := { plain "byte" none with kind := .primitive 'B', accessFlags := 0x411 }
/-- [B -/
def k21 : Class := { plain "[B" (some 0) with kind := .array 20 .byte, interfaces := #[15, 4], accessFlags := 1041 }

/-- the primitive int -/
def k22 : Class := { plain "int" none with kind := .primitive 'I', accessFlags := 0x411 }
/-- [I -/
def k23 : Class := { plain "[I" (some 0) with kind := .array 22 .int, interfaces := #[15, 4], accessFlags := 1041 }

/-- [Lcom/example/quillgraph/quillgraph/sparql/CodePointSet; -/
def k24 : Class := { plain "[Lcom/example/quillgraph/quillgraph/sparql/CodePointSet;" (some 0) with kind := .array 18 (.object "com/example/quillgraph/quillgraph/sparql/CodePointSet"), interfaces := #[15, 4], accessFlags := 1041 }

/-- [Lcom/example/quillgraph/quillgraph/sparql/RegexProgram$Op; -/
def k25 : Class := { plain "[Lcom/example/quillgraph/quillgraph/sparql/RegexProgram$Op;" (some 0) with kind := .array 6 (.object "com/example/quillgraph/quillgraph/sparql/RegexProgram$Op"), interfaces := #[15, 4], accessFlags := 1041 }

/-- [Ljava/lang/Object; -/
def k26 : Class := { plain "[Ljava/lang/Object;" (some 0) with kind := .array 0 (.object "java/lang/Object"), interfaces := #[15, 4], accessFlags := 1041 }

def heap : Heap := #[{ cls := 6, slots := #[.ref 13, .ref 3, .ref 4, .ref 2, .ref 12, .ref 14, .ref 5, .ref 9, .ref 7, .ref 10, .ref 11, .ref 6, .ref 8, .null], vm := .statics 6 },
  { cls := 16, slots := #[.long 0, .int 0, .ref 15, .ref 16], vm := .statics 16 },
  { cls := 6, slots := #[.null, .int 3, .int 0], vm := .none },
  { cls := 6, slots := #[.null, .int 1, .int 0], vm := .none },
  { cls := 6, slots := #[.null, .int 2, .int 0], vm := .none },
  { cls := 6, slots := #[.null, .int 6, .int 0], vm := .none },
  { cls := 6, slots := #[.null, .int 11, .int 0], vm := .none },
  { cls := 6, slots := #[.null, .int 8, .int 0], vm := .none },
  { cls := 6, slots := #[.null, .int 12, .int 0], vm := .none },
  { cls := 6, slots := #[.null, .int 7, .int 0], vm := .none },
  { cls := 6, slots := #[.null, .int 9, .int 0], vm := .none },
  { cls := 6, slots := #[.null, .int 10, .int 0], vm := .none },
  { cls := 6, slots := #[.null, .int 4, .int 0], vm := .none },
  { cls := 6, slots := #[.null, .int 0, .int 0], vm := .none },
  { cls := 6, slots := #[.null, .int 5, .int 0], vm := .none },
  { cls := 26, slots := #[], vm := .none },
  { cls := 26, slots := #[], vm := .none }]
def classes : Array Class := #[k0, k1, k2, k3, k4, k5, k6, k7, k8, k9, k10, k11, k12, k13, k14, k15, k16, k17, k18, k19, k20, k21, k22, k23, k24, k25, k26]
def interned : List (Array UInt16 × Addr) := []
def slotsUsed : Nat := 57
def theMethod : MethodId := ⟨1, 2⟩
def args0 : Array Value := #[.int 5, .int 6, .int 7, .int 8, .int 9, .int 10]
def aboutOver (below : List Frame) : State where
  vm := { classes := classes, interned := interned.toArray }
  heap := heap
  slotsUsed := slotsUsed
  threads := #[{ frames := .invoking theMethod args0 :: below }]
def below0 : List Frame := [.native { method := ⟨0, 0⟩, args := #[] }]
def about1 : State := aboutOver below0
def p0 : Program := .bare "" "" ""
def e0 : Env := launch0.env 0 0 0
theorem w_frames : about1.frames = Frame.invoking theMethod args0 :: below0 := rfl
set_option maxRecDepth 65536 in
theorem w_args : argsFit about1.vm theMethod args0 = true := by decide +kernel
set_option maxRecDepth 65536 in
theorem w_heap : heapFits about1 = true := by decide +kernel
set_option maxRecDepth 65536 in
theorem w_runnable : about1.curStatus? = some .runnable := by decide +kernel
set_option maxRecDepth 65536 in
theorem w_alone : about1.alone = true := by decide +kernel
set_option maxRecDepth 65536 in
theorem w_named : about1.methodNamed? x = some theMethod := by decide +kernel
set_option maxRecDepth 65536 in
theorem w_hears : about1.hears theMethod below0 = true := by decide +kernel
set_option maxRecDepth 65536 in
theorem w_ripe : about1.ripe theMethod args0 below0 = true := by decide +kernel
theorem w_running : about1.status = .running := rfl
set_option maxRecDepth 65536 in
theorem w_room : about1.hasRoom e0.platform room_1 = true :=
  launch0.hasRoom_least _ room_1 (by decide +kernel) (by decide +kernel) (by decide +kernel) (by decide +kernel) (by decide +kernel) (by decide +kernel)
theorem allAtoms_all (ts : List Jvm.Cond) (a : Array Jvm.Value) (st : Jvm.State) : (allAtoms ts).before a st = ts.all (fun c => c.before a st) := by
  induction ts with
  | nil => rfl
  | cons c t ih =>
    show (Jvm.Cond.and c (allAtoms t)).before a st = _
    rw [Jvm.Cond.before_and, ih, List.all_cons]
def words1 : List Jvm.Cond := Jvm.Cond.code x code maxLocals ret :: tables_1
/-- a 'code' word, met by the world's own term for the bytes: nothing is compared byte by byte -/
theorem code_word {y : MethodName} {bytes : ByteArray} {mx : Nat} {rt : Option FieldType} {a : Array Value} {s : State} {m : MethodId} {meth : Method} {c : Code} (h1 : s.methodNamed? y = some m) (h2 : s.vm.method? m = some meth) (h3 : meth.code = some c) (h4 : c.code = bytes)
    (h5 : (c.maxLocals == mx && c.exceptionTable.isEmpty && decide (c.maxStack ≤ mostOperands) && decide (meth.sig.returnType = rt) && !meth.locks && decide (parseMethodDescriptor y.desc = some meth.sig)) = true) : (Jvm.Cond.code y bytes mx rt).before a s = true := by
  simp only [Bool.and_eq_true, beq_iff_eq, Bool.not_eq_true', decide_eq_true_eq] at h5
  obtain ⟨⟨⟨⟨⟨g1, g2⟩, g3⟩, g4⟩, g5⟩, g6⟩ := h5
  simp [Cond.before, Cond.holds, Cond.value, h1, h2, h3, h4, g1, g2, g3, g4, g5, g6]
def isCode : Jvm.Cond → Bool
  | .code _ _ _ _ => true
  | _ => false
theorem all_split {L : List Jvm.Cond} {P : Jvm.Cond → Bool} (h1 : L.all (fun c => isCode c || P c) = true) (h2 : ∀ c ∈ L.filter isCode, P c = true) : L.all P = true := by
  refine List.all_eq_true.mpr fun c hc => ?_
  have h := List.all_eq_true.mp h1 c hc
  rcases Bool.eq_false_or_eq_true (isCode c) with hi | hi
  · exact h2 c (List.mem_filter.mpr ⟨hc, hi⟩)
  · simpa [hi] using h
set_option maxRecDepth 65536 in
theorem w_c0 : (Jvm.Cond.code x code maxLocals ret).before args0 about1 = true := code_word (m := ⟨1, 2⟩) (meth := k1m2) (c := k1c2) (by decide +kernel) rfl rfl rfl (by decide +kernel)
set_option maxRecDepth 65536 in
theorem w_c1 : (Jvm.Cond.code ({ cls := "com/example/quillgraph/quillgraph/sparql/BuilderSetPinLaw", name := "pick", desc := "(I)Lcom/example/quillgraph/quillgraph/sparql/RegexProgram$Op;" } : Jvm.MethodName) method_2_code (1 : Nat) (Option.some (Jvm.ClassFile.FieldType.object "com/example/quillgraph/quillgraph/sparql/RegexProgram$Op"))).before args0 about1 = true := code_word (m := ⟨1, 1⟩) (meth := k1m1) (c := k1c1) (by decide +kernel) rfl rfl rfl (by decide +kernel)
set_option maxRecDepth 65536 in
theorem w_c2 : (Jvm.Cond.code ({ cls := "com/example/quillgraph/quillgraph/sparql/RegexProgram$Builder", name := "<init>", desc := "(I)V" } : Jvm.MethodName) prog_117_method_1_code (2 : Nat) (Option.none : Option Jvm.ClassFile.FieldType)).before args0 about1 = true := code_word (m := ⟨7, 0⟩) (meth := k7m0) (c := k7c0) (by decide +kernel) rfl rfl rfl (by decide +kernel)
set_option maxRecDepth 65536 in
theorem w_c3 : (Jvm.Cond.code ({ cls := "java/lang/Object", name := "<init>", desc := "()V" } : Jvm.MethodName) object_method_1_code (1 : Nat) (Option.none : Option Jvm.ClassFile.FieldType)).before args0 about1 = true := code_word (m := ⟨0, 0⟩) (meth := k0m0) (c := k0c0) (by decide +kernel) rfl rfl rfl (by decide +kernel)
set_option maxRecDepth 65536 in
theorem w_c4 : (Jvm.Cond.code ({ cls := "java/util/ArrayList", name := "<init>", desc := "()V" } : Jvm.MethodName) jdk_38_method_2_code (1 : Nat) (Option.none : Option Jvm.ClassFile.FieldType)).before args0 about1 = true := code_word (m := ⟨16, 0⟩) (meth := k16m0) (c := k16c0) (by decide +kernel) rfl rfl rfl (by decide +kernel)
set_option maxRecDepth 65536 in
theorem w_c5 : (Jvm.Cond.code ({ cls := "java/util/AbstractList", name := "<init>", desc := "()V" } : Jvm.MethodName) jdk_39_method_1_code (1 : Nat) (Option.none : Option Jvm.ClassFile.FieldType)).before args0 about1 = true := code_word (m := ⟨13, 0⟩) (meth := k13m0) (c := k13c0) (by decide +kernel) rfl rfl rfl (by decide +kernel)
set_option maxRecDepth 65536 in
theorem w_c6 : (Jvm.Cond.code ({ cls := "java/util/AbstractCollection", name := "<init>", desc := "()V" } : Jvm.MethodName) jdk_22_method_1_code (1 : Nat) (Option.none : Option Jvm.ClassFile.FieldType)).before args0 about1 = true := code_word (m := ⟨10, 0⟩) (meth := k10m0) (c := k10c0) (by decide +kernel) rfl rfl rfl (by decide +kernel)
set_option maxRecDepth 65536 in
theorem w_c7 : (Jvm.Cond.code ({ cls := "com/example/quillgraph/quillgraph/sparql/RegexProgram$Builder", name := "add", desc := "(Lcom/example/quillgraph/quillgraph/sparql/RegexProgram$Op;II)I" } : Jvm.MethodName) prog_117_method_3_code (4 : Nat) (Option.some Jvm.ClassFile.FieldType.int)).before args0 about1 = true := code_word (m := ⟨7, 1⟩) (meth := k7m1) (c := k7c1) (by decide +kernel) rfl rfl rfl (by decide +kernel)
set_option maxRecDepth 65536 in
theorem w_c8 : (Jvm.Cond.code ({ cls := "com/example/quillgraph/quillgraph/sparql/RegexProgram$Builder", name := "reserve", desc := "(J)V" } : Jvm.MethodName) prog_117_method_9_code (4 : Nat) (Option.none : Option Jvm.ClassFile.FieldType)).before args0 about1 = true := code_word (m := ⟨7, 3⟩) (meth := k7m3) (c := k7c3) (by decide +kernel) rfl rfl rfl (by decide +kernel)
set_option maxRecDepth 65536 in
theorem w_c9 : (Jvm.Cond.code ({ cls := "com/example/quillgraph/quillgraph/sparql/RegexProgram$Builder", name := "set", desc := "(ILcom/example/quillgraph/quillgraph/sparql/RegexProgram$Op;II)V" } : Jvm.MethodName) prog_117_method_5_code (5 : Nat) (Option.none : Option Jvm.ClassFile.FieldType)).before args0 about1 = true := code_word (m := ⟨7, 2⟩) (meth := k7m2) (c := k7c2) (by decide +kernel) rfl rfl rfl (by decide +kernel)
set_option maxRecDepth 65536 in
theorem w_c10 : (Jvm.Cond.code ({ cls := "com/example/quillgraph/quillgraph/sparql/RegexProgram$Builder", name := "build", desc := "()Lcom/example/quillgraph/quillgraph/sparql/RegexProgram;" } : Jvm.MethodName) prog_117_method_10_code (9 : Nat) (Option.some (Jvm.ClassFile.FieldType.object "com/example/quillgraph/quillgraph/sparql/RegexProgram"))).before args0 about1 = true := code_word (m := ⟨7, 4⟩) (meth := k7m4) (c := k7c4) (by decide +kernel) rfl rfl rfl (by decide +kernel)
set_option maxRecDepth 65536 in
theorem w_c11 : (Jvm.Cond.code ({ cls := "com/example/quillgraph/quillgraph/sparql/RegexProgram$Builder", name := "isDropped", desc := "(Lcom/example/quillgraph/quillgraph/sparql/RegexProgram$Op;Z)Z" } : Jvm.MethodName) prog_117_method_12_code (2 : Nat) (Option.some Jvm.ClassFile.FieldType.boolean)).before args0 about1 = true := code_word (m := ⟨7, 6⟩) (meth := k7m6) (c := k7c6) (by decide +kernel) rfl rfl rfl (by decide +kernel)
set_option maxRecDepth 65536 in
theorem w_c12 : (Jvm.Cond.code ({ cls := "com/example/quillgraph/quillgraph/sparql/RegexProgram$Builder", name := "isJump", desc := "(Lcom/example/quillgraph/quillgraph/sparql/RegexProgram$Op;)Z" } : Jvm.MethodName) prog_117_method_11_code (1 : Nat) (Option.some Jvm.ClassFile.FieldType.boolean)).before args0 about1 = true := code_word (m := ⟨7, 5⟩) (meth := k7m5) (c := k7c5) (by decide +kernel) rfl rfl rfl (by decide +kernel)
set_option maxRecDepth 65536 in
theorem w_c13 : (Jvm.Cond.code ({ cls := "java/util/ArrayList", name := "toArray", desc := "([Ljava/lang/Object;)[Ljava/lang/Object;" } : Jvm.MethodName) jdk_38_method_17_code (2 : Nat) (Option.some (Jvm.ClassFile.FieldType.array (Jvm.ClassFile.FieldType.object "java/lang/Object")))).before args0 about1 = true := code_word (m := ⟨16, 1⟩) (meth := k16m1) (c := k16c1) (by decide +kernel) rfl rfl rfl (by decide +kernel)
set_option maxRecDepth 65536 in
theorem w_c14 : (Jvm.Cond.code ({ cls := "com/example/quillgraph/quillgraph/sparql/RegexProgram", name := "<init>", desc := "([Lcom/example/quillgraph/quillgraph/sparql/RegexProgram$Op;[I[I[Lcom/example/quillgraph/quillgraph/sparql/CodePointSet;IZ)V" } : Jvm.MethodName) prog_116_method_1_code (7 : Nat) (Option.none : Option Jvm.ClassFile.FieldType)).before args0 about1 = true := code_word (m := ⟨17, 0⟩) (meth := k17m0) (c := k17c0) (by decide +kernel) rfl rfl rfl (by decide +kernel)
set_option maxRecDepth 65536 in
theorem w_c15 : (Jvm.Cond.code ({ cls := "com/example/quillgraph/quillgraph/sparql/RegexProgram", name := "size", desc := "()I" } : Jvm.MethodName) prog_116_method_2_code (1 : Nat) (Option.some Jvm.ClassFile.FieldType.int)).before args0 about1 = true := code_word (m := ⟨17, 1⟩) (meth := k17m1) (c := k17c1) (by decide +kernel) rfl rfl rfl (by decide +kernel)
set_option maxRecDepth 65536 in
theorem w_c16 : (Jvm.Cond.code ({ cls := "com/example/quillgraph/quillgraph/sparql/RegexProgram", name := "op", desc := "(I)Lcom/example/quillgraph/quillgraph/sparql/RegexProgram$Op;" } : Jvm.MethodName) prog_116_method_3_code (2 : Nat) (Option.some (Jvm.ClassFile.FieldType.object "com/example/quillgraph/quillgraph/sparql/RegexProgram$Op"))).before args0 about1 = true := code_word (m := ⟨17, 2⟩) (meth := k17m2) (c := k17c2) (by decide +kernel) rfl rfl rfl (by decide +kernel)
set_option maxRecDepth 65536 in
theorem w_c17 : (Jvm.Cond.code ({ cls := "com/example/quillgraph/quillgraph/sparql/RegexProgram", name := "first", desc := "(I)I" } : Jvm.MethodName) prog_116_method_4_code (2 : Nat) (Option.some Jvm.ClassFile.FieldType.int)).before args0 about1 = true := code_word (m := ⟨17, 3⟩) (meth := k17m3) (c := k17c3) (by decide +kernel) rfl rfl rfl (by decide +kernel)
set_option maxRecDepth 65536 in
theorem w_c18 : (Jvm.Cond.code ({ cls := "com/example/quillgraph/quillgraph/sparql/RegexProgram", name := "second", desc := "(I)I" } : Jvm.MethodName) prog_116_method_5_code (2 : Nat) (Option.some Jvm.ClassFile.FieldType.int)).before args0 about1 = true := code_word (m := ⟨17, 4⟩) (meth := k17m4) (c := k17c4) (by decide +kernel) rfl rfl rfl (by decide +kernel)
def codes1 : List Jvm.Cond := [Jvm.Cond.code x code maxLocals ret, Jvm.Cond.code ({ cls := "com/example/quillgraph/quillgraph/sparql/BuilderSetPinLaw", name := "pick", desc := "(I)Lcom/example/quillgraph/quillgraph/sparql/RegexProgram$Op;" } : Jvm.MethodName) method_2_code (1 : Nat) (Option.some (Jvm.ClassFile.FieldType.object "com/example/quillgraph/quillgraph/sparql/RegexProgram$Op")), Jvm.Cond.code ({ cls := "com/example/quillgraph/quillgraph/sparql/RegexProgram$Builder", name := "<init>", desc := "(I)V" } : Jvm.MethodName) prog_117_method_1_code (2 : Nat) (Option.none : Option Jvm.ClassFile.FieldType), Jvm.Cond.code ({ cls := "java/lang/Object", name := "<init>", desc := "()V" } : Jvm.MethodName) object_method_1_code (1 : Nat) (Option.none : Option Jvm.ClassFile.FieldType), Jvm.Cond.code ({ cls := "java/util/ArrayList", name := "<init>", desc := "()V" } : Jvm.MethodName) jdk_38_method_2_code (1 : Nat) (Option.none : Option Jvm.ClassFile.FieldType), Jvm.Cond.code ({ cls := "java/util/AbstractList", name := "<init>", desc := "()V" } : Jvm.MethodName) jdk_39_method_1_code (1 : Nat) (Option.none : Option Jvm.ClassFile.FieldType), Jvm.Cond.code ({ cls := "java/util/AbstractCollection", name := "<init>", desc := "()V" } : Jvm.MethodName) jdk_22_method_1_code (1 : Nat) (Option.none : Option Jvm.ClassFile.FieldType), Jvm.Cond.code ({ cls := "com/example/quillgraph/quillgraph/sparql/RegexProgram$Builder", name := "add", desc := "(Lcom/example/quillgraph/quillgraph/sparql/RegexProgram$Op;II)I" } : Jvm.MethodName) prog_117_method_3_code (4 : Nat) (Option.some Jvm.ClassFile.FieldType.int), Jvm.Cond.code ({ cls := "com/example/quillgraph/quillgraph/sparql/RegexProgram$Builder", name := "reserve", desc := "(J)V" } : Jvm.MethodName) prog_117_method_9_code (4 : Nat) (Option.none : Option Jvm.ClassFile.FieldType), Jvm.Cond.code ({ cls := "com/example/quillgraph/quillgraph/sparql/RegexProgram$Builder", name := "set", desc := "(ILcom/example/quillgraph/quillgraph/sparql/RegexProgram$Op;II)V" } : Jvm.MethodName) prog_117_method_5_code (5 : Nat) (Option.none : Option Jvm.ClassFile.FieldType), Jvm.Cond.code ({ cls := "com/example/quillgraph/quillgraph/sparql/RegexProgram$Builder", name := "build", desc := "()Lcom/example/quillgraph/quillgraph/sparql/RegexProgram;" } : Jvm.MethodName) prog_117_method_10_code (9 : Nat) (Option.some (Jvm.ClassFile.FieldType.object "com/example/quillgraph/quillgraph/sparql/RegexProgram")), Jvm.Cond.code ({ cls := "com/example/quillgraph/quillgraph/sparql/RegexProgram$Builder", name := "isDropped", desc := "(Lcom/example/quillgraph/quillgraph/sparql/RegexProgram$Op;Z)Z" } : Jvm.MethodName) prog_117_method_12_code (2 : Nat) (Option.some Jvm.ClassFile.FieldType.boolean), Jvm.Cond.code ({ cls := "com/example/quillgraph/quillgraph/sparql/RegexProgram$Builder", name := "isJump", desc := "(Lcom/example/quillgraph/quillgraph/sparql/RegexProgram$Op;)Z" } : Jvm.MethodName) prog_117_method_11_code (1 : Nat) (Option.some Jvm.ClassFile.FieldType.boolean), Jvm.Cond.code ({ cls := "java/util/ArrayList", name := "toArray", desc := "([Ljava/lang/Object;)[Ljava/lang/Object;" } : Jvm.MethodName) jdk_38_method_17_code (2 : Nat) (Option.some (Jvm.ClassFile.FieldType.array (Jvm.ClassFile.FieldType.object "java/lang/Object"))), Jvm.Cond.code ({ cls := "com/example/quillgraph/quillgraph/sparql/RegexProgram", name := "<init>", desc := "([Lcom/example/quillgraph/quillgraph/sparql/RegexProgram$Op;[I[I[Lcom/example/quillgraph/quillgraph/sparql/CodePointSet;IZ)V" } : Jvm.MethodName) prog_116_method_1_code (7 : Nat) (Option.none : Option Jvm.ClassFile.FieldType), Jvm.Cond.code ({ cls := "com/example/quillgraph/quillgraph/sparql/RegexProgram", name := "size", desc := "()I" } : Jvm.MethodName) prog_116_method_2_code (1 : Nat) (Option.some Jvm.ClassFile.FieldType.int), Jvm.Cond.code ({ cls := "com/example/quillgraph/quillgraph/sparql/RegexProgram", name := "op", desc := "(I)Lcom/example/quillgraph/quillgraph/sparql/RegexProgram$Op;" } : Jvm.MethodName) prog_116_method_3_code (2 : Nat) (Option.some (Jvm.ClassFile.FieldType.object "com/example/quillgraph/quillgraph/sparql/RegexProgram$Op")), Jvm.Cond.code ({ cls := "com/example/quillgraph/quillgraph/sparql/RegexProgram", name := "first", desc := "(I)I" } : Jvm.MethodName) prog_116_method_4_code (2 : Nat) (Option.some Jvm.ClassFile.FieldType.int), Jvm.Cond.code ({ cls := "com/example/quillgraph/quillgraph/sparql/RegexProgram", name := "second", desc := "(I)I" } : Jvm.MethodName) prog_116_method_5_code (2 : Nat) (Option.some Jvm.ClassFile.FieldType.int)]
set_option maxRecDepth 65536 in
theorem codes_eq : words1.filter isCode = codes1 := rfl
theorem w_codes : ∀ c ∈ words1.filter isCode, c.before args0 about1 = true := by
  rw [codes_eq]
  intro c hc
  simp only [codes1, List.mem_cons, List.not_mem_nil, or_false] at hc
  rcases hc with rfl | rfl | rfl | rfl | rfl | rfl | rfl | rfl | rfl | rfl | rfl | rfl | rfl | rfl | rfl | rfl | rfl | rfl | rfl
  · exact w_c0
  · exact w_c1
  · exact w_c2
  · exact w_c3
  · exact w_c4
  · exact w_c5
  · exact w_c6
  · exact w_c7
  · exact w_c8
  · exact w_c9
  · exact w_c10
  · exact w_c11
  · exact w_c12
  · exact w_c13
  · exact w_c14
  · exact w_c15
  · exact w_c16
  · exact w_c17
  · exact w_c18
set_option maxRecDepth 65536 in
theorem w_t1 : (words1.take 24).all (fun c => isCode c || c.before args0 about1) = true := by decide +kernel
set_option maxRecDepth 65536 in
theorem w_t2 : ((words1.drop 24).take 24).all (fun c => isCode c || c.before args0 about1) = true := by decide +kernel
set_option maxRecDepth 65536 in
theorem w_t3 : (((words1.drop 24).drop 24).take 24).all (fun c => isCode c || c.before args0 about1) = true := by decide +kernel
set_option maxRecDepth 65536 in
theorem w_t4 : ((((words1.drop 24).drop 24).drop 24).take 24).all (fun c => isCode c || c.before args0 about1) = true := by decide +kernel
set_option maxRecDepth 65536 in
theorem w_t5 : (((((words1.drop 24).drop 24).drop 24).drop 24).take 24).all (fun c => isCode c || c.before args0 about1) = true := by decide +kernel
set_option maxRecDepth 65536 in
theorem w_t6 : ((((((words1.drop 24).drop 24).drop 24).drop 24).drop 24).take 24).all (fun c => isCode c || c.before args0 about1) = true := by decide +kernel
set_option maxRecDepth 65536 in
theorem w_t7 : (((((((words1.drop 24).drop 24).drop 24).drop 24).drop 24).drop 24).take 24).all (fun c => isCode c || c.before args0 about1) = true := by decide +kernel
set_option maxRecDepth 65536 in
theorem w_t8 : (((((((words1.drop 24).drop 24).drop 24).drop 24).drop 24).drop 24).drop 24).all (fun c => isCode c || c.before args0 about1) = true := by decide +kernel
theorem w_tables : (allAtoms (Jvm.Cond.code x code maxLocals ret :: tables_1)).before args0 about1 = true := by
  rw [allAtoms_all]
  show words1.all (fun c => c.before args0 about1) = true
  refine all_split ?_ w_codes
  rw [← List.take_append_drop 24 words1, List.all_append, w_t1, ← List.take_append_drop 24 (words1.drop 24), List.all_append, w_t2, ← List.take_append_drop 24 ((words1.drop 24).drop 24), List.all_append, w_t3, ← List.take_append_drop 24 (((words1.drop 24).drop 24).drop 24), List.all_append, w_t4, ← List.take_append_drop 24 ((((words1.drop 24).drop 24).drop 24).drop 24), List.all_append, w_t5, ← List.take_append_drop 24 (((((words1.drop 24).drop 24).drop 24).drop 24).drop 24), List.all_append, w_t6, ← List.take_append_drop 24 ((((((words1.drop 24).drop 24).drop 24).drop 24).drop 24).drop 24), List.all_append, w_t7, w_t8]
  rfl
set_option maxRecDepth 65536 in
theorem w_rest : rest_1_c.before args0 about1 = true := by decide +kernel
set_option maxRecDepth 65536 in
theorem w_case : (Jvm.Cond.and given_1 narrow_1).before args0 about1 = true := by decide +kernel
theorem w_applies : (headSpec (Jvm.Cond.code x code maxLocals ret :: tables_1) room_1).applies x e0.platform about1 = true :=
  (Spec.applies_iff w_frames).mpr ⟨w_running, w_runnable, w_alone, w_named, w_hears, w_ripe, w_room, w_tables⟩
theorem atStart : AtStart classFile x code maxLocals ret World_1 tables_1 room_1 Calls_1 rest_1 Pre_1 launch0 p0 e0 about1 theMethod args0 below0 :=
  ⟨lists_1, trivial, launch0.admits_env _ _ _, launch0.least_env, fairChoices_fair.cas, fairChoices_fair.clock, w_frames, w_args, w_heap, w_applies, trivial, w_rest, w_case⟩
end start1
theorem witness_1 : WitnessClaimed_1 := ⟨start1.p0, start1.e0, start1.about1, start1.theMethod, start1.args0, start1.below0, start1.atStart⟩
end Jvm.Pilot.@@N@@
