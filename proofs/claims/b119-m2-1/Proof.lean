import JvmDerived
import JvmDerived.Pilot.@@N@@Statement
import JvmDerived.Pilot.@@N@@Code
set_option linter.unusedVariables false
set_option linter.unusedSimpArgs false
namespace Jvm.RoadKit
open Sem ClassFile Op Lib Jvm.Stand Jvm.Free Jvm.LawKit
section New
variable {p : Program} {l : Launch} {e : Env} {R : Room} {s : State} {m : MethodId} {args : Array Value} {below : List Frame} {meth : Method} {c : Code} {T : State} {locs : List Loc} {cells slots : Nat}
theorem retI (X : Stand p l e R s m args below meth c T locs cells slots) (hx : p.tables.exec = Jvm.exec) {pc : Nat} {Ls : Array Slot} {z : Int32} {rest : List Value} (hret : meth.sig.returnType = some .int) (hd : decode c.code pc = .ok (.ireturn, 1)) {fs : List Frame}
    (hl : ∀ (f : JFrame) (acts : List Action), f.method = m → f.locked = none → f.entered = [] → (doReturn e (T.setTop f) acts (some (.int z))).1 = T.setFrames fs) : Steps p.tables e below (T.setTop (mkF m pc Ls (.int z :: rest))) (T.setFrames fs) := by
  have hm' : T.vm.method? m = some meth := X.method'
  have hn : narrow .int (.int z) = .int z := rfl
  show Steps p.tables e below (T.setTop { method := m, pc := pc, locals := Ls, stack := _ :: rest, locked := none }) _
  jvm_step X.here [X.here.top, hx, hd, hm', hret, hn]
  first | (intro acts; rw [hl _ acts rfl rfl rfl]) | rw [hl _ _ rfl rfl rfl]
  exact Steps.refl _
end New
end Jvm.RoadKit
namespace Jvm.Pilot.@@N@@
open Jvm Jvm.ClassFile Sem Op Lib Jvm.Free Jvm.Stand Jvm.LawKit Jvm.RoadKit Bundle Jvm.Pilot.@@N@@.Jvm.D
theorem own_m {α : Type} {L : List α} {x : α} (i : Nat) (h : L[i]? = some x) : x ∈ L := List.mem_of_getElem? h
theorem own_top {tb : Tables} {e : Env} {below : List Frame} {T t : State} {m : MethodId} {pc : Nat} {Ls : Array Slot} {v v' : Value} {rest : List Value} (q : v = v') (k : Steps tb e below (T.setTop (mkF m pc Ls (v' :: rest))) t) : Steps tb e below (T.setTop (mkF m pc Ls (v :: rest))) t := q ▸ k
theorem own_le {Z : State} {n0 : Nat} {h : Heap} (O : Old Z n0 h) : n0 ≤ h.size := O.1 ▸ O.2.1
theorem own_eqI {args : Array Value} {first s : State} {o : Option Outcome} {idx : List Nat} {t : Term} {k : Int32} (h : (Jvm.Cond.eq t (.int k)).value args first o s idx = some true) : t.eval args first o idx s = some (.int k) := by
  cases ht : t.eval args first o idx s with
  | none => simp [Cond.value, Term.eval, ht] at h
  | some x => cases x <;> simp [Cond.value, Term.eval, ht] at h ⊢; exact h
theorem own_eqJ {args : Array Value} {first s : State} {o : Option Outcome} {idx : List Nat} {t : Term} {k : Int64} (h : (Jvm.Cond.eq t (.long k)).value args first o s idx = some true) : t.eval args first o idx s = some (.long k) := by
  cases ht : t.eval args first o idx s with
  | none => simp [Cond.value, Term.eval, ht] at h
  | some x => cases x <;> simp [Cond.value, Term.eval, ht] at h ⊢; exact h
theorem own_eqR {args : Array Value} {first s : State} {o : Option Outcome} {idx : List Nat} {t u : Term} {b : Addr} (h : (Jvm.Cond.eq t u).value args first o s idx = some true) (hu : u.eval args first o idx s = some (.ref b)) : t.eval args first o idx s = some (.ref b) := by
  cases ht : t.eval args first o idx s with
  | none => simp [Cond.value, ht] at h
  | some x => cases x <;> simp [Cond.value, ht, hu] at h ⊢; exact h
def own_En (Z : State) (h : Heap) (C f d : String) (w : Addr) (k : Int32) : Prop := Sta Z h C f d (.ref w) ∧ Exa Z h w C ∧ Fld Z h w "java/lang/Enum" "ordinal" "I" (.int k)
theorem own_d1_0 : decode prog_18_method_1_code 0 = .ok (.aload_n 0, 1) := by decide +kernel
theorem own_d1_1 : decode prog_18_method_1_code 1 = .ok (.invokespecial 5, 3) := by decide +kernel
theorem own_d1_4 : decode prog_18_method_1_code 4 = .ok (.aload_n 0, 1) := by decide +kernel
theorem own_d1_5 : decode prog_18_method_1_code 5 = .ok (.iconst 1, 1) := by decide +kernel
theorem own_d1_6 : decode prog_18_method_1_code 6 = .ok (.anewarray 11, 3) := by decide +kernel
theorem own_d1_9 : decode prog_18_method_1_code 9 = .ok (.dup, 1) := by decide +kernel
theorem own_d1_10 : decode prog_18_method_1_code 10 = .ok (.iconst 0, 1) := by decide +kernel
theorem own_d1_11 : decode prog_18_method_1_code 11 = .ok (.iconst 0, 1) := by decide +kernel
theorem own_d1_12 : decode prog_18_method_1_code 12 = .ok (.anewarray 6, 3) := by decide +kernel
theorem own_d1_15 : decode prog_18_method_1_code 15 = .ok (.aastore, 1) := by decide +kernel
theorem own_d1_16 : decode prog_18_method_1_code 16 = .ok (.putfield 13, 3) := by decide +kernel
theorem own_d1_19 : decode prog_18_method_1_code 19 = .ok (.aload_n 0, 1) := by decide +kernel
theorem own_d1_20 : decode prog_18_method_1_code 20 = .ok (.iconst 1, 1) := by decide +kernel
theorem own_d1_21 : decode prog_18_method_1_code 21 = .ok (.anewarray 17, 3) := by decide +kernel
theorem own_d1_24 : decode prog_18_method_1_code 24 = .ok (.dup, 1) := by decide +kernel
theorem own_d1_25 : decode prog_18_method_1_code 25 = .ok (.iconst 0, 1) := by decide +kernel
theorem own_d1_26 : decode prog_18_method_1_code 26 = .ok (.iconst 0, 1) := by decide +kernel
theorem own_d1_27 : decode prog_18_method_1_code 27 = .ok (.newarray .long, 2) := by decide +kernel
theorem own_d1_29 : decode prog_18_method_1_code 29 = .ok (.aastore, 1) := by decide +kernel
theorem own_d1_30 : decode prog_18_method_1_code 30 = .ok (.putfield 19, 3) := by decide +kernel
theorem own_d1_33 : decode prog_18_method_1_code 33 = .ok (.aload_n 0, 1) := by decide +kernel
theorem own_d1_34 : decode prog_18_method_1_code 34 = .ok (.iconst 1, 1) := by decide +kernel
theorem own_d1_35 : decode prog_18_method_1_code 35 = .ok (.anewarray 23, 3) := by decide +kernel
theorem own_d1_38 : decode prog_18_method_1_code 38 = .ok (.dup, 1) := by decide +kernel
theorem own_d1_39 : decode prog_18_method_1_code 39 = .ok (.iconst 0, 1) := by decide +kernel
theorem own_d1_40 : decode prog_18_method_1_code 40 = .ok (.iconst 0, 1) := by decide +kernel
theorem own_d1_41 : decode prog_18_method_1_code 41 = .ok (.newarray .int, 2) := by decide +kernel
theorem own_d1_43 : decode prog_18_method_1_code 43 = .ok (.aastore, 1) := by decide +kernel
theorem own_d1_44 : decode prog_18_method_1_code 44 = .ok (.putfield 25, 3) := by decide +kernel
theorem own_d1_47 : decode prog_18_method_1_code 47 = .ok (.aload_n 0, 1) := by decide +kernel
theorem own_d1_48 : decode prog_18_method_1_code 48 = .ok (.iconst 1, 1) := by decide +kernel
theorem own_d1_49 : decode prog_18_method_1_code 49 = .ok (.newarray .int, 2) := by decide +kernel
theorem own_d1_51 : decode prog_18_method_1_code 51 = .ok (.putfield 29, 3) := by decide +kernel
theorem own_d1_54 : decode prog_18_method_1_code 54 = .ok (.aload_n 0, 1) := by decide +kernel
theorem own_d1_55 : decode prog_18_method_1_code 55 = .ok (.iconst 1, 1) := by decide +kernel
theorem own_d1_56 : decode prog_18_method_1_code 56 = .ok (.newarray .int, 2) := by decide +kernel
theorem own_d1_58 : decode prog_18_method_1_code 58 = .ok (.dup, 1) := by decide +kernel
theorem own_d1_59 : decode prog_18_method_1_code 59 = .ok (.iconst 0, 1) := by decide +kernel
theorem own_d1_60 : decode prog_18_method_1_code 60 = .ok (.iconst (-1), 1) := by decide +kernel
theorem own_d1_61 : decode prog_18_method_1_code 61 = .ok (.iastore, 1) := by decide +kernel
theorem own_d1_62 : decode prog_18_method_1_code 62 = .ok (.putfield 32, 3) := by decide +kernel
theorem own_d1_65 : decode prog_18_method_1_code 65 = .ok (.aload_n 0, 1) := by decide +kernel
theorem own_d1_66 : decode prog_18_method_1_code 66 = .ok (.iconst 1, 1) := by decide +kernel
theorem own_d1_67 : decode prog_18_method_1_code 67 = .ok (.newarray .int, 2) := by decide +kernel
theorem own_d1_69 : decode prog_18_method_1_code 69 = .ok (.putfield 35, 3) := by decide +kernel
theorem own_d1_72 : decode prog_18_method_1_code 72 = .ok (.aload_n 0, 1) := by decide +kernel
theorem own_d1_73 : decode prog_18_method_1_code 73 = .ok (.new 38, 3) := by decide +kernel
theorem own_d1_76 : decode prog_18_method_1_code 76 = .ok (.dup, 1) := by decide +kernel
theorem own_d1_77 : decode prog_18_method_1_code 77 = .ok (.invokespecial 40, 3) := by decide +kernel
theorem own_d1_80 : decode prog_18_method_1_code 80 = .ok (.putfield 41, 3) := by decide +kernel
theorem own_d1_83 : decode prog_18_method_1_code 83 = .ok (.aload_n 0, 1) := by decide +kernel
theorem own_d1_84 : decode prog_18_method_1_code 84 = .ok (.iconst (-1), 1) := by decide +kernel
theorem own_d1_85 : decode prog_18_method_1_code 85 = .ok (.putfield 45, 3) := by decide +kernel
theorem own_d1_88 : decode prog_18_method_1_code 88 = .ok (.return_, 1) := by decide +kernel
theorem own_d3_0 : decode prog_19_method_1_code 0 = .ok (.aload_n 0, 1) := by decide +kernel
theorem own_d3_1 : decode prog_19_method_1_code 1 = .ok (.invokespecial 3, 3) := by decide +kernel
theorem own_d3_4 : decode prog_19_method_1_code 4 = .ok (.aload_n 0, 1) := by decide +kernel
theorem own_d3_5 : decode prog_19_method_1_code 5 = .ok (.iconst 1, 1) := by decide +kernel
theorem own_d3_6 : decode prog_19_method_1_code 6 = .ok (.newarray .long, 2) := by decide +kernel
theorem own_d3_8 : decode prog_19_method_1_code 8 = .ok (.putfield 9, 3) := by decide +kernel
theorem own_d3_11 : decode prog_19_method_1_code 11 = .ok (.aload_n 0, 1) := by decide +kernel
theorem own_d3_12 : decode prog_19_method_1_code 12 = .ok (.iconst 1, 1) := by decide +kernel
theorem own_d3_13 : decode prog_19_method_1_code 13 = .ok (.newarray .long, 2) := by decide +kernel
theorem own_d3_15 : decode prog_19_method_1_code 15 = .ok (.putfield 15, 3) := by decide +kernel
theorem own_d3_18 : decode prog_19_method_1_code 18 = .ok (.return_, 1) := by decide +kernel
theorem own_d4_0 : decode jdk_33_method_22_code 0 = .ok (.iload_n 0, 1) := by decide +kernel
theorem own_d4_1 : decode jdk_33_method_22_code 1 = .ok (.bipush (-128), 2) := by decide +kernel
theorem own_d4_3 : decode jdk_33_method_22_code 3 = .ok (.if_icmp .lt 20, 3) := by decide +kernel
theorem own_d4_6 : decode jdk_33_method_22_code 6 = .ok (.iload_n 0, 1) := by decide +kernel
theorem own_d4_7 : decode jdk_33_method_22_code 7 = .ok (.getstatic 191, 3) := by decide +kernel
theorem own_d4_10 : decode jdk_33_method_22_code 10 = .ok (.if_icmp .gt 13, 3) := by decide +kernel
theorem own_d4_13 : decode jdk_33_method_22_code 13 = .ok (.getstatic 195, 3) := by decide +kernel
theorem own_d4_16 : decode jdk_33_method_22_code 16 = .ok (.iload_n 0, 1) := by decide +kernel
theorem own_d4_17 : decode jdk_33_method_22_code 17 = .ok (.sipush 128, 3) := by decide +kernel
theorem own_d4_20 : decode jdk_33_method_22_code 20 = .ok (.iadd, 1) := by decide +kernel
theorem own_d4_21 : decode jdk_33_method_22_code 21 = .ok (.aaload, 1) := by decide +kernel
theorem own_d4_22 : decode jdk_33_method_22_code 22 = .ok (.areturn, 1) := by decide +kernel
theorem own_d5_0 : decode prog_18_method_2_code 0 = .ok (.aload_n 0, 1) := by decide +kernel
theorem own_d5_1 : decode prog_18_method_2_code 1 = .ok (.getfield 41, 3) := by decide +kernel
theorem own_d5_4 : decode prog_18_method_2_code 4 = .ok (.invokevirtual 49, 3) := by decide +kernel
theorem own_d5_7 : decode prog_18_method_2_code 7 = .ok (.istore 4, 2) := by decide +kernel
theorem own_d5_9 : decode prog_18_method_2_code 9 = .ok (.iload 4, 2) := by decide +kernel
theorem own_d5_11 : decode prog_18_method_2_code 11 = .ok (.iconst (-1), 1) := by decide +kernel
theorem own_d5_12 : decode prog_18_method_2_code 12 = .ok (.if_icmp .ne 9, 3) := by decide +kernel
theorem own_d5_15 : decode prog_18_method_2_code 15 = .ok (.aload_n 0, 1) := by decide +kernel
theorem own_d5_16 : decode prog_18_method_2_code 16 = .ok (.invokevirtual 53, 3) := by decide +kernel
theorem own_d5_19 : decode prog_18_method_2_code 19 = .ok (.istore 4, 2) := by decide +kernel
theorem own_d5_21 : decode prog_18_method_2_code 21 = .ok (.aload_n 0, 1) := by decide +kernel
theorem own_d5_22 : decode prog_18_method_2_code 22 = .ok (.getfield 32, 3) := by decide +kernel
theorem own_d5_25 : decode prog_18_method_2_code 25 = .ok (.iload 4, 2) := by decide +kernel
theorem own_d5_27 : decode prog_18_method_2_code 27 = .ok (.iaload, 1) := by decide +kernel
theorem own_d5_28 : decode prog_18_method_2_code 28 = .ok (.istore 5, 2) := by decide +kernel
theorem own_d5_30 : decode prog_18_method_2_code 30 = .ok (.aload_n 0, 1) := by decide +kernel
theorem own_d5_31 : decode prog_18_method_2_code 31 = .ok (.getfield 32, 3) := by decide +kernel
theorem own_d5_34 : decode prog_18_method_2_code 34 = .ok (.iload 4, 2) := by decide +kernel
theorem own_d5_36 : decode prog_18_method_2_code 36 = .ok (.aload_n 0, 1) := by decide +kernel
theorem own_d5_37 : decode prog_18_method_2_code 37 = .ok (.iload 5, 2) := by decide +kernel
theorem own_d5_39 : decode prog_18_method_2_code 39 = .ok (.invokevirtual 56, 3) := by decide +kernel
theorem own_d5_42 : decode prog_18_method_2_code 42 = .ok (.iastore, 1) := by decide +kernel
theorem own_d5_43 : decode prog_18_method_2_code 43 = .ok (.aload_n 0, 1) := by decide +kernel
theorem own_d5_44 : decode prog_18_method_2_code 44 = .ok (.getfield 32, 3) := by decide +kernel
theorem own_d5_47 : decode prog_18_method_2_code 47 = .ok (.iload 4, 2) := by decide +kernel
theorem own_d5_49 : decode prog_18_method_2_code 49 = .ok (.iaload, 1) := by decide +kernel
theorem own_d5_50 : decode prog_18_method_2_code 50 = .ok (.iconst (-1), 1) := by decide +kernel
theorem own_d5_51 : decode prog_18_method_2_code 51 = .ok (.if_icmp .ne 12, 3) := by decide +kernel
theorem own_d5_63 : decode prog_18_method_2_code 63 = .ok (.iload 4, 2) := by decide +kernel
theorem own_d5_65 : decode prog_18_method_2_code 65 = .ok (.aload_n 0, 1) := by decide +kernel
theorem own_d5_66 : decode prog_18_method_2_code 66 = .ok (.getfield 45, 3) := by decide +kernel
theorem own_d5_69 : decode prog_18_method_2_code 69 = .ok (.if_icmp .ne 8, 3) := by decide +kernel
theorem own_d5_77 : decode prog_18_method_2_code 77 = .ok (.aload_n 0, 1) := by decide +kernel
theorem own_d5_78 : decode prog_18_method_2_code 78 = .ok (.getfield 29, 3) := by decide +kernel
theorem own_d5_81 : decode prog_18_method_2_code 81 = .ok (.iload 4, 2) := by decide +kernel
theorem own_d5_83 : decode prog_18_method_2_code 83 = .ok (.dup2, 1) := by decide +kernel
theorem own_d5_84 : decode prog_18_method_2_code 84 = .ok (.iaload, 1) := by decide +kernel
theorem own_d5_85 : decode prog_18_method_2_code 85 = .ok (.iconst 1, 1) := by decide +kernel
theorem own_d5_86 : decode prog_18_method_2_code 86 = .ok (.iadd, 1) := by decide +kernel
theorem own_d5_87 : decode prog_18_method_2_code 87 = .ok (.iastore, 1) := by decide +kernel
theorem own_d5_88 : decode prog_18_method_2_code 88 = .ok (.aload_n 0, 1) := by decide +kernel
theorem own_d5_89 : decode prog_18_method_2_code 89 = .ok (.getfield 13, 3) := by decide +kernel
theorem own_d5_92 : decode prog_18_method_2_code 92 = .ok (.iload 4, 2) := by decide +kernel
theorem own_d5_94 : decode prog_18_method_2_code 94 = .ok (.aaload, 1) := by decide +kernel
theorem own_d5_95 : decode prog_18_method_2_code 95 = .ok (.iload 5, 2) := by decide +kernel
theorem own_d5_97 : decode prog_18_method_2_code 97 = .ok (.sipush 4095, 3) := by decide +kernel
theorem own_d5_100 : decode prog_18_method_2_code 100 = .ok (.iand, 1) := by decide +kernel
theorem own_d5_101 : decode prog_18_method_2_code 101 = .ok (.aload_n 1, 1) := by decide +kernel
theorem own_d5_102 : decode prog_18_method_2_code 102 = .ok (.aastore, 1) := by decide +kernel
theorem own_d5_103 : decode prog_18_method_2_code 103 = .ok (.aload_n 0, 1) := by decide +kernel
theorem own_d5_104 : decode prog_18_method_2_code 104 = .ok (.iload 5, 2) := by decide +kernel
theorem own_d5_106 : decode prog_18_method_2_code 106 = .ok (.lload_n 2, 1) := by decide +kernel
theorem own_d5_107 : decode prog_18_method_2_code 107 = .ok (.invokevirtual 64, 3) := by decide +kernel
theorem own_d5_110 : decode prog_18_method_2_code 110 = .ok (.aload_n 0, 1) := by decide +kernel
theorem own_d5_111 : decode prog_18_method_2_code 111 = .ok (.dup, 1) := by decide +kernel
theorem own_d5_112 : decode prog_18_method_2_code 112 = .ok (.getfield 68, 3) := by decide +kernel
theorem own_d5_115 : decode prog_18_method_2_code 115 = .ok (.iconst 1, 1) := by decide +kernel
theorem own_d5_116 : decode prog_18_method_2_code 116 = .ok (.iadd, 1) := by decide +kernel
theorem own_d5_117 : decode prog_18_method_2_code 117 = .ok (.putfield 68, 3) := by decide +kernel
theorem own_d5_120 : decode prog_18_method_2_code 120 = .ok (.iload 5, 2) := by decide +kernel
theorem own_d5_122 : decode prog_18_method_2_code 122 = .ok (.ireturn, 1) := by decide +kernel
theorem own_d6_0 : decode prog_19_method_4_code 0 = .ok (.iconst 0, 1) := by decide +kernel
theorem own_d6_1 : decode prog_19_method_4_code 1 = .ok (.istore_n 1, 1) := by decide +kernel
theorem own_d6_2 : decode prog_19_method_4_code 2 = .ok (.iload_n 1, 1) := by decide +kernel
theorem own_d6_3 : decode prog_19_method_4_code 3 = .ok (.aload_n 0, 1) := by decide +kernel
theorem own_d6_4 : decode prog_19_method_4_code 4 = .ok (.getfield 15, 3) := by decide +kernel
theorem own_d6_7 : decode prog_19_method_4_code 7 = .ok (.arraylength, 1) := by decide +kernel
theorem own_d6_8 : decode prog_19_method_4_code 8 = .ok (.if_icmp .ge 50, 3) := by decide +kernel
theorem own_d6_11 : decode prog_19_method_4_code 11 = .ok (.aload_n 0, 1) := by decide +kernel
theorem own_d6_12 : decode prog_19_method_4_code 12 = .ok (.getfield 15, 3) := by decide +kernel
theorem own_d6_15 : decode prog_19_method_4_code 15 = .ok (.iload_n 1, 1) := by decide +kernel
theorem own_d6_16 : decode prog_19_method_4_code 16 = .ok (.laload, 1) := by decide +kernel
theorem own_d6_17 : decode prog_19_method_4_code 17 = .ok (.lconst 0, 1) := by decide +kernel
theorem own_d6_18 : decode prog_19_method_4_code 18 = .ok (.lcmp, 1) := by decide +kernel
theorem own_d6_19 : decode prog_19_method_4_code 19 = .ok (.ifCond .eq 33, 3) := by decide +kernel
theorem own_d6_22 : decode prog_19_method_4_code 22 = .ok (.iload_n 1, 1) := by decide +kernel
theorem own_d6_23 : decode prog_19_method_4_code 23 = .ok (.bipush 6, 2) := by decide +kernel
theorem own_d6_25 : decode prog_19_method_4_code 25 = .ok (.ishl, 1) := by decide +kernel
theorem own_d6_26 : decode prog_19_method_4_code 26 = .ok (.aload_n 0, 1) := by decide +kernel
theorem own_d6_27 : decode prog_19_method_4_code 27 = .ok (.getfield 15, 3) := by decide +kernel
theorem own_d6_30 : decode prog_19_method_4_code 30 = .ok (.iload_n 1, 1) := by decide +kernel
theorem own_d6_31 : decode prog_19_method_4_code 31 = .ok (.laload, 1) := by decide +kernel
theorem own_d6_32 : decode prog_19_method_4_code 32 = .ok (.invokestatic 20, 3) := by decide +kernel
theorem own_d6_35 : decode prog_19_method_4_code 35 = .ok (.iadd, 1) := by decide +kernel
theorem own_d6_36 : decode prog_19_method_4_code 36 = .ok (.istore_n 2, 1) := by decide +kernel
theorem own_d6_37 : decode prog_19_method_4_code 37 = .ok (.iload_n 2, 1) := by decide +kernel
theorem own_d6_38 : decode prog_19_method_4_code 38 = .ok (.bipush 6, 2) := by decide +kernel
theorem own_d6_40 : decode prog_19_method_4_code 40 = .ok (.ishl, 1) := by decide +kernel
theorem own_d6_41 : decode prog_19_method_4_code 41 = .ok (.aload_n 0, 1) := by decide +kernel
theorem own_d6_42 : decode prog_19_method_4_code 42 = .ok (.getfield 9, 3) := by decide +kernel
theorem own_d6_45 : decode prog_19_method_4_code 45 = .ok (.iload_n 2, 1) := by decide +kernel
theorem own_d6_46 : decode prog_19_method_4_code 46 = .ok (.laload, 1) := by decide +kernel
theorem own_d6_47 : decode prog_19_method_4_code 47 = .ok (.invokestatic 20, 3) := by decide +kernel
theorem own_d6_50 : decode prog_19_method_4_code 50 = .ok (.iadd, 1) := by decide +kernel
theorem own_d6_51 : decode prog_19_method_4_code 51 = .ok (.ireturn, 1) := by decide +kernel
theorem own_d6_52 : decode prog_19_method_4_code 52 = .ok (.iinc 1 1, 3) := by decide +kernel
theorem own_d6_55 : decode prog_19_method_4_code 55 = .ok (.goto (-53), 3) := by decide +kernel
theorem own_d6_58 : decode prog_19_method_4_code 58 = .ok (.iconst (-1), 1) := by decide +kernel
theorem own_d6_59 : decode prog_19_method_4_code 59 = .ok (.ireturn, 1) := by decide +kernel
theorem own_d7_0 : decode prog_18_method_19_code 0 = .ok (.aload_n 0, 1) := by decide +kernel
theorem own_d7_1 : decode prog_18_method_19_code 1 = .ok (.getfield 88, 3) := by decide +kernel
theorem own_d7_4 : decode prog_18_method_19_code 4 = .ok (.sipush 4096, 3) := by decide +kernel
theorem own_d7_7 : decode prog_18_method_19_code 7 = .ok (.if_icmp .ge 77, 3) := by decide +kernel
theorem own_d7_10 : decode prog_18_method_19_code 10 = .ok (.bipush 16, 2) := by decide +kernel
theorem own_d7_12 : decode prog_18_method_19_code 12 = .ok (.aload_n 0, 1) := by decide +kernel
theorem own_d7_13 : decode prog_18_method_19_code 13 = .ok (.getfield 88, 3) := by decide +kernel
theorem own_d7_16 : decode prog_18_method_19_code 16 = .ok (.iconst 2, 1) := by decide +kernel
theorem own_d7_17 : decode prog_18_method_19_code 17 = .ok (.imul, 1) := by decide +kernel
theorem own_d7_18 : decode prog_18_method_19_code 18 = .ok (.invokestatic 97, 3) := by decide +kernel
theorem own_d7_21 : decode prog_18_method_19_code 21 = .ok (.istore_n 1, 1) := by decide +kernel
theorem own_d7_22 : decode prog_18_method_19_code 22 = .ok (.aload_n 0, 1) := by decide +kernel
theorem own_d7_23 : decode prog_18_method_19_code 23 = .ok (.getfield 13, 3) := by decide +kernel
theorem own_d7_26 : decode prog_18_method_19_code 26 = .ok (.iconst 0, 1) := by decide +kernel
theorem own_d7_27 : decode prog_18_method_19_code 27 = .ok (.aload_n 0, 1) := by decide +kernel
theorem own_d7_28 : decode prog_18_method_19_code 28 = .ok (.getfield 13, 3) := by decide +kernel
theorem own_d7_31 : decode prog_18_method_19_code 31 = .ok (.iconst 0, 1) := by decide +kernel
theorem own_d7_32 : decode prog_18_method_19_code 32 = .ok (.aaload, 1) := by decide +kernel
theorem own_d7_33 : decode prog_18_method_19_code 33 = .ok (.iload_n 1, 1) := by decide +kernel
theorem own_d7_34 : decode prog_18_method_19_code 34 = .ok (.invokestatic 102, 3) := by decide +kernel
theorem own_d7_37 : decode prog_18_method_19_code 37 = .ok (.aastore, 1) := by decide +kernel
theorem own_d7_38 : decode prog_18_method_19_code 38 = .ok (.aload_n 0, 1) := by decide +kernel
theorem own_d7_39 : decode prog_18_method_19_code 39 = .ok (.getfield 19, 3) := by decide +kernel
theorem own_d7_42 : decode prog_18_method_19_code 42 = .ok (.iconst 0, 1) := by decide +kernel
theorem own_d7_43 : decode prog_18_method_19_code 43 = .ok (.aload_n 0, 1) := by decide +kernel
theorem own_d7_44 : decode prog_18_method_19_code 44 = .ok (.getfield 19, 3) := by decide +kernel
theorem own_d7_47 : decode prog_18_method_19_code 47 = .ok (.iconst 0, 1) := by decide +kernel
theorem own_d7_48 : decode prog_18_method_19_code 48 = .ok (.aaload, 1) := by decide +kernel
theorem own_d7_49 : decode prog_18_method_19_code 49 = .ok (.iload_n 1, 1) := by decide +kernel
theorem own_d7_50 : decode prog_18_method_19_code 50 = .ok (.invokestatic 108, 3) := by decide +kernel
theorem own_d7_53 : decode prog_18_method_19_code 53 = .ok (.aastore, 1) := by decide +kernel
theorem own_d7_54 : decode prog_18_method_19_code 54 = .ok (.aload_n 0, 1) := by decide +kernel
theorem own_d7_55 : decode prog_18_method_19_code 55 = .ok (.getfield 25, 3) := by decide +kernel
theorem own_d7_58 : decode prog_18_method_19_code 58 = .ok (.iconst 0, 1) := by decide +kernel
theorem own_d7_59 : decode prog_18_method_19_code 59 = .ok (.aload_n 0, 1) := by decide +kernel
theorem own_d7_60 : decode prog_18_method_19_code 60 = .ok (.getfield 25, 3) := by decide +kernel
theorem own_d7_63 : decode prog_18_method_19_code 63 = .ok (.iconst 0, 1) := by decide +kernel
theorem own_d7_64 : decode prog_18_method_19_code 64 = .ok (.aaload, 1) := by decide +kernel
theorem own_d7_65 : decode prog_18_method_19_code 65 = .ok (.iload_n 1, 1) := by decide +kernel
theorem own_d7_66 : decode prog_18_method_19_code 66 = .ok (.iconst 2, 1) := by decide +kernel
theorem own_d7_67 : decode prog_18_method_19_code 67 = .ok (.ishl, 1) := by decide +kernel
theorem own_d7_68 : decode prog_18_method_19_code 68 = .ok (.invokestatic 111, 3) := by decide +kernel
theorem own_d7_71 : decode prog_18_method_19_code 71 = .ok (.aastore, 1) := by decide +kernel
theorem own_d7_72 : decode prog_18_method_19_code 72 = .ok (.aload_n 0, 1) := by decide +kernel
theorem own_d7_73 : decode prog_18_method_19_code 73 = .ok (.iconst 0, 1) := by decide +kernel
theorem own_d7_74 : decode prog_18_method_19_code 74 = .ok (.aload_n 0, 1) := by decide +kernel
theorem own_d7_75 : decode prog_18_method_19_code 75 = .ok (.getfield 88, 3) := by decide +kernel
theorem own_d7_78 : decode prog_18_method_19_code 78 = .ok (.iload_n 1, 1) := by decide +kernel
theorem own_d7_79 : decode prog_18_method_19_code 79 = .ok (.invokevirtual 114, 3) := by decide +kernel
theorem own_d7_82 : decode prog_18_method_19_code 82 = .ok (.iconst 0, 1) := by decide +kernel
theorem own_d7_83 : decode prog_18_method_19_code 83 = .ok (.ireturn, 1) := by decide +kernel
theorem own_d8_0 : decode jdk_29_method_65_code 0 = .ok (.iload_n 0, 1) := by decide +kernel
theorem own_d8_1 : decode jdk_29_method_65_code 1 = .ok (.iload_n 1, 1) := by decide +kernel
theorem own_d8_2 : decode jdk_29_method_65_code 2 = .ok (.if_icmp .lt 7, 3) := by decide +kernel
theorem own_d8_5 : decode jdk_29_method_65_code 5 = .ok (.iload_n 0, 1) := by decide +kernel
theorem own_d8_6 : decode jdk_29_method_65_code 6 = .ok (.goto 4, 3) := by decide +kernel
theorem own_d8_10 : decode jdk_29_method_65_code 10 = .ok (.ireturn, 1) := by decide +kernel
theorem own_d9_0 : decode jdk_65_method_119_code 0 = .ok (.aload_n 0, 1) := by decide +kernel
theorem own_d9_1 : decode jdk_65_method_119_code 1 = .ok (.iload_n 1, 1) := by decide +kernel
theorem own_d9_2 : decode jdk_65_method_119_code 2 = .ok (.aload_n 0, 1) := by decide +kernel
theorem own_d9_3 : decode jdk_65_method_119_code 3 = .ok (.invokevirtual 86, 3) := by decide +kernel
theorem own_d9_6 : decode jdk_65_method_119_code 6 = .ok (.invokestatic 300, 3) := by decide +kernel
theorem own_d9_9 : decode jdk_65_method_119_code 9 = .ok (.areturn, 1) := by decide +kernel
theorem own_d10_0 : decode jdk_65_method_120_code 0 = .ok (.aload_n 2, 1) := by decide +kernel
theorem own_d10_1 : decode jdk_65_method_120_code 1 = .ok (.ldc 110, 2) := by decide +kernel
theorem own_d10_3 : decode jdk_65_method_120_code 3 = .ok (.if_acmp .ne 10, 3) := by decide +kernel
theorem own_d10_6 : decode jdk_65_method_120_code 6 = .ok (.iload_n 1, 1) := by decide +kernel
theorem own_d10_7 : decode jdk_65_method_120_code 7 = .ok (.anewarray 2, 3) := by decide +kernel
theorem own_d10_10 : decode jdk_65_method_120_code 10 = .ok (.goto 14, 3) := by decide +kernel
theorem own_d10_24 : decode jdk_65_method_120_code 24 = .ok (.astore_n 3, 1) := by decide +kernel
theorem own_d10_25 : decode jdk_65_method_120_code 25 = .ok (.aload_n 0, 1) := by decide +kernel
theorem own_d10_26 : decode jdk_65_method_120_code 26 = .ok (.iconst 0, 1) := by decide +kernel
theorem own_d10_27 : decode jdk_65_method_120_code 27 = .ok (.aload_n 3, 1) := by decide +kernel
theorem own_d10_28 : decode jdk_65_method_120_code 28 = .ok (.iconst 0, 1) := by decide +kernel
theorem own_d10_29 : decode jdk_65_method_120_code 29 = .ok (.aload_n 0, 1) := by decide +kernel
theorem own_d10_30 : decode jdk_65_method_120_code 30 = .ok (.arraylength, 1) := by decide +kernel
theorem own_d10_31 : decode jdk_65_method_120_code 31 = .ok (.iload_n 1, 1) := by decide +kernel
theorem own_d10_32 : decode jdk_65_method_120_code 32 = .ok (.invokestatic 304, 3) := by decide +kernel
theorem own_d10_35 : decode jdk_65_method_120_code 35 = .ok (.invokestatic 150, 3) := by decide +kernel
theorem own_d10_38 : decode jdk_65_method_120_code 38 = .ok (.aload_n 3, 1) := by decide +kernel
theorem own_d10_39 : decode jdk_65_method_120_code 39 = .ok (.areturn, 1) := by decide +kernel
theorem own_d11_0 : decode jdk_29_method_69_code 0 = .ok (.iload_n 0, 1) := by decide +kernel
theorem own_d11_1 : decode jdk_29_method_69_code 1 = .ok (.iload_n 1, 1) := by decide +kernel
theorem own_d11_2 : decode jdk_29_method_69_code 2 = .ok (.if_icmp .gt 7, 3) := by decide +kernel
theorem own_d11_5 : decode jdk_29_method_69_code 5 = .ok (.iload_n 0, 1) := by decide +kernel
theorem own_d11_6 : decode jdk_29_method_69_code 6 = .ok (.goto 4, 3) := by decide +kernel
theorem own_d11_10 : decode jdk_29_method_69_code 10 = .ok (.ireturn, 1) := by decide +kernel
theorem own_d12_0 : decode jdk_65_method_124_code 0 = .ok (.iload_n 1, 1) := by decide +kernel
theorem own_d12_1 : decode jdk_65_method_124_code 1 = .ok (.aload_n 0, 1) := by decide +kernel
theorem own_d12_2 : decode jdk_65_method_124_code 2 = .ok (.arraylength, 1) := by decide +kernel
theorem own_d12_3 : decode jdk_65_method_124_code 3 = .ok (.if_icmp .ne 11, 3) := by decide +kernel
theorem own_d12_14 : decode jdk_65_method_124_code 14 = .ok (.iload_n 1, 1) := by decide +kernel
theorem own_d12_15 : decode jdk_65_method_124_code 15 = .ok (.newarray .long, 2) := by decide +kernel
theorem own_d12_17 : decode jdk_65_method_124_code 17 = .ok (.astore_n 2, 1) := by decide +kernel
theorem own_d12_18 : decode jdk_65_method_124_code 18 = .ok (.aload_n 0, 1) := by decide +kernel
theorem own_d12_19 : decode jdk_65_method_124_code 19 = .ok (.iconst 0, 1) := by decide +kernel
theorem own_d12_20 : decode jdk_65_method_124_code 20 = .ok (.aload_n 2, 1) := by decide +kernel
theorem own_d12_21 : decode jdk_65_method_124_code 21 = .ok (.iconst 0, 1) := by decide +kernel
theorem own_d12_22 : decode jdk_65_method_124_code 22 = .ok (.aload_n 0, 1) := by decide +kernel
theorem own_d12_23 : decode jdk_65_method_124_code 23 = .ok (.arraylength, 1) := by decide +kernel
theorem own_d12_24 : decode jdk_65_method_124_code 24 = .ok (.iload_n 1, 1) := by decide +kernel
theorem own_d12_25 : decode jdk_65_method_124_code 25 = .ok (.invokestatic 304, 3) := by decide +kernel
theorem own_d12_28 : decode jdk_65_method_124_code 28 = .ok (.invokestatic 150, 3) := by decide +kernel
theorem own_d12_31 : decode jdk_65_method_124_code 31 = .ok (.aload_n 2, 1) := by decide +kernel
theorem own_d12_32 : decode jdk_65_method_124_code 32 = .ok (.areturn, 1) := by decide +kernel
theorem own_d13_0 : decode jdk_65_method_123_code 0 = .ok (.iload_n 1, 1) := by decide +kernel
theorem own_d13_1 : decode jdk_65_method_123_code 1 = .ok (.aload_n 0, 1) := by decide +kernel
theorem own_d13_2 : decode jdk_65_method_123_code 2 = .ok (.arraylength, 1) := by decide +kernel
theorem own_d13_3 : decode jdk_65_method_123_code 3 = .ok (.if_icmp .ne 11, 3) := by decide +kernel
theorem own_d13_14 : decode jdk_65_method_123_code 14 = .ok (.iload_n 1, 1) := by decide +kernel
theorem own_d13_15 : decode jdk_65_method_123_code 15 = .ok (.newarray .int, 2) := by decide +kernel
theorem own_d13_17 : decode jdk_65_method_123_code 17 = .ok (.astore_n 2, 1) := by decide +kernel
theorem own_d13_18 : decode jdk_65_method_123_code 18 = .ok (.aload_n 0, 1) := by decide +kernel
theorem own_d13_19 : decode jdk_65_method_123_code 19 = .ok (.iconst 0, 1) := by decide +kernel
theorem own_d13_20 : decode jdk_65_method_123_code 20 = .ok (.aload_n 2, 1) := by decide +kernel
theorem own_d13_21 : decode jdk_65_method_123_code 21 = .ok (.iconst 0, 1) := by decide +kernel
theorem own_d13_22 : decode jdk_65_method_123_code 22 = .ok (.aload_n 0, 1) := by decide +kernel
theorem own_d13_23 : decode jdk_65_method_123_code 23 = .ok (.arraylength, 1) := by decide +kernel
theorem own_d13_24 : decode jdk_65_method_123_code 24 = .ok (.iload_n 1, 1) := by decide +kernel
theorem own_d13_25 : decode jdk_65_method_123_code 25 = .ok (.invokestatic 304, 3) := by decide +kernel
theorem own_d13_28 : decode jdk_65_method_123_code 28 = .ok (.invokestatic 150, 3) := by decide +kernel
theorem own_d13_31 : decode jdk_65_method_123_code 31 = .ok (.aload_n 2, 1) := by decide +kernel
theorem own_d13_32 : decode jdk_65_method_123_code 32 = .ok (.areturn, 1) := by decide +kernel
theorem own_d14_0 : decode prog_18_method_20_code 0 = .ok (.aload_n 0, 1) := by decide +kernel
theorem own_d14_1 : decode prog_18_method_20_code 1 = .ok (.getfield 25, 3) := by decide +kernel
theorem own_d14_4 : decode prog_18_method_20_code 4 = .ok (.iload_n 1, 1) := by decide +kernel
theorem own_d14_5 : decode prog_18_method_20_code 5 = .ok (.aaload, 1) := by decide +kernel
theorem own_d14_6 : decode prog_18_method_20_code 6 = .ok (.astore 4, 2) := by decide +kernel
theorem own_d14_8 : decode prog_18_method_20_code 8 = .ok (.aload_n 0, 1) := by decide +kernel
theorem own_d14_9 : decode prog_18_method_20_code 9 = .ok (.getfield 35, 3) := by decide +kernel
theorem own_d14_12 : decode prog_18_method_20_code 12 = .ok (.iload_n 1, 1) := by decide +kernel
theorem own_d14_13 : decode prog_18_method_20_code 13 = .ok (.iaload, 1) := by decide +kernel
theorem own_d14_14 : decode prog_18_method_20_code 14 = .ok (.istore 5, 2) := by decide +kernel
theorem own_d14_16 : decode prog_18_method_20_code 16 = .ok (.iload_n 3, 1) := by decide +kernel
theorem own_d14_17 : decode prog_18_method_20_code 17 = .ok (.iconst 1, 1) := by decide +kernel
theorem own_d14_18 : decode prog_18_method_20_code 18 = .ok (.isub, 1) := by decide +kernel
theorem own_d14_19 : decode prog_18_method_20_code 19 = .ok (.istore 6, 2) := by decide +kernel
theorem own_d14_21 : decode prog_18_method_20_code 21 = .ok (.iload 6, 2) := by decide +kernel
theorem own_d14_23 : decode prog_18_method_20_code 23 = .ok (.iload_n 2, 1) := by decide +kernel
theorem own_d14_24 : decode prog_18_method_20_code 24 = .ok (.if_icmp .lt 43, 3) := by decide +kernel
theorem own_d14_27 : decode prog_18_method_20_code 27 = .ok (.aload 4, 2) := by decide +kernel
theorem own_d14_29 : decode prog_18_method_20_code 29 = .ok (.iload 6, 2) := by decide +kernel
theorem own_d14_31 : decode prog_18_method_20_code 31 = .ok (.iconst 3, 1) := by decide +kernel
theorem own_d14_32 : decode prog_18_method_20_code 32 = .ok (.invokestatic 71, 3) := by decide +kernel
theorem own_d14_35 : decode prog_18_method_20_code 35 = .ok (.iload 5, 2) := by decide +kernel
theorem own_d14_37 : decode prog_18_method_20_code 37 = .ok (.iastore, 1) := by decide +kernel
theorem own_d14_38 : decode prog_18_method_20_code 38 = .ok (.aload 4, 2) := by decide +kernel
theorem own_d14_40 : decode prog_18_method_20_code 40 = .ok (.iload 6, 2) := by decide +kernel
theorem own_d14_42 : decode prog_18_method_20_code 42 = .ok (.iconst 0, 1) := by decide +kernel
theorem own_d14_43 : decode prog_18_method_20_code 43 = .ok (.invokestatic 71, 3) := by decide +kernel
theorem own_d14_46 : decode prog_18_method_20_code 46 = .ok (.aload_n 0, 1) := by decide +kernel
theorem own_d14_47 : decode prog_18_method_20_code 47 = .ok (.getfield 32, 3) := by decide +kernel
theorem own_d14_50 : decode prog_18_method_20_code 50 = .ok (.iload_n 1, 1) := by decide +kernel
theorem own_d14_51 : decode prog_18_method_20_code 51 = .ok (.iaload, 1) := by decide +kernel
theorem own_d14_52 : decode prog_18_method_20_code 52 = .ok (.iastore, 1) := by decide +kernel
theorem own_d14_53 : decode prog_18_method_20_code 53 = .ok (.aload_n 0, 1) := by decide +kernel
theorem own_d14_54 : decode prog_18_method_20_code 54 = .ok (.getfield 32, 3) := by decide +kernel
theorem own_d14_57 : decode prog_18_method_20_code 57 = .ok (.iload_n 1, 1) := by decide +kernel
theorem own_d14_58 : decode prog_18_method_20_code 58 = .ok (.iload 6, 2) := by decide +kernel
theorem own_d14_60 : decode prog_18_method_20_code 60 = .ok (.iastore, 1) := by decide +kernel
theorem own_d14_61 : decode prog_18_method_20_code 61 = .ok (.iinc 6 (-1), 3) := by decide +kernel
theorem own_d14_64 : decode prog_18_method_20_code 64 = .ok (.goto (-43), 3) := by decide +kernel
theorem own_d14_67 : decode prog_18_method_20_code 67 = .ok (.aload_n 0, 1) := by decide +kernel
theorem own_d14_68 : decode prog_18_method_20_code 68 = .ok (.getfield 41, 3) := by decide +kernel
theorem own_d14_71 : decode prog_18_method_20_code 71 = .ok (.iload_n 1, 1) := by decide +kernel
theorem own_d14_72 : decode prog_18_method_20_code 72 = .ok (.invokevirtual 75, 3) := by decide +kernel
theorem own_d14_75 : decode prog_18_method_20_code 75 = .ok (.aload_n 0, 1) := by decide +kernel
theorem own_d14_76 : decode prog_18_method_20_code 76 = .ok (.dup, 1) := by decide +kernel
theorem own_d14_77 : decode prog_18_method_20_code 77 = .ok (.getfield 88, 3) := by decide +kernel
theorem own_d14_80 : decode prog_18_method_20_code 80 = .ok (.iload_n 3, 1) := by decide +kernel
theorem own_d14_81 : decode prog_18_method_20_code 81 = .ok (.iload_n 2, 1) := by decide +kernel
theorem own_d14_82 : decode prog_18_method_20_code 82 = .ok (.isub, 1) := by decide +kernel
theorem own_d14_83 : decode prog_18_method_20_code 83 = .ok (.iadd, 1) := by decide +kernel
theorem own_d14_84 : decode prog_18_method_20_code 84 = .ok (.putfield 88, 3) := by decide +kernel
theorem own_d14_87 : decode prog_18_method_20_code 87 = .ok (.return_, 1) := by decide +kernel
theorem own_d15_0 : decode prog_18_method_18_code 0 = .ok (.iload_n 0, 1) := by decide +kernel
theorem own_d15_1 : decode prog_18_method_18_code 1 = .ok (.sipush 4095, 3) := by decide +kernel
theorem own_d15_4 : decode prog_18_method_18_code 4 = .ok (.iand, 1) := by decide +kernel
theorem own_d15_5 : decode prog_18_method_18_code 5 = .ok (.iconst 2, 1) := by decide +kernel
theorem own_d15_6 : decode prog_18_method_18_code 6 = .ok (.ishl, 1) := by decide +kernel
theorem own_d15_7 : decode prog_18_method_18_code 7 = .ok (.iload_n 1, 1) := by decide +kernel
theorem own_d15_8 : decode prog_18_method_18_code 8 = .ok (.iadd, 1) := by decide +kernel
theorem own_d15_9 : decode prog_18_method_18_code 9 = .ok (.ireturn, 1) := by decide +kernel
theorem own_d16_0 : decode prog_19_method_2_code 0 = .ok (.iload_n 1, 1) := by decide +kernel
theorem own_d16_1 : decode prog_19_method_2_code 1 = .ok (.bipush 6, 2) := by decide +kernel
theorem own_d16_3 : decode prog_19_method_2_code 3 = .ok (.iushr, 1) := by decide +kernel
theorem own_d16_4 : decode prog_19_method_2_code 4 = .ok (.istore_n 2, 1) := by decide +kernel
theorem own_d16_5 : decode prog_19_method_2_code 5 = .ok (.aload_n 0, 1) := by decide +kernel
theorem own_d16_6 : decode prog_19_method_2_code 6 = .ok (.getfield 9, 3) := by decide +kernel
theorem own_d16_9 : decode prog_19_method_2_code 9 = .ok (.iload_n 2, 1) := by decide +kernel
theorem own_d16_10 : decode prog_19_method_2_code 10 = .ok (.dup2, 1) := by decide +kernel
theorem own_d16_11 : decode prog_19_method_2_code 11 = .ok (.laload, 1) := by decide +kernel
theorem own_d16_12 : decode prog_19_method_2_code 12 = .ok (.lconst 1, 1) := by decide +kernel
theorem own_d16_13 : decode prog_19_method_2_code 13 = .ok (.iload_n 1, 1) := by decide +kernel
theorem own_d16_14 : decode prog_19_method_2_code 14 = .ok (.lshl, 1) := by decide +kernel
theorem own_d16_15 : decode prog_19_method_2_code 15 = .ok (.lor, 1) := by decide +kernel
theorem own_d16_16 : decode prog_19_method_2_code 16 = .ok (.lastore, 1) := by decide +kernel
theorem own_d16_17 : decode prog_19_method_2_code 17 = .ok (.aload_n 0, 1) := by decide +kernel
theorem own_d16_18 : decode prog_19_method_2_code 18 = .ok (.getfield 15, 3) := by decide +kernel
theorem own_d16_21 : decode prog_19_method_2_code 21 = .ok (.iload_n 2, 1) := by decide +kernel
theorem own_d16_22 : decode prog_19_method_2_code 22 = .ok (.bipush 6, 2) := by decide +kernel
theorem own_d16_24 : decode prog_19_method_2_code 24 = .ok (.iushr, 1) := by decide +kernel
theorem own_d16_25 : decode prog_19_method_2_code 25 = .ok (.dup2, 1) := by decide +kernel
theorem own_d16_26 : decode prog_19_method_2_code 26 = .ok (.laload, 1) := by decide +kernel
theorem own_d16_27 : decode prog_19_method_2_code 27 = .ok (.lconst 1, 1) := by decide +kernel
theorem own_d16_28 : decode prog_19_method_2_code 28 = .ok (.iload_n 2, 1) := by decide +kernel
theorem own_d16_29 : decode prog_19_method_2_code 29 = .ok (.lshl, 1) := by decide +kernel
theorem own_d16_30 : decode prog_19_method_2_code 30 = .ok (.lor, 1) := by decide +kernel
theorem own_d16_31 : decode prog_19_method_2_code 31 = .ok (.lastore, 1) := by decide +kernel
theorem own_d16_32 : decode prog_19_method_2_code 32 = .ok (.return_, 1) := by decide +kernel
theorem own_d17_0 : decode prog_18_method_11_code 0 = .ok (.aload_n 0, 1) := by decide +kernel
theorem own_d17_1 : decode prog_18_method_11_code 1 = .ok (.getfield 25, 3) := by decide +kernel
theorem own_d17_4 : decode prog_18_method_11_code 4 = .ok (.iload_n 1, 1) := by decide +kernel
theorem own_d17_5 : decode prog_18_method_11_code 5 = .ok (.bipush 12, 2) := by decide +kernel
theorem own_d17_7 : decode prog_18_method_11_code 7 = .ok (.iushr, 1) := by decide +kernel
theorem own_d17_8 : decode prog_18_method_11_code 8 = .ok (.aaload, 1) := by decide +kernel
theorem own_d17_9 : decode prog_18_method_11_code 9 = .ok (.iload_n 1, 1) := by decide +kernel
theorem own_d17_10 : decode prog_18_method_11_code 10 = .ok (.iconst 0, 1) := by decide +kernel
theorem own_d17_11 : decode prog_18_method_11_code 11 = .ok (.invokestatic 71, 3) := by decide +kernel
theorem own_d17_14 : decode prog_18_method_11_code 14 = .ok (.iaload, 1) := by decide +kernel
theorem own_d17_15 : decode prog_18_method_11_code 15 = .ok (.ireturn, 1) := by decide +kernel
theorem own_d18_0 : decode prog_18_method_10_code 0 = .ok (.aload_n 0, 1) := by decide +kernel
theorem own_d18_1 : decode prog_18_method_10_code 1 = .ok (.getfield 19, 3) := by decide +kernel
theorem own_d18_4 : decode prog_18_method_10_code 4 = .ok (.iload_n 1, 1) := by decide +kernel
theorem own_d18_5 : decode prog_18_method_10_code 5 = .ok (.bipush 12, 2) := by decide +kernel
theorem own_d18_7 : decode prog_18_method_10_code 7 = .ok (.iushr, 1) := by decide +kernel
theorem own_d18_8 : decode prog_18_method_10_code 8 = .ok (.aaload, 1) := by decide +kernel
theorem own_d18_9 : decode prog_18_method_10_code 9 = .ok (.iload_n 1, 1) := by decide +kernel
theorem own_d18_10 : decode prog_18_method_10_code 10 = .ok (.sipush 4095, 3) := by decide +kernel
theorem own_d18_13 : decode prog_18_method_10_code 13 = .ok (.iand, 1) := by decide +kernel
theorem own_d18_14 : decode prog_18_method_10_code 14 = .ok (.lload_n 2, 1) := by decide +kernel
theorem own_d18_15 : decode prog_18_method_10_code 15 = .ok (.lastore, 1) := by decide +kernel
theorem own_d18_16 : decode prog_18_method_10_code 16 = .ok (.return_, 1) := by decide +kernel
theorem own_d19_0 : decode jdk_35_method_49_code 0 = .ok (.lload_n 0, 1) := by decide +kernel
theorem own_d19_1 : decode jdk_35_method_49_code 1 = .ok (.l2i, 1) := by decide +kernel
theorem own_d19_2 : decode jdk_35_method_49_code 2 = .ok (.istore_n 2, 1) := by decide +kernel
theorem own_d19_3 : decode jdk_35_method_49_code 3 = .ok (.iload_n 2, 1) := by decide +kernel
theorem own_d19_4 : decode jdk_35_method_49_code 4 = .ok (.ifCond .ne 17, 3) := by decide +kernel
theorem own_d19_21 : decode jdk_35_method_49_code 21 = .ok (.iload_n 2, 1) := by decide +kernel
theorem own_d19_22 : decode jdk_35_method_49_code 22 = .ok (.invokestatic 311, 3) := by decide +kernel
theorem own_d19_25 : decode jdk_35_method_49_code 25 = .ok (.ireturn, 1) := by decide +kernel
theorem own_d20_0 : decode jdk_33_method_48_code 0 = .ok (.iload_n 0, 1) := by decide +kernel
theorem own_d20_1 : decode jdk_33_method_48_code 1 = .ok (.iconst (-1), 1) := by decide +kernel
theorem own_d20_2 : decode jdk_33_method_48_code 2 = .ok (.ixor, 1) := by decide +kernel
theorem own_d20_3 : decode jdk_33_method_48_code 3 = .ok (.iload_n 0, 1) := by decide +kernel
theorem own_d20_4 : decode jdk_33_method_48_code 4 = .ok (.iconst 1, 1) := by decide +kernel
theorem own_d20_5 : decode jdk_33_method_48_code 5 = .ok (.isub, 1) := by decide +kernel
theorem own_d20_6 : decode jdk_33_method_48_code 6 = .ok (.iand, 1) := by decide +kernel
theorem own_d20_7 : decode jdk_33_method_48_code 7 = .ok (.istore_n 0, 1) := by decide +kernel
theorem own_d20_8 : decode jdk_33_method_48_code 8 = .ok (.iload_n 0, 1) := by decide +kernel
theorem own_d20_9 : decode jdk_33_method_48_code 9 = .ok (.ifCond .gt 8, 3) := by decide +kernel
theorem own_d20_12 : decode jdk_33_method_48_code 12 = .ok (.iload_n 0, 1) := by decide +kernel
theorem own_d20_13 : decode jdk_33_method_48_code 13 = .ok (.bipush 32, 2) := by decide +kernel
theorem own_d20_15 : decode jdk_33_method_48_code 15 = .ok (.iand, 1) := by decide +kernel
theorem own_d20_16 : decode jdk_33_method_48_code 16 = .ok (.ireturn, 1) := by decide +kernel
theorem own_d21_0 : decode prog_18_method_9_code 0 = .ok (.aload_n 0, 1) := by decide +kernel
theorem own_d21_1 : decode prog_18_method_9_code 1 = .ok (.getfield 19, 3) := by decide +kernel
theorem own_d21_4 : decode prog_18_method_9_code 4 = .ok (.iload_n 1, 1) := by decide +kernel
theorem own_d21_5 : decode prog_18_method_9_code 5 = .ok (.bipush 12, 2) := by decide +kernel
theorem own_d21_7 : decode prog_18_method_9_code 7 = .ok (.iushr, 1) := by decide +kernel
theorem own_d21_8 : decode prog_18_method_9_code 8 = .ok (.aaload, 1) := by decide +kernel
theorem own_d21_9 : decode prog_18_method_9_code 9 = .ok (.iload_n 1, 1) := by decide +kernel
theorem own_d21_10 : decode prog_18_method_9_code 10 = .ok (.sipush 4095, 3) := by decide +kernel
theorem own_d21_13 : decode prog_18_method_9_code 13 = .ok (.iand, 1) := by decide +kernel
theorem own_d21_14 : decode prog_18_method_9_code 14 = .ok (.laload, 1) := by decide +kernel
theorem own_d21_15 : decode prog_18_method_9_code 15 = .ok (.lreturn, 1) := by decide +kernel
theorem own_d22_0 : decode prog_18_method_3_code 0 = .ok (.iload_n 1, 1) := by decide +kernel
theorem own_d22_1 : decode prog_18_method_3_code 1 = .ok (.bipush 12, 2) := by decide +kernel
theorem own_d22_3 : decode prog_18_method_3_code 3 = .ok (.iushr, 1) := by decide +kernel
theorem own_d22_4 : decode prog_18_method_3_code 4 = .ok (.istore_n 2, 1) := by decide +kernel
theorem own_d22_5 : decode prog_18_method_3_code 5 = .ok (.aload_n 0, 1) := by decide +kernel
theorem own_d22_6 : decode prog_18_method_3_code 6 = .ok (.getfield 13, 3) := by decide +kernel
theorem own_d22_9 : decode prog_18_method_3_code 9 = .ok (.iload_n 2, 1) := by decide +kernel
theorem own_d22_10 : decode prog_18_method_3_code 10 = .ok (.aaload, 1) := by decide +kernel
theorem own_d22_11 : decode prog_18_method_3_code 11 = .ok (.iload_n 1, 1) := by decide +kernel
theorem own_d22_12 : decode prog_18_method_3_code 12 = .ok (.sipush 4095, 3) := by decide +kernel
theorem own_d22_15 : decode prog_18_method_3_code 15 = .ok (.iand, 1) := by decide +kernel
theorem own_d22_16 : decode prog_18_method_3_code 16 = .ok (.aconst_null, 1) := by decide +kernel
theorem own_d22_17 : decode prog_18_method_3_code 17 = .ok (.aastore, 1) := by decide +kernel
theorem own_d22_18 : decode prog_18_method_3_code 18 = .ok (.aload_n 0, 1) := by decide +kernel
theorem own_d22_19 : decode prog_18_method_3_code 19 = .ok (.getfield 25, 3) := by decide +kernel
theorem own_d22_22 : decode prog_18_method_3_code 22 = .ok (.iload_n 2, 1) := by decide +kernel
theorem own_d22_23 : decode prog_18_method_3_code 23 = .ok (.aaload, 1) := by decide +kernel
theorem own_d22_24 : decode prog_18_method_3_code 24 = .ok (.iload_n 1, 1) := by decide +kernel
theorem own_d22_25 : decode prog_18_method_3_code 25 = .ok (.iconst 3, 1) := by decide +kernel
theorem own_d22_26 : decode prog_18_method_3_code 26 = .ok (.invokestatic 71, 3) := by decide +kernel
theorem own_d22_29 : decode prog_18_method_3_code 29 = .ok (.dup2, 1) := by decide +kernel
theorem own_d22_30 : decode prog_18_method_3_code 30 = .ok (.iaload, 1) := by decide +kernel
theorem own_d22_31 : decode prog_18_method_3_code 31 = .ok (.iconst 1, 1) := by decide +kernel
theorem own_d22_32 : decode prog_18_method_3_code 32 = .ok (.iadd, 1) := by decide +kernel
theorem own_d22_33 : decode prog_18_method_3_code 33 = .ok (.iastore, 1) := by decide +kernel
theorem own_d22_34 : decode prog_18_method_3_code 34 = .ok (.aload_n 0, 1) := by decide +kernel
theorem own_d22_35 : decode prog_18_method_3_code 35 = .ok (.getfield 32, 3) := by decide +kernel
theorem own_d22_38 : decode prog_18_method_3_code 38 = .ok (.iload_n 2, 1) := by decide +kernel
theorem own_d22_39 : decode prog_18_method_3_code 39 = .ok (.iaload, 1) := by decide +kernel
theorem own_d22_40 : decode prog_18_method_3_code 40 = .ok (.iconst (-1), 1) := by decide +kernel
theorem own_d22_41 : decode prog_18_method_3_code 41 = .ok (.if_icmp .ne 11, 3) := by decide +kernel
theorem own_d22_52 : decode prog_18_method_3_code 52 = .ok (.aload_n 0, 1) := by decide +kernel
theorem own_d22_53 : decode prog_18_method_3_code 53 = .ok (.iload_n 1, 1) := by decide +kernel
theorem own_d22_54 : decode prog_18_method_3_code 54 = .ok (.aload_n 0, 1) := by decide +kernel
theorem own_d22_55 : decode prog_18_method_3_code 55 = .ok (.getfield 32, 3) := by decide +kernel
theorem own_d22_58 : decode prog_18_method_3_code 58 = .ok (.iload_n 2, 1) := by decide +kernel
theorem own_d22_59 : decode prog_18_method_3_code 59 = .ok (.iaload, 1) := by decide +kernel
theorem own_d22_60 : decode prog_18_method_3_code 60 = .ok (.invokevirtual 78, 3) := by decide +kernel
theorem own_d22_63 : decode prog_18_method_3_code 63 = .ok (.aload_n 0, 1) := by decide +kernel
theorem own_d22_64 : decode prog_18_method_3_code 64 = .ok (.getfield 32, 3) := by decide +kernel
theorem own_d22_67 : decode prog_18_method_3_code 67 = .ok (.iload_n 2, 1) := by decide +kernel
theorem own_d22_68 : decode prog_18_method_3_code 68 = .ok (.iload_n 1, 1) := by decide +kernel
theorem own_d22_69 : decode prog_18_method_3_code 69 = .ok (.iastore, 1) := by decide +kernel
theorem own_d22_70 : decode prog_18_method_3_code 70 = .ok (.aload_n 0, 1) := by decide +kernel
theorem own_d22_71 : decode prog_18_method_3_code 71 = .ok (.dup, 1) := by decide +kernel
theorem own_d22_72 : decode prog_18_method_3_code 72 = .ok (.getfield 68, 3) := by decide +kernel
theorem own_d22_75 : decode prog_18_method_3_code 75 = .ok (.iconst 1, 1) := by decide +kernel
theorem own_d22_76 : decode prog_18_method_3_code 76 = .ok (.isub, 1) := by decide +kernel
theorem own_d22_77 : decode prog_18_method_3_code 77 = .ok (.putfield 68, 3) := by decide +kernel
theorem own_d22_80 : decode prog_18_method_3_code 80 = .ok (.aload_n 0, 1) := by decide +kernel
theorem own_d22_81 : decode prog_18_method_3_code 81 = .ok (.getfield 29, 3) := by decide +kernel
theorem own_d22_84 : decode prog_18_method_3_code 84 = .ok (.iload_n 2, 1) := by decide +kernel
theorem own_d22_85 : decode prog_18_method_3_code 85 = .ok (.dup2, 1) := by decide +kernel
theorem own_d22_86 : decode prog_18_method_3_code 86 = .ok (.iaload, 1) := by decide +kernel
theorem own_d22_87 : decode prog_18_method_3_code 87 = .ok (.iconst 1, 1) := by decide +kernel
theorem own_d22_88 : decode prog_18_method_3_code 88 = .ok (.isub, 1) := by decide +kernel
theorem own_d22_89 : decode prog_18_method_3_code 89 = .ok (.dup_x2, 1) := by decide +kernel
theorem own_d22_90 : decode prog_18_method_3_code 90 = .ok (.iastore, 1) := by decide +kernel
theorem own_d22_91 : decode prog_18_method_3_code 91 = .ok (.ifCond .ne 8, 3) := by decide +kernel
theorem own_d22_99 : decode prog_18_method_3_code 99 = .ok (.return_, 1) := by decide +kernel
theorem own_d23_0 : decode prog_18_method_12_code 0 = .ok (.aload_n 0, 1) := by decide +kernel
theorem own_d23_1 : decode prog_18_method_12_code 1 = .ok (.getfield 25, 3) := by decide +kernel
theorem own_d23_4 : decode prog_18_method_12_code 4 = .ok (.iload_n 1, 1) := by decide +kernel
theorem own_d23_5 : decode prog_18_method_12_code 5 = .ok (.bipush 12, 2) := by decide +kernel
theorem own_d23_7 : decode prog_18_method_12_code 7 = .ok (.iushr, 1) := by decide +kernel
theorem own_d23_8 : decode prog_18_method_12_code 8 = .ok (.aaload, 1) := by decide +kernel
theorem own_d23_9 : decode prog_18_method_12_code 9 = .ok (.iload_n 1, 1) := by decide +kernel
theorem own_d23_10 : decode prog_18_method_12_code 10 = .ok (.iconst 0, 1) := by decide +kernel
theorem own_d23_11 : decode prog_18_method_12_code 11 = .ok (.invokestatic 71, 3) := by decide +kernel
theorem own_d23_14 : decode prog_18_method_12_code 14 = .ok (.iload_n 2, 1) := by decide +kernel
theorem own_d23_15 : decode prog_18_method_12_code 15 = .ok (.iastore, 1) := by decide +kernel
theorem own_d23_16 : decode prog_18_method_12_code 16 = .ok (.return_, 1) := by decide +kernel
theorem own_pn0 : plainName "com/example/libspoke/libspoke/wheel/EntryTable" = true := by first | (simp [plainName, overriddenIn]; done) | decide +kernel
theorem own_pn1 : plainName "java/lang/Integer" = true := by first | (simp [plainName, overriddenIn]; done) | decide +kernel
theorem own_pn2 : plainName "java/lang/Long" = true := by first | (simp [plainName, overriddenIn]; done) | decide +kernel
theorem own_pn3 : plainName "com/example/libspoke/libspoke/wheel/EntryTable$PageSet" = true := by first | (simp [plainName, overriddenIn]; done) | decide +kernel
theorem own_pn4 : plainName "java/util/Arrays" = true := by first | (simp [plainName, overriddenIn]; done) | decide +kernel
theorem own_pn5 : plainName "com/example/libspoke/libspoke/wheel/EntryTableDeadlinePinLaw" = true := by first | (simp [plainName, overriddenIn]; done) | decide +kernel
theorem own_pd0 : parseMethodDescriptor "(I)I" = some ⟨[.int], some .int⟩ := by decide +kernel
theorem own_pd1 : parseMethodDescriptor "()V" = some ⟨[], none⟩ := by decide +kernel
theorem own_pd2 : parseMethodDescriptor "(J)I" = some ⟨[.long], some .int⟩ := by decide +kernel
theorem own_pd3 : parseMethodDescriptor "(II)I" = some ⟨[.int, .int], some .int⟩ := by decide +kernel
theorem own_pd4 : parseMethodDescriptor "([Ljava/lang/Object;ILjava/lang/Class;)[Ljava/lang/Object;" = some ⟨[(.array (.object "java/lang/Object")), .int, (.object "java/lang/Class")], some (.array (.object "java/lang/Object"))⟩ := by decide +kernel
theorem own_pd5 : parseMethodDescriptor "(I)V" = some ⟨[.int], none⟩ := by decide +kernel
theorem own_pd6 : parseMethodDescriptor "([Ljava/lang/Object;I)[Ljava/lang/Object;" = some ⟨[(.array (.object "java/lang/Object")), .int], some (.array (.object "java/lang/Object"))⟩ := by decide +kernel
theorem own_pd7 : parseMethodDescriptor "([JI)[J" = some ⟨[(.array .long), .int], some (.array .long)⟩ := by decide +kernel
theorem own_pd8 : parseMethodDescriptor "([II)[I" = some ⟨[(.array .int), .int], some (.array .int)⟩ := by decide +kernel
theorem own_pd9 : parseMethodDescriptor "(III)V" = some ⟨[.int, .int, .int], none⟩ := by decide +kernel
theorem own_pd10 : parseMethodDescriptor "()I" = some ⟨[], some .int⟩ := by decide +kernel
theorem own_pd11 : parseMethodDescriptor "(IJ)V" = some ⟨[.int, .long], none⟩ := by decide +kernel
theorem own_pd12 : parseMethodDescriptor "(I)Ljava/lang/Integer;" = some ⟨[.int], some (.object "java/lang/Integer")⟩ := by decide +kernel
theorem own_pd13 : parseMethodDescriptor "(Ljava/lang/Object;J)I" = some ⟨[(.object "java/lang/Object"), .long], some .int⟩ := by decide +kernel
theorem own_pd14 : parseMethodDescriptor "(I)J" = some ⟨[.int], some .long⟩ := by decide +kernel
theorem own_pd15 : parseMethodDescriptor "(II)V" = some ⟨[.int, .int], none⟩ := by decide +kernel
def own_Mir (Z : State) (C : String) (m : Addr) : Prop := ∃ (c : ClassId) (k : Class), Z.vm.findClass C = some c ∧ Z.vm.classes[c]? = some k ∧ k.mirror = some m
def own_Nd (L : List Addr) : Prop := L.Pairwise (fun x y => x ≠ y)
theorem own_nd0 : own_Nd [] := List.Pairwise.nil
theorem own_ndc {x : Addr} {L : List Addr} (q : ∀ y ∈ L, x ≠ y) (r : own_Nd L) : own_Nd (x :: L) := List.Pairwise.cons q r
theorem own_ne {L : List Addr} (q : own_Nd L) : ∀ {i j : Nat} {x y : Addr}, L[i]? = some x → L[j]? = some y → i < j → x ≠ y := by
  induction q with
  | nil => intro i j x y hi; simp at hi
  | cons hz _ ih =>
    intro i j x y hi hj hij
    cases j with
    | zero => omega
    | succ j =>
      cases i with
      | zero =>
        simp at hi hj
        subst hi
        exact hz _ (List.mem_of_getElem? hj)
      | succ i =>
        simp at hi hj
        exact ih hi hj (by omega)
def own_At (Z : State) (w : Addr) (j : Int32) (y : Addr) : Prop := ∃ cl : Cell, Arr Z Z.heap w cl (.object "java/lang/Integer") ∧ ¬ (j < 0 ∨ cl.slots.size ≤ j.toNatClampNeg) ∧ cl.slots[j.toNatClampNeg]? = some (.ref y)
theorem own_exaI {Z : State} {args : Array Value} {idx : List Nat} {t : Term} {a : Addr} {K : String} (ev : t.eval args Z none idx Z = some (.ref a)) (hx : (Jvm.Cond.exactly t K).value args Z none Z idx = some true) : Exa Z Z.heap a K := by
  obtain ⟨a', c', cell, k, e1, e2, e3, e4, e5, rfl, e7⟩ := Cond.exactly_spec (beq_iff_eq.mpr hx : (Jvm.Cond.exactly t K).holds args Z none Z idx = true)
  cases ev.symm.trans e1
  exact ⟨cell, k, e3, e2, e4, e5, e7⟩
theorem own_size {s : State} {args : Array Value} {t : Term} {a : Addr} {cl : Cell} {ty : FieldType} {k : Int32} (ev : t.eval args s none [] s = some (.ref a)) (A : Arr s s.heap a cl ty) (h : (Jvm.Cond.eq (.length t) (.int k)).value args s none s [] = some true) : cl.slots.size < 2 ^ 31 ∧ cl.slots.size.toInt32 = k := by
  have h2 := own_eqI h
  have ha : s.arrayAt? a = some cl := A.fin (Vm.Alike.refl _)
  by_cases q : cl.slots.size < 2 ^ 31
  · rw [len_f ev ha q] at h2
    exact ⟨q, by simpa using h2⟩
  · simp [Term.eval, ev, ha, q] at h2
theorem own_cacheI {s : State} {args : Array Value} {w : Addr} {K n d : String} {B : Jvm.Cond} (ev : (Term.static K n d).eval args s none [] s = some (.ref w)) (hA : (Jvm.Cond.arrayOf (.static K n d) (.object "java/lang/Integer")).value args s none s [] = some true) (hL : (Jvm.Cond.eq (.length (.static K n d)) (.int 256)).value args s none s [] = some true)
    (hAll : (Jvm.Cond.all (.static K n d) (.and (.exactly (.elem (.static K n d) (.index 0)) "java/lang/Integer") B)).value args s none s [] = some true) (i : Nat) (hi : i < 256) : ∃ y : Addr, own_At s w i.toInt32 y ∧ Exa s s.heap y "java/lang/Integer" := by
  obtain ⟨cl, A⟩ := Arr.start ev hA
  obtain ⟨b1, b2⟩ := own_size ev A hL
  have b3 := len_toInt b1
  rw [b2] at b3
  have e256 : (256 : Int32).toInt = 256 := by decide
  have ha : s.arrayAt? w = some cl := A.fin (Vm.Alike.refl _)
  have hc := Cond.all_elim ev ha hAll i (by omega)
  obtain ⟨c1, c2⟩ := and_e hc
  obtain ⟨y, ey⟩ := exa_v c1
  have Ey := own_exaI ey c1
  have ev' : (Term.static K n d).eval args s none [i] s = some (.ref w) := ev
  have ej : (Term.index 0).eval args s none [i] s = some (.int i.toInt32) := rfl
  obtain ⟨hin, hat⟩ := elem_in ey ev' ej A.1
  exact ⟨y, ⟨cl, A, hin, hat⟩, Ey⟩
theorem own_dupX2 {tb : Tables} [Ours tb] {e : Env} {below : List Frame} {T target : State} {m : MethodId} {c : Code} {g : JFrame} (h : At T m c below) (hx : tb.exec = Jvm.exec) (hg : g.method = m) {x y z : Value} {rest : List Value} (hd : decode c.code g.pc = .ok (.dup_x2, 1)) (hs : g.stack = x :: y :: z :: rest) (hc : x.category = 1) (hc' : y.category = 1) (hc2 : z.category = 1)
    (hr : Steps tb e below (T.setTop { g with pc := g.pc + 1, stack := x :: y :: z :: x :: rest }) target) : Steps tb e below (T.setTop g) target := by
  subst hg
  jvm_step h [h.top, hx, hd, hs, hc, hc', hc2]
  exact hr
section Own
variable {p : Program} {l : Launch} {e : Env} {R : Room} {s : State} {m : MethodId} {args : Array Value} {below : List Frame} {meth : Method} {c : Code} {T : State} {locs : List Loc} {cells slots : Nat} {Z : State} {h : Heap} {a : Addr} {a0 : Array Value}
theorem own_gcls (X : Stand p l e R s m args below meth c T locs cells slots) (hx : p.tables.exec = Jvm.exec) (hZ : Z.Warmed39 s.vm) {own C : String} {index : Nat} (hown : s.vm.findClass own = some m.cls)
    (w1 : (Jvm.Cond.methodLink own index ⟨"java/lang/Object", "getClass", "()Ljava/lang/Class;"⟩).before a0 Z = true) (w2 : (Jvm.Cond.declares ⟨"java/lang/Object", "getClass", "()Ljava/lang/Class;"⟩).before a0 Z = true) (w4 : (Jvm.Cond.selects C ⟨"java/lang/Object", "getClass", "()Ljava/lang/Class;"⟩ ⟨"java/lang/Object", "getClass", "()Ljava/lang/Class;"⟩).before a0 Z = true)
    (w5 : (Jvm.Cond.instanceMethod ⟨"java/lang/Object", "getClass", "()Ljava/lang/Class;"⟩).before a0 Z = true) (w6 : (Jvm.Cond.native ⟨"java/lang/Object", "getClass", "()Ljava/lang/Class;"⟩).before a0 Z = true) (eT : T.heap = h) (E : Exa Z h a C) {mr : Addr} (M : own_Mir Z C mr)
    {g : JFrame} (hg : g.method = m) (hsize : g.locals.size = c.maxLocals) {rest : List Value} (hs : g.stack = .ref a :: rest) (hd : decode c.code g.pc = .ok (.invokevirtual index, 3)) (hf : 1 ≤ R.frames) {W : Nat} (hW : 2 * g.monitorRoom + (rest.map fun v => v.category).sum ≤ W) (hl : W + 14 ≤ R.locals) :
    ∃ T', Stand p l e R s m args below meth c T' locs cells slots ∧ T'.heap = h ∧ ∀ target, Steps p.tables e below (T'.setTop { g with pc := g.pc + 3, stack := .ref mr :: rest }) target → Steps p.tables e below (T.setTop g) target := by
  have hroom : 2 * g.monitorRoom + (rest.map fun v => v.category).sum + (nativeFrameWords "java/lang/Object" "getClass" 1 + 11) ≤ R.locals := by
    have q : nativeFrameWords "java/lang/Object" "getClass" 1 = 3 := by decide
    rw [q]; omega
  have E' := isOf hZ eT E
  obtain ⟨cc, kc, m1, m2, m3⟩ := M
  have n1 : s.vm.findClass C = some cc := by rw [hZ.alike.findClass]; exact m1
  obtain ⟨cB, kB, i1, i2, i3⟩ := E'
  obtain rfl : cB = cc := Option.some.inj (i1.symm.trans n1)
  obtain ⟨k', q, ek⟩ := hZ.alike.2.2 _ _ m2
  have n3 : k'.mirror = some mr := by rw [ek]; exact m3
  obtain ⟨vm', X', st⟩ := X.getClassOf hx hown (mvT hZ w1) (mvT hZ w2) (notFace_of_selects (args := #[]) (mvT hZ w4)) (mvT hZ w4) (mvT hZ w5) (mvT hZ w6) n1 i3 q n3 hg hsize hs hd hf hroom
  exact ⟨_, X', eT, st⟩
theorem own_ldcM (X : Stand p l e R s m args below meth c T locs cells slots) (hx : p.tables.exec = Jvm.exec) (hZ : Z.Warmed39 s.vm) {own C : String} {index : Nat} (hown : s.vm.findClass own = some m.cls)
    (w : (Jvm.Cond.classLink own index C).before a0 Z = true) (eT : T.heap = h) {mr : Addr} (M : own_Mir Z C mr) {g : JFrame} (hg : g.method = m) (hd : decode c.code g.pc = .ok (.ldc index, 2)) :
    ∃ T', Stand p l e R s m args below meth c T' locs cells slots ∧ T'.heap = h ∧ ∀ target, Steps p.tables e below (T'.setTop { g with pc := g.pc + 2, stack := .ref mr :: g.stack }) target → Steps p.tables e below (T.setTop g) target := by
  obtain ⟨cc, kc, m1, m2, m3⟩ := M
  have n1 : s.vm.findClass C = some cc := by rw [hZ.alike.findClass]; exact m1
  obtain ⟨k', q, ek⟩ := hZ.alike.2.2 _ _ m2
  have n3 : k'.mirror = some mr := by rw [ek]; exact m3
  have hev : (Term.mirror C).eval args s none [] s = some (.ref mr) := by simp [Term.eval, n1, q, n3]
  obtain ⟨vm', X', st⟩ := X.ldcMirror hx hown (mvT hZ w) hev hg hd
  exact ⟨_, X', eT, st⟩
theorem own_mvR {own : String} {index : Nat} {y : MethodName} (hZ : Z.Warmed39 s.vm) (wi : (Jvm.Cond.instanceMethod y).before a0 Z = true) (hy : y.cls ≠ "java/lang/invoke/MethodHandle" ∧ y.cls ≠ "java/lang/invoke/VarHandle") (w : (Jvm.Cond.methodRef own index y).before a0 Z = true) : (Jvm.Cond.methodRef own index y).before args s = true := by
  obtain ⟨mk, methM, hn, -, -, -⟩ := Cond.instanceMethod_spec wi
  have q := Cond.methodRef_warmed39 hZ hn hy w
  exact q
theorem own_selP {y0 y : MethodName} {C : String} (w : (Jvm.Cond.selects C y0 y0).before args s = true) (hc : y0.cls = y.cls) (hp : s.PrivateAt y) (hi : (Jvm.Cond.instanceMethod y).before args s = true) (hy : y.cls ≠ "java/lang/invoke/MethodHandle" ∧ y.cls ≠ "java/lang/invoke/VarHandle") : (Jvm.Cond.selects y.cls y y).before args s = true := by
  obtain ⟨c2, r2, m2, q1, q2, q3, q4, kP, hkP, hkPi⟩ := Cond.selects_spec w
  exact Jvm.Stand.selects_self_of_private (hc ▸ findClass_of_methodNamed q3) hkP hkPi hp hi hy
theorem own_specialRef (X : Stand p l e R s m args below meth c T locs cells slots) (hx : p.tables.exec = Jvm.exec) {own : String} {index : Nat} {y : MethodName} (hy1 : y.name = "<init>")
    (hown : s.vm.findClass own = some m.cls) (href : (Jvm.Cond.methodRef own index y).before args s = true) (hinst : (Jvm.Cond.instanceMethod y).before args s = true)
    {bytes : ByteArray} {maxL : Nat} (hcode : (Jvm.Cond.code y bytes maxL none).before args s = true) (hy : y.cls ≠ "java/lang/invoke/MethodHandle" ∧ y.cls ≠ "java/lang/invoke/VarHandle")
    {W : Nat} {Pre : Pt → Array Value → Prop} {Post : Pt → Array Value → Option Value → Pt → Prop} (hK : Back l R p e below s args y 3 W Pre Post)
    {g : JFrame} (hg : g.method = m) (hsize : g.locals.size = c.maxLocals) {s₀ : State} (hcome : Steps p.tables e below s₀ (T.setTop g)) {a : Addr} {argsL rest : List Value}
    (hlen : ∀ sig, parseMethodDescriptor y.desc = some sig → argsL.length = sig.parameters.length) (hstack : g.stack = argsL.reverse ++ .ref a :: rest) (hW : 2 * g.monitorRoom + (rest.map fun v => v.category).sum ≤ W)
    (hdg : decode c.code g.pc = .ok (.invokespecial index, 3)) (hpre : ∀ vm₁, s.WarmedH vm₁ → Pre ⟨T.setVm vm₁, locs, cells, slots⟩ (.ref a :: argsL).toArray) :
    ∃ (v : Option Value) (vm₁ : Vm) (B : Pt), s.WarmedH vm₁ ∧ Stand p l e R s m args below meth c B.U B.locs B.cells B.slots ∧ Post ⟨T.setVm vm₁, locs, cells, slots⟩ (.ref a :: argsL).toArray v B ∧
      Steps p.tables e below s₀ (B.U.setTop { g with pc := g.pc + 3, stack := v.toList ++ rest }) := by
  subst hg
  have hWm : s.WarmedH T.vm := X.warmed
  obtain ⟨mk, methM, hn, hmM, hst, hab⟩ := Cond.instanceMethod_spec hinst
  obtain ⟨methM', cM, hmM', -, -, -, -, -, -, hsig⟩ := Cond.code_spec hn hcode
  cases hmM.symm.trans hmM'
  obtain ⟨hname, hdesc⟩ := name_of_methodNamed hn hmM
  obtain ⟨kM, hkM, -⟩ := className_of_methodNamed hn
  have hrefT : (Jvm.Cond.methodRef own index y).before args (s.setVm T.vm) = true := Cond.methodRef_warmed hWm hn hy href
  have hownT : (s.setVm T.vm).vm.findClass own = some g.method.cls := by
    show T.vm.findClass own = _
    rw [hWm.alike.findClass]; exact hown
  obtain ⟨r, c', hf, hready, hfind, hnamed⟩ := Cond.methodRef_named e hownT hrefT
  have hnT : (s.setVm T.vm).methodNamed? y = some mk := by rw [State.methodNamed?_setVm hWm.alike]; exact hn
  cases (State.methodFound?_of_named hnT hy).symm.trans hf
  cases (findClass_of_methodNamed hnT).symm.trans hfind
  obtain ⟨k₁, hk₁, ek₁⟩ := hWm.alike.2.2 _ _ hkM
  have hm₁ : T.vm.method? mk = some methM := by rw [hWm.alike.method?]; exact hmM
  have hfound : lookupSpecial T.vm mk.cls "<init>" methM.desc = .method mk := by
    rw [hWm.alike.lookupSpecial, hdesc, ← hy1]; exact lookupSpecial_of_named hn hmM hst
  have hp : Pre ⟨T, locs, cells, slots⟩ (Value.ref a :: argsL).toArray := hpre T.vm hWm
  obtain ⟨v, B, X', hpost, hsteps⟩ := hK g.method meth c ⟨T, locs, cells, slots⟩ { g with stack := rest } (.invokespecial index) mk (Value.ref a :: argsL).toArray X rfl hsize hdg hW (X.named hn) hp
  refine ⟨v, T.vm, B, hWm, X', hpost, (hcome.trans ?_).trans hsteps⟩
  jvm_step X.here [hx, hdg, invokespecial.wp_init (e := e) (s := T) (k := k₁) (meth := methM) (m := mk) (a := a) (args := argsL) (rest := rest) (f := g) X.here.top hnamed hready hk₁ hm₁ (by rw [hname]; exact hy1) hst hab hfound (hlen _ hsig) hstack]
  first | (intro acts; rw [doInvoke_state]; exact Steps.refl _) | (rw [doInvoke_state]; exact Steps.refl _)
end Own
theorem own_max_ef (m : MethodId)  : entryFrame m #[(.int 16), (.int 0)] 2 = mkF m 0 #[iv 16, iv 0] [] := by first | (simp [entryFrame, mkF, argsToLocals, Value.category]; done) | rfl
def own_max_Q (Z : State) (w_CA : Addr) (mr : Addr) (y1 : Addr) (y2 : Addr) (y3 : Addr) (h0 : Heap) (n0 : Nat) (v : Option Value) (h : Heap) (L : List Loc) : Prop := v = some (.int 16) ∧ Fr n0 L ∧ h = h0
set_option maxRecDepth 65536 in
set_option maxHeartbeats 40000000 in
theorem own_max (l : Launch) (Z : State) (a0 : Array Value) (hw : ∀ d ∈ tables_1, d.before a0 Z = true) (ws : List Jvm.Cond) (w_CA : Addr) (mr : Addr) (y1 : Addr) (y2 : Addr) (y3 : Addr) (h0 : Heap) (n0 : Nat) (O0 : Old Z n0 h0) (S_HI : Sta Z Z.heap "java/lang/Integer$IntegerCache" "high" "I" (.int 127)) (S_CA : Sta Z Z.heap "java/lang/Integer$IntegerCache" "cache" "[Ljava/lang/Integer;" (.ref w_CA)) (M_OA : own_Mir Z "[Ljava/lang/Object;" mr) (H_y1 : own_At Z w_CA (129 : Int32) y1) (H_y2 : own_At Z w_CA (130 : Int32) y2) (H_y3 : own_At Z w_CA (131 : Int32) y3) (E_y1 : Exa Z Z.heap y1 "java/lang/Integer") (E_y2 : Exa Z Z.heap y2 "java/lang/Integer") (E_y3 : Exa Z Z.heap y3 "java/lang/Integer") :
    MetFree l (⟨"java/lang/Math", "max", "(II)I"⟩ : MethodName) (head1 (Jvm.Cond.code (⟨"java/lang/Math", "max", "(II)I"⟩ : MethodName) jdk_29_method_65_code 2 (some .int) :: ws) ({ frames := 0, cells := 0, slots := 0, locals := 0 } : Room)) (fun ar U => ar = #[(.int 16), (.int 0)] ∧ Z.Warmed39 U.vm ∧ U.heap = h0) (fun _ _ _ _ _ => True) (fun _ U oc U' => ∃ v L, oc = .returned v ∧ own_max_Q Z w_CA mr y1 y2 y3 h0 n0 v U'.heap L ∧ FrameEnd U oc U' L ({ frames := 0, cells := 0, slots := 0, locals := 0 } : Room).cells ({ frames := 0, cells := 0, slots := 0, locals := 0 } : Room).slots) := by
  refine MetFree.of_bodySF (Jvm.Free.JP.mathPlain rfl (by decide +kernel)) hisR ?_
  intro p e s m args below meth c s₁ Bd hml0 hP hK
  obtain ⟨rfl, hZ, hh⟩ := hP
  have hx := Bd.exec
  have hby := Bd.bytes
  have hml : c.maxLocals = 2 := hml0
  have hown : s.vm.findClass "java/lang/Math" = some m.cls := findClass_of_methodNamed Bd.named
  have hnm := (name_of_methodNamed Bd.named Bd.method).1
  have X0 : Stand p l e ({ frames := 0, cells := 0, slots := 0, locals := 0 } : Room) s m #[(.int 16), (.int 0)] below meth c s₁ [] 0 0 := Stand.of_body Bd
  have e0 : s₁.heap = h0 := by rw [← hh, Bd.state]; rfl
  have N0 := Fr.nil n0
  have pre0 : ∀ t, Steps p.tables e below (s₁.setTop (mkF m 0 #[iv 16, iv 0] [])) t → Steps p.tables e below (s₁.setTop (entryFrame m #[(.int 16), (.int 0)] 2)) t := fun t k => castTop (own_max_ef m ) k
  obtain ⟨fs, hr, hrun, hended, hW, hsame⟩ := X0.leave (v := some (.int 16)) (fun h => by rw [Bd.returns] at h; cases h)
  refine ⟨_, _, pre0 _ ?_, hrun, hended, _, _, rfl, ?_, ⟨_, rfl⟩, hW, hsame.mono (by decide) (by decide)⟩
  · show Steps p.tables e below (s₁.setTop (mkF m 0 #[iv 16, iv 0] [])) _
    refine XS.iloadN X0.here hx rfl (hb hby own_d8_0) rfl ?_
    show Steps p.tables e below (s₁.setTop (mkF m 1 #[iv 16, iv 0] [(.int 16)])) _
    refine XS.iloadN X0.here hx rfl (hb hby own_d8_1) rfl ?_
    show Steps p.tables e below (s₁.setTop (mkF m 2 #[iv 16, iv 0] [(.int 0), (.int 16)])) _
    refine XS.icmpNo X0.here hx rfl (hb hby own_d8_2) rfl (flt (by decide)).1 ?_
    show Steps p.tables e below (s₁.setTop (mkF m 5 #[iv 16, iv 0] [])) _
    refine XS.iloadN X0.here hx rfl (hb hby own_d8_5) rfl ?_
    show Steps p.tables e below (s₁.setTop (mkF m 6 #[iv 16, iv 0] [(.int 16)])) _
    refine XS.goto X0.here hx rfl (pc0 := 6) (pc' := 10) rfl (hb hby own_d8_6) (by decide) (by decide) ?_
    show Steps p.tables e below (s₁.setTop (mkF m 10 #[iv 16, iv 0] [(.int 16)])) _
    exact retI X0 hx Bd.returns (hb hby own_d8_10) hr
  · show own_max_Q Z w_CA mr y1 y2 y3 h0 n0 _ s₁.heap _
    rw [e0]
    exact ⟨rfl, N0, rfl⟩
theorem own_min16_ef (m : MethodId)  : entryFrame m #[(.int 0), (.int 16)] 2 = mkF m 0 #[iv 0, iv 16] [] := by first | (simp [entryFrame, mkF, argsToLocals, Value.category]; done) | rfl
def own_min16_Q (Z : State) (w_CA : Addr) (mr : Addr) (y1 : Addr) (y2 : Addr) (y3 : Addr) (h0 : Heap) (n0 : Nat) (v : Option Value) (h : Heap) (L : List Loc) : Prop := v = some (.int 0) ∧ Fr n0 L ∧ h = h0
set_option maxRecDepth 65536 in
set_option maxHeartbeats 40000000 in
theorem own_min16 (l : Launch) (Z : State) (a0 : Array Value) (hw : ∀ d ∈ tables_1, d.before a0 Z = true) (ws : List Jvm.Cond) (w_CA : Addr) (mr : Addr) (y1 : Addr) (y2 : Addr) (y3 : Addr) (h0 : Heap) (n0 : Nat) (O0 : Old Z n0 h0) (S_HI : Sta Z Z.heap "java/lang/Integer$IntegerCache" "high" "I" (.int 127)) (S_CA : Sta Z Z.heap "java/lang/Integer$IntegerCache" "cache" "[Ljava/lang/Integer;" (.ref w_CA)) (M_OA : own_Mir Z "[Ljava/lang/Object;" mr) (H_y1 : own_At Z w_CA (129 : Int32) y1) (H_y2 : own_At Z w_CA (130 : Int32) y2) (H_y3 : own_At Z w_CA (131 : Int32) y3) (E_y1 : Exa Z Z.heap y1 "java/lang/Integer") (E_y2 : Exa Z Z.heap y2 "java/lang/Integer") (E_y3 : Exa Z Z.heap y3 "java/lang/Integer") :
    MetFree l (⟨"java/lang/Math", "min", "(II)I"⟩ : MethodName) (head1 (Jvm.Cond.code (⟨"java/lang/Math", "min", "(II)I"⟩ : MethodName) jdk_29_method_69_code 2 (some .int) :: ws) ({ frames := 0, cells := 0, slots := 0, locals := 0 } : Room)) (fun ar U => ar = #[(.int 0), (.int 16)] ∧ Z.Warmed39 U.vm ∧ U.heap = h0) (fun _ _ _ _ _ => True) (fun _ U oc U' => ∃ v L, oc = .returned v ∧ own_min16_Q Z w_CA mr y1 y2 y3 h0 n0 v U'.heap L ∧ FrameEnd U oc U' L ({ frames := 0, cells := 0, slots := 0, locals := 0 } : Room).cells ({ frames := 0, cells := 0, slots := 0, locals := 0 } : Room).slots) := by
  refine MetFree.of_bodySF (Jvm.Free.JP.mathPlain rfl (by decide +kernel)) hisR ?_
  intro p e s m args below meth c s₁ Bd hml0 hP hK
  obtain ⟨rfl, hZ, hh⟩ := hP
  have hx := Bd.exec
  have hby := Bd.bytes
  have hml : c.maxLocals = 2 := hml0
  have hown : s.vm.findClass "java/lang/Math" = some m.cls := findClass_of_methodNamed Bd.named
  have hnm := (name_of_methodNamed Bd.named Bd.method).1
  have X0 : Stand p l e ({ frames := 0, cells := 0, slots := 0, locals := 0 } : Room) s m #[(.int 0), (.int 16)] below meth c s₁ [] 0 0 := Stand.of_body Bd
  have e0 : s₁.heap = h0 := by rw [← hh, Bd.state]; rfl
  have N0 := Fr.nil n0
  have pre0 : ∀ t, Steps p.tables e below (s₁.setTop (mkF m 0 #[iv 0, iv 16] [])) t → Steps p.tables e below (s₁.setTop (entryFrame m #[(.int 0), (.int 16)] 2)) t := fun t k => castTop (own_min16_ef m ) k
  obtain ⟨fs, hr, hrun, hended, hW, hsame⟩ := X0.leave (v := some (.int 0)) (fun h => by rw [Bd.returns] at h; cases h)
  refine ⟨_, _, pre0 _ ?_, hrun, hended, _, _, rfl, ?_, ⟨_, rfl⟩, hW, hsame.mono (by decide) (by decide)⟩
  · show Steps p.tables e below (s₁.setTop (mkF m 0 #[iv 0, iv 16] [])) _
    refine XS.iloadN X0.here hx rfl (hb hby own_d11_0) rfl ?_
    show Steps p.tables e below (s₁.setTop (mkF m 1 #[iv 0, iv 16] [(.int 0)])) _
    refine XS.iloadN X0.here hx rfl (hb hby own_d11_1) rfl ?_
    show Steps p.tables e below (s₁.setTop (mkF m 2 #[iv 0, iv 16] [(.int 16), (.int 0)])) _
    refine XS.icmpNo X0.here hx rfl (hb hby own_d11_2) rfl (flt (by decide)).2.2.1 ?_
    show Steps p.tables e below (s₁.setTop (mkF m 5 #[iv 0, iv 16] [])) _
    refine XS.iloadN X0.here hx rfl (hb hby own_d11_5) rfl ?_
    show Steps p.tables e below (s₁.setTop (mkF m 6 #[iv 0, iv 16] [(.int 0)])) _
    refine XS.goto X0.here hx rfl (pc0 := 6) (pc' := 10) rfl (hb hby own_d11_6) (by decide) (by decide) ?_
    show Steps p.tables e below (s₁.setTop (mkF m 10 #[iv 0, iv 16] [(.int 0)])) _
    exact retI X0 hx Bd.returns (hb hby own_d11_10) hr
  · show own_min16_Q Z w_CA mr y1 y2 y3 h0 n0 _ s₁.heap _
    rw [e0]
    exact ⟨rfl, N0, rfl⟩
theorem own_min64_ef (m : MethodId)  : entryFrame m #[(.int 0), (.int 64)] 2 = mkF m 0 #[iv 0, iv 64] [] := by first | (simp [entryFrame, mkF, argsToLocals, Value.category]; done) | rfl
def own_min64_Q (Z : State) (w_CA : Addr) (mr : Addr) (y1 : Addr) (y2 : Addr) (y3 : Addr) (h0 : Heap) (n0 : Nat) (v : Option Value) (h : Heap) (L : List Loc) : Prop := v = some (.int 0) ∧ Fr n0 L ∧ h = h0
set_option maxRecDepth 65536 in
set_option maxHeartbeats 40000000 in
theorem own_min64 (l : Launch) (Z : State) (a0 : Array Value) (hw : ∀ d ∈ tables_1, d.before a0 Z = true) (ws : List Jvm.Cond) (w_CA : Addr) (mr : Addr) (y1 : Addr) (y2 : Addr) (y3 : Addr) (h0 : Heap) (n0 : Nat) (O0 : Old Z n0 h0) (S_HI : Sta Z Z.heap "java/lang/Integer$IntegerCache" "high" "I" (.int 127)) (S_CA : Sta Z Z.heap "java/lang/Integer$IntegerCache" "cache" "[Ljava/lang/Integer;" (.ref w_CA)) (M_OA : own_Mir Z "[Ljava/lang/Object;" mr) (H_y1 : own_At Z w_CA (129 : Int32) y1) (H_y2 : own_At Z w_CA (130 : Int32) y2) (H_y3 : own_At Z w_CA (131 : Int32) y3) (E_y1 : Exa Z Z.heap y1 "java/lang/Integer") (E_y2 : Exa Z Z.heap y2 "java/lang/Integer") (E_y3 : Exa Z Z.heap y3 "java/lang/Integer") :
    MetFree l (⟨"java/lang/Math", "min", "(II)I"⟩ : MethodName) (head1 (Jvm.Cond.code (⟨"java/lang/Math", "min", "(II)I"⟩ : MethodName) jdk_29_method_69_code 2 (some .int) :: ws) ({ frames := 0, cells := 0, slots := 0, locals := 0 } : Room)) (fun ar U => ar = #[(.int 0), (.int 64)] ∧ Z.Warmed39 U.vm ∧ U.heap = h0) (fun _ _ _ _ _ => True) (fun _ U oc U' => ∃ v L, oc = .returned v ∧ own_min64_Q Z w_CA mr y1 y2 y3 h0 n0 v U'.heap L ∧ FrameEnd U oc U' L ({ frames := 0, cells := 0, slots := 0, locals := 0 } : Room).cells ({ frames := 0, cells := 0, slots := 0, locals := 0 } : Room).slots) := by
  refine MetFree.of_bodySF (Jvm.Free.JP.mathPlain rfl (by decide +kernel)) hisR ?_
  intro p e s m args below meth c s₁ Bd hml0 hP hK
  obtain ⟨rfl, hZ, hh⟩ := hP
  have hx := Bd.exec
  have hby := Bd.bytes
  have hml : c.maxLocals = 2 := hml0
  have hown : s.vm.findClass "java/lang/Math" = some m.cls := findClass_of_methodNamed Bd.named
  have hnm := (name_of_methodNamed Bd.named Bd.method).1
  have X0 : Stand p l e ({ frames := 0, cells := 0, slots := 0, locals := 0 } : Room) s m #[(.int 0), (.int 64)] below meth c s₁ [] 0 0 := Stand.of_body Bd
  have e0 : s₁.heap = h0 := by rw [← hh, Bd.state]; rfl
  have N0 := Fr.nil n0
  have pre0 : ∀ t, Steps p.tables e below (s₁.setTop (mkF m 0 #[iv 0, iv 64] [])) t → Steps p.tables e below (s₁.setTop (entryFrame m #[(.int 0), (.int 64)] 2)) t := fun t k => castTop (own_min64_ef m ) k
  obtain ⟨fs, hr, hrun, hended, hW, hsame⟩ := X0.leave (v := some (.int 0)) (fun h => by rw [Bd.returns] at h; cases h)
  refine ⟨_, _, pre0 _ ?_, hrun, hended, _, _, rfl, ?_, ⟨_, rfl⟩, hW, hsame.mono (by decide) (by decide)⟩
  · show Steps p.tables e below (s₁.setTop (mkF m 0 #[iv 0, iv 64] [])) _
    refine XS.iloadN X0.here hx rfl (hb hby own_d11_0) rfl ?_
    show Steps p.tables e below (s₁.setTop (mkF m 1 #[iv 0, iv 64] [(.int 0)])) _
    refine XS.iloadN X0.here hx rfl (hb hby own_d11_1) rfl ?_
    show Steps p.tables e below (s₁.setTop (mkF m 2 #[iv 0, iv 64] [(.int 64), (.int 0)])) _
    refine XS.icmpNo X0.here hx rfl (hb hby own_d11_2) rfl (flt (by decide)).2.2.1 ?_
    show Steps p.tables e below (s₁.setTop (mkF m 5 #[iv 0, iv 64] [])) _
    refine XS.iloadN X0.here hx rfl (hb hby own_d11_5) rfl ?_
    show Steps p.tables e below (s₁.setTop (mkF m 6 #[iv 0, iv 64] [(.int 0)])) _
    refine XS.goto X0.here hx rfl (pc0 := 6) (pc' := 10) rfl (hb hby own_d11_6) (by decide) (by decide) ?_
    show Steps p.tables e below (s₁.setTop (mkF m 10 #[iv 0, iv 64] [(.int 0)])) _
    exact retI X0 hx Bd.returns (hb hby own_d11_10) hr
  · show own_min64_Q Z w_CA mr y1 y2 y3 h0 n0 _ s₁.heap _
    rw [e0]
    exact ⟨rfl, N0, rfl⟩
theorem own_lk_ef (m : MethodId) (i0 : Int32) (j0 : Int32) : entryFrame m #[(.int i0), (.int j0)] 2 = mkF m 0 #[iv i0, iv j0] [] := by first | (simp [entryFrame, mkF, argsToLocals, Value.category]; done) | rfl
def own_lk_Q (Z : State) (w_CA : Addr) (mr : Addr) (y1 : Addr) (y2 : Addr) (y3 : Addr) (i0 : Int32) (j0 : Int32) (h0 : Heap) (n0 : Nat) (v : Option Value) (h : Heap) (L : List Loc) : Prop := v = some (.int (((i0 &&& (4095 : Int32)) <<< ((2 : Int32) &&& 31)) + j0)) ∧ Fr n0 L ∧ h = h0
set_option maxRecDepth 65536 in
set_option maxHeartbeats 40000000 in
theorem own_lk (l : Launch) (Z : State) (a0 : Array Value) (hw : ∀ d ∈ tables_1, d.before a0 Z = true) (ws : List Jvm.Cond) (w_CA : Addr) (mr : Addr) (y1 : Addr) (y2 : Addr) (y3 : Addr) (i0 : Int32) (j0 : Int32) (h0 : Heap) (n0 : Nat) (O0 : Old Z n0 h0) (S_HI : Sta Z Z.heap "java/lang/Integer$IntegerCache" "high" "I" (.int 127)) (S_CA : Sta Z Z.heap "java/lang/Integer$IntegerCache" "cache" "[Ljava/lang/Integer;" (.ref w_CA)) (M_OA : own_Mir Z "[Ljava/lang/Object;" mr) (H_y1 : own_At Z w_CA (129 : Int32) y1) (H_y2 : own_At Z w_CA (130 : Int32) y2) (H_y3 : own_At Z w_CA (131 : Int32) y3) (E_y1 : Exa Z Z.heap y1 "java/lang/Integer") (E_y2 : Exa Z Z.heap y2 "java/lang/Integer") (E_y3 : Exa Z Z.heap y3 "java/lang/Integer") :
    MetFree l (⟨"com/example/libspoke/libspoke/wheel/EntryTable", "link", "(II)I"⟩ : MethodName) (head1 (Jvm.Cond.code (⟨"com/example/libspoke/libspoke/wheel/EntryTable", "link", "(II)I"⟩ : MethodName) prog_18_method_18_code 2 (some .int) :: ws) ({ frames := 0, cells := 0, slots := 0, locals := 0 } : Room)) (fun ar U => ar = #[(.int i0), (.int j0)] ∧ Z.Warmed39 U.vm ∧ U.heap = h0) (fun _ _ _ _ _ => True) (fun _ U oc U' => ∃ v L, oc = .returned v ∧ own_lk_Q Z w_CA mr y1 y2 y3 i0 j0 h0 n0 v U'.heap L ∧ FrameEnd U oc U' L ({ frames := 0, cells := 0, slots := 0, locals := 0 } : Room).cells ({ frames := 0, cells := 0, slots := 0, locals := 0 } : Room).slots) := by
  refine MetFree.of_bodySF (plainFor_of_name own_pn0) hisR ?_
  intro p e s m args below meth c s₁ Bd hml0 hP hK
  obtain ⟨rfl, hZ, hh⟩ := hP
  have hx := Bd.exec
  have hby := Bd.bytes
  have hml : c.maxLocals = 2 := hml0
  have hown : s.vm.findClass "com/example/libspoke/libspoke/wheel/EntryTable" = some m.cls := findClass_of_methodNamed Bd.named
  have hnm := (name_of_methodNamed Bd.named Bd.method).1
  have X0 : Stand p l e ({ frames := 0, cells := 0, slots := 0, locals := 0 } : Room) s m #[(.int i0), (.int j0)] below meth c s₁ [] 0 0 := Stand.of_body Bd
  have e0 : s₁.heap = h0 := by rw [← hh, Bd.state]; rfl
  have N0 := Fr.nil n0
  have pre0 : ∀ t, Steps p.tables e below (s₁.setTop (mkF m 0 #[iv i0, iv j0] [])) t → Steps p.tables e below (s₁.setTop (entryFrame m #[(.int i0), (.int j0)] 2)) t := fun t k => castTop (own_lk_ef m i0 j0) k
  obtain ⟨fs, hr, hrun, hended, hW, hsame⟩ := X0.leave (v := some (.int (((i0 &&& (4095 : Int32)) <<< ((2 : Int32) &&& 31)) + j0))) (fun h => by rw [Bd.returns] at h; cases h)
  refine ⟨_, _, pre0 _ ?_, hrun, hended, _, _, rfl, ?_, ⟨_, rfl⟩, hW, hsame.mono (by decide) (by decide)⟩
  · show Steps p.tables e below (s₁.setTop (mkF m 0 #[iv i0, iv j0] [])) _
    refine XS.iloadN X0.here hx rfl (hb hby own_d15_0) rfl ?_
    show Steps p.tables e below (s₁.setTop (mkF m 1 #[iv i0, iv j0] [(.int i0)])) _
    refine XS.sipush X0.here hx rfl (hb hby own_d15_1) ?_
    show Steps p.tables e below (s₁.setTop (mkF m 4 #[iv i0, iv j0] [(.int 4095), (.int i0)])) _
    refine XS.iand X0.here hx rfl (hb hby own_d15_4) rfl ?_
    show Steps p.tables e below (s₁.setTop (mkF m 5 #[iv i0, iv j0] [(.int (i0 &&& (4095 : Int32)))])) _
    refine XS.iconst X0.here hx rfl (hb hby own_d15_5) ?_
    show Steps p.tables e below (s₁.setTop (mkF m 6 #[iv i0, iv j0] [(.int 2), (.int (i0 &&& (4095 : Int32)))])) _
    refine XS.ishl X0.here hx rfl (hb hby own_d15_6) rfl ?_
    show Steps p.tables e below (s₁.setTop (mkF m 7 #[iv i0, iv j0] [(.int ((i0 &&& (4095 : Int32)) <<< ((2 : Int32) &&& 31)))])) _
    refine XS.iloadN X0.here hx rfl (hb hby own_d15_7) rfl ?_
    show Steps p.tables e below (s₁.setTop (mkF m 8 #[iv i0, iv j0] [(.int j0), (.int ((i0 &&& (4095 : Int32)) <<< ((2 : Int32) &&& 31)))])) _
    refine XS.iadd X0.here hx rfl (hb hby own_d15_8) rfl ?_
    show Steps p.tables e below (s₁.setTop (mkF m 9 #[iv i0, iv j0] [(.int (((i0 &&& (4095 : Int32)) <<< ((2 : Int32) &&& 31)) + j0))])) _
    exact retI X0 hx Bd.returns (hb hby own_d15_9) hr
  · show own_lk_Q Z w_CA mr y1 y2 y3 i0 j0 h0 n0 _ s₁.heap _
    rw [e0]
    exact ⟨rfl, N0, rfl⟩
theorem own_zi_ef (m : MethodId)  : entryFrame m #[(.int 1)] 2 = mkF m 0 #[iv 1, .unset] [] := by first | (simp [entryFrame, mkF, argsToLocals, Value.category]; done) | rfl
def own_zi_Q (Z : State) (w_CA : Addr) (mr : Addr) (y1 : Addr) (y2 : Addr) (y3 : Addr) (h0 : Heap) (n0 : Nat) (v : Option Value) (h : Heap) (L : List Loc) : Prop := v = some (.int 0) ∧ Fr n0 L ∧ h = h0
set_option maxRecDepth 65536 in
set_option maxHeartbeats 40000000 in
theorem own_zi (l : Launch) (Z : State) (a0 : Array Value) (hw : ∀ d ∈ tables_1, d.before a0 Z = true) (ws : List Jvm.Cond) (w_CA : Addr) (mr : Addr) (y1 : Addr) (y2 : Addr) (y3 : Addr) (h0 : Heap) (n0 : Nat) (O0 : Old Z n0 h0) (S_HI : Sta Z Z.heap "java/lang/Integer$IntegerCache" "high" "I" (.int 127)) (S_CA : Sta Z Z.heap "java/lang/Integer$IntegerCache" "cache" "[Ljava/lang/Integer;" (.ref w_CA)) (M_OA : own_Mir Z "[Ljava/lang/Object;" mr) (H_y1 : own_At Z w_CA (129 : Int32) y1) (H_y2 : own_At Z w_CA (130 : Int32) y2) (H_y3 : own_At Z w_CA (131 : Int32) y3) (E_y1 : Exa Z Z.heap y1 "java/lang/Integer") (E_y2 : Exa Z Z.heap y2 "java/lang/Integer") (E_y3 : Exa Z Z.heap y3 "java/lang/Integer") :
    MetFree l (⟨"java/lang/Integer", "numberOfTrailingZeros", "(I)I"⟩ : MethodName) (head1 (Jvm.Cond.code (⟨"java/lang/Integer", "numberOfTrailingZeros", "(I)I"⟩ : MethodName) jdk_33_method_48_code 2 (some .int) :: ws) ({ frames := 0, cells := 0, slots := 0, locals := 0 } : Room)) (fun ar U => ar = #[(.int 1)] ∧ Z.Warmed39 U.vm ∧ U.heap = h0) (fun _ _ _ _ _ => True) (fun _ U oc U' => ∃ v L, oc = .returned v ∧ own_zi_Q Z w_CA mr y1 y2 y3 h0 n0 v U'.heap L ∧ FrameEnd U oc U' L ({ frames := 0, cells := 0, slots := 0, locals := 0 } : Room).cells ({ frames := 0, cells := 0, slots := 0, locals := 0 } : Room).slots) := by
  refine MetFree.of_bodySF (plainFor_of_name own_pn1) hisR ?_
  intro p e s m args below meth c s₁ Bd hml0 hP hK
  obtain ⟨rfl, hZ, hh⟩ := hP
  have hx := Bd.exec
  have hby := Bd.bytes
  have hml : c.maxLocals = 2 := hml0
  have hown : s.vm.findClass "java/lang/Integer" = some m.cls := findClass_of_methodNamed Bd.named
  have hnm := (name_of_methodNamed Bd.named Bd.method).1
  have X0 : Stand p l e ({ frames := 0, cells := 0, slots := 0, locals := 0 } : Room) s m #[(.int 1)] below meth c s₁ [] 0 0 := Stand.of_body Bd
  have e0 : s₁.heap = h0 := by rw [← hh, Bd.state]; rfl
  have N0 := Fr.nil n0
  have pre0 : ∀ t, Steps p.tables e below (s₁.setTop (mkF m 0 #[iv 1, .unset] [])) t → Steps p.tables e below (s₁.setTop (entryFrame m #[(.int 1)] 2)) t := fun t k => castTop (own_zi_ef m ) k
  obtain ⟨fs, hr, hrun, hended, hW, hsame⟩ := X0.leave (v := some (.int 0)) (fun h => by rw [Bd.returns] at h; cases h)
  refine ⟨_, _, pre0 _ ?_, hrun, hended, _, _, rfl, ?_, ⟨_, rfl⟩, hW, hsame.mono (by decide) (by decide)⟩
  · show Steps p.tables e below (s₁.setTop (mkF m 0 #[iv 1, .unset] [])) _
    refine XS.iloadN X0.here hx rfl (hb hby own_d20_0) rfl ?_
    show Steps p.tables e below (s₁.setTop (mkF m 1 #[iv 1, .unset] [(.int 1)])) _
    refine XS.iconst X0.here hx rfl (hb hby own_d20_1) ?_
    show Steps p.tables e below (s₁.setTop (mkF m 2 #[iv 1, .unset] [(.int (-1)), (.int 1)])) _
    refine XS.ixor X0.here hx rfl (hb hby own_d20_2) rfl ?_
    show Steps p.tables e below (s₁.setTop (mkF m 3 #[iv 1, .unset] [(.int ((1 : Int32) ^^^ (-1 : Int32)))])) _
    refine own_top (v' := (.int (-2))) (congrArg Value.int (by decide)) ?_
    show Steps p.tables e below (s₁.setTop (mkF m 3 #[iv 1, .unset] [(.int (-2))])) _
    refine XS.iloadN X0.here hx rfl (hb hby own_d20_3) rfl ?_
    show Steps p.tables e below (s₁.setTop (mkF m 4 #[iv 1, .unset] [(.int 1), (.int (-2))])) _
    refine XS.iconst X0.here hx rfl (hb hby own_d20_4) ?_
    show Steps p.tables e below (s₁.setTop (mkF m 5 #[iv 1, .unset] [(.int 1), (.int 1), (.int (-2))])) _
    refine XS.isub X0.here hx rfl (hb hby own_d20_5) rfl ?_
    show Steps p.tables e below (s₁.setTop (mkF m 6 #[iv 1, .unset] [(.int ((1 : Int32) - (1 : Int32))), (.int (-2))])) _
    refine own_top (v' := (.int 0)) (congrArg Value.int (by decide)) ?_
    show Steps p.tables e below (s₁.setTop (mkF m 6 #[iv 1, .unset] [(.int 0), (.int (-2))])) _
    refine XS.iand X0.here hx rfl (hb hby own_d20_6) rfl ?_
    show Steps p.tables e below (s₁.setTop (mkF m 7 #[iv 1, .unset] [(.int ((-2 : Int32) &&& (0 : Int32)))])) _
    refine own_top (v' := (.int 0)) (congrArg Value.int (by decide)) ?_
    show Steps p.tables e below (s₁.setTop (mkF m 7 #[iv 1, .unset] [(.int 0)])) _
    refine XS.istoreN X0.here hx rfl (hb hby own_d20_7) rfl (l' := #[iv 0, .unset]) rfl ?_
    show Steps p.tables e below (s₁.setTop (mkF m 8 #[iv 0, .unset] [])) _
    refine XS.iloadN X0.here hx rfl (hb hby own_d20_8) rfl ?_
    show Steps p.tables e below (s₁.setTop (mkF m 9 #[iv 0, .unset] [(.int 0)])) _
    refine XS.ifNo X0.here hx rfl (hb hby own_d20_9) rfl ((if0 _ _).trans (flt (by decide)).2.2.1) ?_
    show Steps p.tables e below (s₁.setTop (mkF m 12 #[iv 0, .unset] [])) _
    refine XS.iloadN X0.here hx rfl (hb hby own_d20_12) rfl ?_
    show Steps p.tables e below (s₁.setTop (mkF m 13 #[iv 0, .unset] [(.int 0)])) _
    refine XS.bipush X0.here hx rfl (hb hby own_d20_13) ?_
    show Steps p.tables e below (s₁.setTop (mkF m 15 #[iv 0, .unset] [(.int 32), (.int 0)])) _
    refine XS.iand X0.here hx rfl (hb hby own_d20_15) rfl ?_
    show Steps p.tables e below (s₁.setTop (mkF m 16 #[iv 0, .unset] [(.int ((0 : Int32) &&& (32 : Int32)))])) _
    refine own_top (v' := (.int 0)) (congrArg Value.int (by decide)) ?_
    show Steps p.tables e below (s₁.setTop (mkF m 16 #[iv 0, .unset] [(.int 0)])) _
    exact retI X0 hx Bd.returns (hb hby own_d20_16) hr
  · show own_zi_Q Z w_CA mr y1 y2 y3 h0 n0 _ s₁.heap _
    rw [e0]
    exact ⟨rfl, N0, rfl⟩
theorem own_zl_ef (m : MethodId)  : entryFrame m #[(.long 1)] 3 = mkF m 0 #[.val (.long 1), .second, .unset] [] := by first | (simp [entryFrame, mkF, argsToLocals, Value.category]; done) | rfl
def own_zl_Q (Z : State) (w_CA : Addr) (mr : Addr) (y1 : Addr) (y2 : Addr) (y3 : Addr) (h0 : Heap) (n0 : Nat) (v : Option Value) (h : Heap) (L : List Loc) : Prop := v = some (.int 0) ∧ Fr n0 L ∧ h = h0
set_option maxRecDepth 65536 in
set_option maxHeartbeats 40000000 in
theorem own_zl (l : Launch) (Z : State) (a0 : Array Value) (hw : ∀ d ∈ tables_1, d.before a0 Z = true) (ws : List Jvm.Cond) (w_CA : Addr) (mr : Addr) (y1 : Addr) (y2 : Addr) (y3 : Addr) (h0 : Heap) (n0 : Nat) (O0 : Old Z n0 h0) (S_HI : Sta Z Z.heap "java/lang/Integer$IntegerCache" "high" "I" (.int 127)) (S_CA : Sta Z Z.heap "java/lang/Integer$IntegerCache" "cache" "[Ljava/lang/Integer;" (.ref w_CA)) (M_OA : own_Mir Z "[Ljava/lang/Object;" mr) (H_y1 : own_At Z w_CA (129 : Int32) y1) (H_y2 : own_At Z w_CA (130 : Int32) y2) (H_y3 : own_At Z w_CA (131 : Int32) y3) (E_y1 : Exa Z Z.heap y1 "java/lang/Integer") (E_y2 : Exa Z Z.heap y2 "java/lang/Integer") (E_y3 : Exa Z Z.heap y3 "java/lang/Integer") :
    MetFree l (⟨"java/lang/Long", "numberOfTrailingZeros", "(J)I"⟩ : MethodName) (head1 (Jvm.Cond.code (⟨"java/lang/Long", "numberOfTrailingZeros", "(J)I"⟩ : MethodName) jdk_35_method_49_code 3 (some .int) :: ws) ({ frames := 1, cells := 0, slots := 0, locals := 13 } : Room)) (fun ar U => ar = #[(.long 1)] ∧ Z.Warmed39 U.vm ∧ U.heap = h0) (fun _ _ _ _ _ => True) (fun _ U oc U' => ∃ v L, oc = .returned v ∧ own_zl_Q Z w_CA mr y1 y2 y3 h0 n0 v U'.heap L ∧ FrameEnd U oc U' L ({ frames := 1, cells := 0, slots := 0, locals := 13 } : Room).cells ({ frames := 1, cells := 0, slots := 0, locals := 13 } : Room).slots) := by
  refine MetFree.of_bodySF (plainFor_of_name own_pn2) hisR ?_
  intro p e s m args below meth c s₁ Bd hml0 hP hK
  obtain ⟨rfl, hZ, hh⟩ := hP
  have hx := Bd.exec
  have hby := Bd.bytes
  have hml : c.maxLocals = 3 := hml0
  have hown : s.vm.findClass "java/lang/Long" = some m.cls := findClass_of_methodNamed Bd.named
  have hnm := (name_of_methodNamed Bd.named Bd.method).1
  have X0 : Stand p l e ({ frames := 1, cells := 0, slots := 0, locals := 13 } : Room) s m #[(.long 1)] below meth c s₁ [] 0 0 := Stand.of_body Bd
  have e0 : s₁.heap = h0 := by rw [← hh, Bd.state]; rfl
  have N0 := Fr.nil n0
  have pre0 : ∀ t, Steps p.tables e below (s₁.setTop (mkF m 0 #[.val (.long 1), .second, .unset] [])) t → Steps p.tables e below (s₁.setTop (entryFrame m #[(.long 1)] 3)) t := fun t k => castTop (own_zl_ef m ) k
  obtain ⟨_, _, ⟨T1, L1, k1, n1⟩, -, X1, ⟨Lc1, hQ1, l1, y1, z1⟩, st1⟩ := Jvm.LawKit.callS X0 hx (y := (⟨"java/lang/Integer", "numberOfTrailingZeros", "(I)I"⟩ : MethodName)) hown (mvT hZ (hw _ (own_m 132 rfl))) (mvT hZ (hw _ (own_m 133 rfl))) (mvT hZ (hw _ (own_m 51 rfl))) (mvT hZ (hw _ (own_m 134 rfl))) (by decide) (backOf (W := 0) (own_zi l Z a0 hw [] w_CA mr y1 y2 y3  h0 n0 O0 S_HI S_CA M_OA H_y1 H_y2 H_y3 E_y1 E_y2 E_y3 ) hZ (hw _ (own_m 134 rfl)) (hw _ (own_m 51 rfl)) (by decide) (by decide)) (g := (mkF m 22 #[.val (.long 1), .second, iv 1] [(.int 1)])) rfl (by rw [hml]; rfl) (argsL := [(.int 1)]) (rest := []) (lenOf own_pd0 rfl) rfl (by show 2 * 0 + _ ≤ _; exact Nat.le_of_eq rfl) (hb hby own_d19_22) (fun _ _ => ⟨rfl, e0, (by decide : 0 + 0 ≤ _), (by decide : 0 + 0 ≤ _)⟩)
  dsimp only [Pt.U, Pt.locs, Pt.cells, Pt.slots] at X1 l1 y1 z1 st1 hQ1
  subst l1 y1 z1
  obtain ⟨rfl, N1q, e1⟩ := hQ1
  have N1 := Fr.app N0 N1q
  obtain ⟨fs, hr, hrun, hended, hW, hsame⟩ := X1.leave (v := some (.int 0)) (fun h => by rw [Bd.returns] at h; cases h)
  refine ⟨_, _, pre0 _ ?_, hrun, hended, _, _, rfl, ?_, ⟨_, rfl⟩, hW, hsame.mono (by decide) (by decide)⟩
  · show Steps p.tables e below (s₁.setTop (mkF m 0 #[.val (.long 1), .second, .unset] [])) _
    refine XS.lloadN X0.here hx rfl (hb hby own_d19_0) rfl ?_
    show Steps p.tables e below (s₁.setTop (mkF m 1 #[.val (.long 1), .second, .unset] [(.long 1)])) _
    refine XS.l2i X0.here hx rfl (hb hby own_d19_1) rfl ?_
    show Steps p.tables e below (s₁.setTop (mkF m 2 #[.val (.long 1), .second, .unset] [(.int ((1 : Int64).toInt32))])) _
    refine own_top (v' := (.int 1)) (congrArg Value.int (by decide)) ?_
    show Steps p.tables e below (s₁.setTop (mkF m 2 #[.val (.long 1), .second, .unset] [(.int 1)])) _
    refine XS.istoreN X0.here hx rfl (hb hby own_d19_2) rfl (l' := #[.val (.long 1), .second, iv 1]) rfl ?_
    show Steps p.tables e below (s₁.setTop (mkF m 3 #[.val (.long 1), .second, iv 1] [])) _
    refine XS.iloadN X0.here hx rfl (hb hby own_d19_3) rfl ?_
    show Steps p.tables e below (s₁.setTop (mkF m 4 #[.val (.long 1), .second, iv 1] [(.int 1)])) _
    refine XS.ifYes X0.here hx rfl (pc0 := 4) (pc' := 21) rfl (hb hby own_d19_4) rfl ((if0 _ _).trans (feq (by decide)).2) (by decide) (by decide) ?_
    show Steps p.tables e below (s₁.setTop (mkF m 21 #[.val (.long 1), .second, iv 1] [])) _
    refine XS.iloadN X0.here hx rfl (hb hby own_d19_21) rfl ?_
    show Steps p.tables e below (s₁.setTop (mkF m 22 #[.val (.long 1), .second, iv 1] [(.int 1)])) _
    refine st1 _ ?_
    show Steps p.tables e below (T1.setTop (mkF m 25 #[.val (.long 1), .second, iv 1] [(.int 0)])) _
    exact retI X1 hx Bd.returns (hb hby own_d19_25) hr
  · show own_zl_Q Z w_CA mr y1 y2 y3 h0 n0 _ T1.heap _
    rw [e1]
    exact ⟨rfl, N1, rfl⟩
theorem own_vo1_ef (m : MethodId)  : entryFrame m #[(.int 1)] 1 = mkF m 0 #[iv 1] [] := by first | (simp [entryFrame, mkF, argsToLocals, Value.category]; done) | rfl
def own_vo1_Q (Z : State) (w_CA : Addr) (mr : Addr) (y1 : Addr) (y2 : Addr) (y3 : Addr) (h0 : Heap) (n0 : Nat) (v : Option Value) (h : Heap) (L : List Loc) : Prop := v = some (.ref y1) ∧ Fr n0 L ∧ h = h0
set_option maxRecDepth 65536 in
set_option maxHeartbeats 40000000 in
theorem own_vo1 (l : Launch) (Z : State) (a0 : Array Value) (hw : ∀ d ∈ tables_1, d.before a0 Z = true) (ws : List Jvm.Cond) (w_CA : Addr) (mr : Addr) (y1 : Addr) (y2 : Addr) (y3 : Addr) (h0 : Heap) (n0 : Nat) (O0 : Old Z n0 h0) (S_HI : Sta Z Z.heap "java/lang/Integer$IntegerCache" "high" "I" (.int 127)) (S_CA : Sta Z Z.heap "java/lang/Integer$IntegerCache" "cache" "[Ljava/lang/Integer;" (.ref w_CA)) (M_OA : own_Mir Z "[Ljava/lang/Object;" mr) (H_y1 : own_At Z w_CA (129 : Int32) y1) (H_y2 : own_At Z w_CA (130 : Int32) y2) (H_y3 : own_At Z w_CA (131 : Int32) y3) (E_y1 : Exa Z Z.heap y1 "java/lang/Integer") (E_y2 : Exa Z Z.heap y2 "java/lang/Integer") (E_y3 : Exa Z Z.heap y3 "java/lang/Integer") :
    MetFree l (⟨"java/lang/Integer", "valueOf", "(I)Ljava/lang/Integer;"⟩ : MethodName) (head1 (Jvm.Cond.code (⟨"java/lang/Integer", "valueOf", "(I)Ljava/lang/Integer;"⟩ : MethodName) jdk_33_method_22_code 1 (some (.object "java/lang/Integer")) :: ws) ({ frames := 0, cells := 0, slots := 0, locals := 0 } : Room)) (fun ar U => ar = #[(.int 1)] ∧ Z.Warmed39 U.vm ∧ U.heap = h0) (fun _ _ _ _ _ => True) (fun _ U oc U' => ∃ v L, oc = .returned v ∧ own_vo1_Q Z w_CA mr y1 y2 y3 h0 n0 v U'.heap L ∧ FrameEnd U oc U' L ({ frames := 0, cells := 0, slots := 0, locals := 0 } : Room).cells ({ frames := 0, cells := 0, slots := 0, locals := 0 } : Room).slots) := by
  refine MetFree.of_bodySF (plainFor_of_name own_pn1) hisR ?_
  intro p e s m args below meth c s₁ Bd hml0 hP hK
  obtain ⟨rfl, hZ, hh⟩ := hP
  have hx := Bd.exec
  have hby := Bd.bytes
  have hml : c.maxLocals = 1 := hml0
  have hown : s.vm.findClass "java/lang/Integer" = some m.cls := findClass_of_methodNamed Bd.named
  have hnm := (name_of_methodNamed Bd.named Bd.method).1
  have X0 : Stand p l e ({ frames := 0, cells := 0, slots := 0, locals := 0 } : Room) s m #[(.int 1)] below meth c s₁ [] 0 0 := Stand.of_body Bd
  have e0 : s₁.heap = h0 := by rw [← hh, Bd.state]; rfl
  have N0 := Fr.nil n0
  have pre0 : ∀ t, Steps p.tables e below (s₁.setTop (mkF m 0 #[iv 1] [])) t → Steps p.tables e below (s₁.setTop (entryFrame m #[(.int 1)] 1)) t := fun t k => castTop (own_vo1_ef m ) k
  obtain ⟨T1, X1, e1, st1⟩ := getS2 X0 hx hZ hown (host := "") (Or.inl (hw _ (own_m 53 rfl))) Via.refl e0 (S_HI.ext O0.2) (g := (mkF m 7 #[iv 1] [(.int 1)])) rfl (hb hby own_d4_7)
  obtain ⟨T2, X2, e2, st2⟩ := getS2 X1 hx hZ hown (host := "") (Or.inl (hw _ (own_m 55 rfl))) Via.refl e1 (S_CA.ext O0.2) (g := (mkF m 13 #[iv 1] [])) rfl (hb hby own_d4_13)
  obtain ⟨cl, cA, cin, cat⟩ := id H_y1
  obtain ⟨fs, hr, hrun, hended, hW, hsame⟩ := X2.leave (v := some (.ref y1)) (fun h => by rw [Bd.returns] at h; cases h)
  refine ⟨_, _, pre0 _ ?_, hrun, hended, _, _, rfl, ?_, ⟨_, rfl⟩, hW, hsame.mono (by decide) (by decide)⟩
  · show Steps p.tables e below (s₁.setTop (mkF m 0 #[iv 1] [])) _
    refine XS.iloadN X0.here hx rfl (hb hby own_d4_0) rfl ?_
    show Steps p.tables e below (s₁.setTop (mkF m 1 #[iv 1] [(.int 1)])) _
    refine XS.bipush X0.here hx rfl (hb hby own_d4_1) ?_
    show Steps p.tables e below (s₁.setTop (mkF m 3 #[iv 1] [(.int (-128)), (.int 1)])) _
    refine XS.icmpNo X0.here hx rfl (hb hby own_d4_3) rfl (flt (by decide)).1 ?_
    show Steps p.tables e below (s₁.setTop (mkF m 6 #[iv 1] [])) _
    refine XS.iloadN X0.here hx rfl (hb hby own_d4_6) rfl ?_
    show Steps p.tables e below (s₁.setTop (mkF m 7 #[iv 1] [(.int 1)])) _
    refine st1 _ ?_
    show Steps p.tables e below (T1.setTop (mkF m 10 #[iv 1] [(.int 127), (.int 1)])) _
    refine XS.icmpNo X1.here hx rfl (hb hby own_d4_10) rfl (flt (by decide)).2.2.1 ?_
    show Steps p.tables e below (T1.setTop (mkF m 13 #[iv 1] [])) _
    refine st2 _ ?_
    show Steps p.tables e below (T2.setTop (mkF m 16 #[iv 1] [(.ref w_CA)])) _
    refine XS.iloadN X2.here hx rfl (hb hby own_d4_16) rfl ?_
    show Steps p.tables e below (T2.setTop (mkF m 17 #[iv 1] [(.int 1), (.ref w_CA)])) _
    refine XS.sipush X2.here hx rfl (hb hby own_d4_17) ?_
    show Steps p.tables e below (T2.setTop (mkF m 20 #[iv 1] [(.int 128), (.int 1), (.ref w_CA)])) _
    refine XS.iadd X2.here hx rfl (hb hby own_d4_20) rfl ?_
    show Steps p.tables e below (T2.setTop (mkF m 21 #[iv 1] [(.int ((1 : Int32) + (128 : Int32))), (.ref w_CA)])) _
    refine own_top (v' := (.int 129)) (congrArg Value.int (by decide)) ?_
    show Steps p.tables e below (T2.setTop (mkF m 21 #[iv 1] [(.int 129), (.ref w_CA)])) _
    refine X2.aaload hx (j := (129 : Int32)) (v := (.ref y1)) (by rw [e2]; exact (cA.ext O0.2).1) (State.isArrayOf_alike hZ.alike cA.2.1) rfl cA.2.2 cin cat (g := (mkF m 21 #[iv 1] [(.int 129), (.ref w_CA)])) rfl rfl (hb hby own_d4_21) _ ?_
    show Steps p.tables e below (T2.setTop (mkF m 22 #[iv 1] [(.ref y1)])) _
    jvm_step X2.here [X2.here.top, hx, (hb hby own_d4_22), X2.method', Bd.returns, Value.isRef, FieldType.isReference]
    first | (intro acts; rw [hr _ acts rfl rfl rfl]) | rw [hr _ _ rfl rfl rfl]
    exact Steps.refl _
  · show own_vo1_Q Z w_CA mr y1 y2 y3 h0 n0 _ T2.heap _
    rw [e2]
    exact ⟨rfl, N0, rfl⟩
theorem own_vo2_ef (m : MethodId)  : entryFrame m #[(.int 2)] 1 = mkF m 0 #[iv 2] [] := by first | (simp [entryFrame, mkF, argsToLocals, Value.category]; done) | rfl
def own_vo2_Q (Z : State) (w_CA : Addr) (mr : Addr) (y1 : Addr) (y2 : Addr) (y3 : Addr) (h0 : Heap) (n0 : Nat) (v : Option Value) (h : Heap) (L : List Loc) : Prop := v = some (.ref y2) ∧ Fr n0 L ∧ h = h0
set_option maxRecDepth 65536 in
set_option maxHeartbeats 40000000 in
theorem own_vo2 (l : Launch) (Z : State) (a0 : Array Value) (hw : ∀ d ∈ tables_1, d.before a0 Z = true) (ws : List Jvm.Cond) (w_CA : Addr) (mr : Addr) (y1 : Addr) (y2 : Addr) (y3 : Addr) (h0 : Heap) (n0 : Nat) (O0 : Old Z n0 h0) (S_HI : Sta Z Z.heap "java/lang/Integer$IntegerCache" "high" "I" (.int 127)) (S_CA : Sta Z Z.heap "java/lang/Integer$IntegerCache" "cache" "[Ljava/lang/Integer;" (.ref w_CA)) (M_OA : own_Mir Z "[Ljava/lang/Object;" mr) (H_y1 : own_At Z w_CA (129 : Int32) y1) (H_y2 : own_At Z w_CA (130 : Int32) y2) (H_y3 : own_At Z w_CA (131 : Int32) y3) (E_y1 : Exa Z Z.heap y1 "java/lang/Integer") (E_y2 : Exa Z Z.heap y2 "java/lang/Integer") (E_y3 : Exa Z Z.heap y3 "java/lang/Integer") :
    MetFree l (⟨"java/lang/Integer", "valueOf", "(I)Ljava/lang/Integer;"⟩ : MethodName) (head1 (Jvm.Cond.code (⟨"java/lang/Integer", "valueOf", "(I)Ljava/lang/Integer;"⟩ : MethodName) jdk_33_method_22_code 1 (some (.object "java/lang/Integer")) :: ws) ({ frames := 0, cells := 0, slots := 0, locals := 0 } : Room)) (fun ar U => ar = #[(.int 2)] ∧ Z.Warmed39 U.vm ∧ U.heap = h0) (fun _ _ _ _ _ => True) (fun _ U oc U' => ∃ v L, oc = .returned v ∧ own_vo2_Q Z w_CA mr y1 y2 y3 h0 n0 v U'.heap L ∧ FrameEnd U oc U' L ({ frames := 0, cells := 0, slots := 0, locals := 0 } : Room).cells ({ frames := 0, cells := 0, slots := 0, locals := 0 } : Room).slots) := by
  refine MetFree.of_bodySF (plainFor_of_name own_pn1) hisR ?_
  intro p e s m args below meth c s₁ Bd hml0 hP hK
  obtain ⟨rfl, hZ, hh⟩ := hP
  have hx := Bd.exec
  have hby := Bd.bytes
  have hml : c.maxLocals = 1 := hml0
  have hown : s.vm.findClass "java/lang/Integer" = some m.cls := findClass_of_methodNamed Bd.named
  have hnm := (name_of_methodNamed Bd.named Bd.method).1
  have X0 : Stand p l e ({ frames := 0, cells := 0, slots := 0, locals := 0 } : Room) s m #[(.int 2)] below meth c s₁ [] 0 0 := Stand.of_body Bd
  have e0 : s₁.heap = h0 := by rw [← hh, Bd.state]; rfl
  have N0 := Fr.nil n0
  have pre0 : ∀ t, Steps p.tables e below (s₁.setTop (mkF m 0 #[iv 2] [])) t → Steps p.tables e below (s₁.setTop (entryFrame m #[(.int 2)] 1)) t := fun t k => castTop (own_vo2_ef m ) k
  obtain ⟨T1, X1, e1, st1⟩ := getS2 X0 hx hZ hown (host := "") (Or.inl (hw _ (own_m 53 rfl))) Via.refl e0 (S_HI.ext O0.2) (g := (mkF m 7 #[iv 2] [(.int 2)])) rfl (hb hby own_d4_7)
  obtain ⟨T2, X2, e2, st2⟩ := getS2 X1 hx hZ hown (host := "") (Or.inl (hw _ (own_m 55 rfl))) Via.refl e1 (S_CA.ext O0.2) (g := (mkF m 13 #[iv 2] [])) rfl (hb hby own_d4_13)
  obtain ⟨cl, cA, cin, cat⟩ := id H_y2
  obtain ⟨fs, hr, hrun, hended, hW, hsame⟩ := X2.leave (v := some (.ref y2)) (fun h => by rw [Bd.returns] at h; cases h)
  refine ⟨_, _, pre0 _ ?_, hrun, hended, _, _, rfl, ?_, ⟨_, rfl⟩, hW, hsame.mono (by decide) (by decide)⟩
  · show Steps p.tables e below (s₁.setTop (mkF m 0 #[iv 2] [])) _
    refine XS.iloadN X0.here hx rfl (hb hby own_d4_0) rfl ?_
    show Steps p.tables e below (s₁.setTop (mkF m 1 #[iv 2] [(.int 2)])) _
    refine XS.bipush X0.here hx rfl (hb hby own_d4_1) ?_
    show Steps p.tables e below (s₁.setTop (mkF m 3 #[iv 2] [(.int (-128)), (.int 2)])) _
    refine XS.icmpNo X0.here hx rfl (hb hby own_d4_3) rfl (flt (by decide)).1 ?_
    show Steps p.tables e below (s₁.setTop (mkF m 6 #[iv 2] [])) _
    refine XS.iloadN X0.here hx rfl (hb hby own_d4_6) rfl ?_
    show Steps p.tables e below (s₁.setTop (mkF m 7 #[iv 2] [(.int 2)])) _
    refine st1 _ ?_
    show Steps p.tables e below (T1.setTop (mkF m 10 #[iv 2] [(.int 127), (.int 2)])) _
    refine XS.icmpNo X1.here hx rfl (hb hby own_d4_10) rfl (flt (by decide)).2.2.1 ?_
    show Steps p.tables e below (T1.setTop (mkF m 13 #[iv 2] [])) _
    refine st2 _ ?_
    show Steps p.tables e below (T2.setTop (mkF m 16 #[iv 2] [(.ref w_CA)])) _
    refine XS.iloadN X2.here hx rfl (hb hby own_d4_16) rfl ?_
    show Steps p.tables e below (T2.setTop (mkF m 17 #[iv 2] [(.int 2), (.ref w_CA)])) _
    refine XS.sipush X2.here hx rfl (hb hby own_d4_17) ?_
    show Steps p.tables e below (T2.setTop (mkF m 20 #[iv 2] [(.int 128), (.int 2), (.ref w_CA)])) _
    refine XS.iadd X2.here hx rfl (hb hby own_d4_20) rfl ?_
    show Steps p.tables e below (T2.setTop (mkF m 21 #[iv 2] [(.int ((2 : Int32) + (128 : Int32))), (.ref w_CA)])) _
    refine own_top (v' := (.int 130)) (congrArg Value.int (by decide)) ?_
    show Steps p.tables e below (T2.setTop (mkF m 21 #[iv 2] [(.int 130), (.ref w_CA)])) _
    refine X2.aaload hx (j := (130 : Int32)) (v := (.ref y2)) (by rw [e2]; exact (cA.ext O0.2).1) (State.isArrayOf_alike hZ.alike cA.2.1) rfl cA.2.2 cin cat (g := (mkF m 21 #[iv 2] [(.int 130), (.ref w_CA)])) rfl rfl (hb hby own_d4_21) _ ?_
    show Steps p.tables e below (T2.setTop (mkF m 22 #[iv 2] [(.ref y2)])) _
    jvm_step X2.here [X2.here.top, hx, (hb hby own_d4_22), X2.method', Bd.returns, Value.isRef, FieldType.isReference]
    first | (intro acts; rw [hr _ acts rfl rfl rfl]) | rw [hr _ _ rfl rfl rfl]
    exact Steps.refl _
  · show own_vo2_Q Z w_CA mr y1 y2 y3 h0 n0 _ T2.heap _
    rw [e2]
    exact ⟨rfl, N0, rfl⟩
theorem own_vo3_ef (m : MethodId)  : entryFrame m #[(.int 3)] 1 = mkF m 0 #[iv 3] [] := by first | (simp [entryFrame, mkF, argsToLocals, Value.category]; done) | rfl
def own_vo3_Q (Z : State) (w_CA : Addr) (mr : Addr) (y1 : Addr) (y2 : Addr) (y3 : Addr) (h0 : Heap) (n0 : Nat) (v : Option Value) (h : Heap) (L : List Loc) : Prop := v = some (.ref y3) ∧ Fr n0 L ∧ h = h0
set_option maxRecDepth 65536 in
set_option maxHeartbeats 40000000 in
theorem own_vo3 (l : Launch) (Z : State) (a0 : Array Value) (hw : ∀ d ∈ tables_1, d.before a0 Z = true) (ws : List Jvm.Cond) (w_CA : Addr) (mr : Addr) (y1 : Addr) (y2 : Addr) (y3 : Addr) (h0 : Heap) (n0 : Nat) (O0 : Old Z n0 h0) (S_HI : Sta Z Z.heap "java/lang/Integer$IntegerCache" "high" "I" (.int 127)) (S_CA : Sta Z Z.heap "java/lang/Integer$IntegerCache" "cache" "[Ljava/lang/Integer;" (.ref w_CA)) (M_OA : own_Mir Z "[Ljava/lang/Object;" mr) (H_y1 : own_At Z w_CA (129 : Int32) y1) (H_y2 : own_At Z w_CA (130 : Int32) y2) (H_y3 : own_At Z w_CA (131 : Int32) y3) (E_y1 : Exa Z Z.heap y1 "java/lang/Integer") (E_y2 : Exa Z Z.heap y2 "java/lang/Integer") (E_y3 : Exa Z Z.heap y3 "java/lang/Integer") :
    MetFree l (⟨"java/lang/Integer", "valueOf", "(I)Ljava/lang/Integer;"⟩ : MethodName) (head1 (Jvm.Cond.code (⟨"java/lang/Integer", "valueOf", "(I)Ljava/lang/Integer;"⟩ : MethodName) jdk_33_method_22_code 1 (some (.object "java/lang/Integer")) :: ws) ({ frames := 0, cells := 0, slots := 0, locals := 0 } : Room)) (fun ar U => ar = #[(.int 3)] ∧ Z.Warmed39 U.vm ∧ U.heap = h0) (fun _ _ _ _ _ => True) (fun _ U oc U' => ∃ v L, oc = .returned v ∧ own_vo3_Q Z w_CA mr y1 y2 y3 h0 n0 v U'.heap L ∧ FrameEnd U oc U' L ({ frames := 0, cells := 0, slots := 0, locals := 0 } : Room).cells ({ frames := 0, cells := 0, slots := 0, locals := 0 } : Room).slots) := by
  refine MetFree.of_bodySF (plainFor_of_name own_pn1) hisR ?_
  intro p e s m args below meth c s₁ Bd hml0 hP hK
  obtain ⟨rfl, hZ, hh⟩ := hP
  have hx := Bd.exec
  have hby := Bd.bytes
  have hml : c.maxLocals = 1 := hml0
  have hown : s.vm.findClass "java/lang/Integer" = some m.cls := findClass_of_methodNamed Bd.named
  have hnm := (name_of_methodNamed Bd.named Bd.method).1
  have X0 : Stand p l e ({ frames := 0, cells := 0, slots := 0, locals := 0 } : Room) s m #[(.int 3)] below meth c s₁ [] 0 0 := Stand.of_body Bd
  have e0 : s₁.heap = h0 := by rw [← hh, Bd.state]; rfl
  have N0 := Fr.nil n0
  have pre0 : ∀ t, Steps p.tables e below (s₁.setTop (mkF m 0 #[iv 3] [])) t → Steps p.tables e below (s₁.setTop (entryFrame m #[(.int 3)] 1)) t := fun t k => castTop (own_vo3_ef m ) k
  obtain ⟨T1, X1, e1, st1⟩ := getS2 X0 hx hZ hown (host := "") (Or.inl (hw _ (own_m 53 rfl))) Via.refl e0 (S_HI.ext O0.2) (g := (mkF m 7 #[iv 3] [(.int 3)])) rfl (hb hby own_d4_7)
  obtain ⟨T2, X2, e2, st2⟩ := getS2 X1 hx hZ hown (host := "") (Or.inl (hw _ (own_m 55 rfl))) Via.refl e1 (S_CA.ext O0.2) (g := (mkF m 13 #[iv 3] [])) rfl (hb hby own_d4_13)
  obtain ⟨cl, cA, cin, cat⟩ := id H_y3
  obtain ⟨fs, hr, hrun, hended, hW, hsame⟩ := X2.leave (v := some (.ref y3)) (fun h => by rw [Bd.returns] at h; cases h)
  refine ⟨_, _, pre0 _ ?_, hrun, hended, _, _, rfl, ?_, ⟨_, rfl⟩, hW, hsame.mono (by decide) (by decide)⟩
  · show Steps p.tables e below (s₁.setTop (mkF m 0 #[iv 3] [])) _
    refine XS.iloadN X0.here hx rfl (hb hby own_d4_0) rfl ?_
    show Steps p.tables e below (s₁.setTop (mkF m 1 #[iv 3] [(.int 3)])) _
    refine XS.bipush X0.here hx rfl (hb hby own_d4_1) ?_
    show Steps p.tables e below (s₁.setTop (mkF m 3 #[iv 3] [(.int (-128)), (.int 3)])) _
    refine XS.icmpNo X0.here hx rfl (hb hby own_d4_3) rfl (flt (by decide)).1 ?_
    show Steps p.tables e below (s₁.setTop (mkF m 6 #[iv 3] [])) _
    refine XS.iloadN X0.here hx rfl (hb hby own_d4_6) rfl ?_
    show Steps p.tables e below (s₁.setTop (mkF m 7 #[iv 3] [(.int 3)])) _
    refine st1 _ ?_
    show Steps p.tables e below (T1.setTop (mkF m 10 #[iv 3] [(.int 127), (.int 3)])) _
    refine XS.icmpNo X1.here hx rfl (hb hby own_d4_10) rfl (flt (by decide)).2.2.1 ?_
    show Steps p.tables e below (T1.setTop (mkF m 13 #[iv 3] [])) _
    refine st2 _ ?_
    show Steps p.tables e below (T2.setTop (mkF m 16 #[iv 3] [(.ref w_CA)])) _
    refine XS.iloadN X2.here hx rfl (hb hby own_d4_16) rfl ?_
    show Steps p.tables e below (T2.setTop (mkF m 17 #[iv 3] [(.int 3), (.ref w_CA)])) _
    refine XS.sipush X2.here hx rfl (hb hby own_d4_17) ?_
    show Steps p.tables e below (T2.setTop (mkF m 20 #[iv 3] [(.int 128), (.int 3), (.ref w_CA)])) _
    refine XS.iadd X2.here hx rfl (hb hby own_d4_20) rfl ?_
    show Steps p.tables e below (T2.setTop (mkF m 21 #[iv 3] [(.int ((3 : Int32) + (128 : Int32))), (.ref w_CA)])) _
    refine own_top (v' := (.int 131)) (congrArg Value.int (by decide)) ?_
    show Steps p.tables e below (T2.setTop (mkF m 21 #[iv 3] [(.int 131), (.ref w_CA)])) _
    refine X2.aaload hx (j := (131 : Int32)) (v := (.ref y3)) (by rw [e2]; exact (cA.ext O0.2).1) (State.isArrayOf_alike hZ.alike cA.2.1) rfl cA.2.2 cin cat (g := (mkF m 21 #[iv 3] [(.int 131), (.ref w_CA)])) rfl rfl (hb hby own_d4_21) _ ?_
    show Steps p.tables e below (T2.setTop (mkF m 22 #[iv 3] [(.ref y3)])) _
    jvm_step X2.here [X2.here.top, hx, (hb hby own_d4_22), X2.method', Bd.returns, Value.isRef, FieldType.isReference]
    first | (intro acts; rw [hr _ acts rfl rfl rfl]) | rw [hr _ _ rfl rfl rfl]
    exact Steps.refl _
  · show own_vo3_Q Z w_CA mr y1 y2 y3 h0 n0 _ T2.heap _
    rw [e2]
    exact ⟨rfl, N0, rfl⟩
theorem own_pi_ef (m : MethodId) (pt : Addr) : entryFrame m #[(.ref pt)] 1 = mkF m 0 #[rv pt] [] := by first | (simp [entryFrame, mkF, argsToLocals, Value.category]; done) | rfl
def own_pi_Q (Z : State) (w_CA : Addr) (mr : Addr) (y1 : Addr) (y2 : Addr) (y3 : Addr) (pt : Addr) (h0 : Heap) (n0 : Nat) (v : Option Value) (h : Heap) (L : List Loc) : Prop := ∃ (pb wb : Addr) (k_pb k_wb : ClassId), v = none ∧ Fr n0 L ∧ Keep h0 h [pt] ∧ own_Nd [pt, pb, wb] ∧ (∀ x ∈ ([pb, wb] : List Addr), h0.size ≤ x) ∧ Exa Z h pt "com/example/libspoke/libspoke/wheel/EntryTable$PageSet" ∧ Fld Z h pt "com/example/libspoke/libspoke/wheel/EntryTable$PageSet" "pageBits" "[J" (.ref pb) ∧ Fld Z h pt "com/example/libspoke/libspoke/wheel/EntryTable$PageSet" "wordBits" "[J" (.ref wb) ∧ Arv Z h pb k_pb .long (1 : Int32) [(.long 0)] (.long 0) ∧ Arv Z h wb k_wb .long (1 : Int32) [(.long 0)] (.long 0)
set_option maxRecDepth 65536 in
set_option maxHeartbeats 40000000 in
theorem own_pi (l : Launch) (Z : State) (a0 : Array Value) (hw : ∀ d ∈ tables_1, d.before a0 Z = true) (ws : List Jvm.Cond) (w_CA : Addr) (mr : Addr) (y1 : Addr) (y2 : Addr) (y3 : Addr) (pt : Addr) (h0 : Heap) (n0 : Nat) (O0 : Old Z n0 h0) (S_HI : Sta Z Z.heap "java/lang/Integer$IntegerCache" "high" "I" (.int 127)) (S_CA : Sta Z Z.heap "java/lang/Integer$IntegerCache" "cache" "[Ljava/lang/Integer;" (.ref w_CA)) (M_OA : own_Mir Z "[Ljava/lang/Object;" mr) (H_y1 : own_At Z w_CA (129 : Int32) y1) (H_y2 : own_At Z w_CA (130 : Int32) y2) (H_y3 : own_At Z w_CA (131 : Int32) y3) (E_y1 : Exa Z Z.heap y1 "java/lang/Integer") (E_y2 : Exa Z Z.heap y2 "java/lang/Integer") (E_y3 : Exa Z Z.heap y3 "java/lang/Integer") (hG : ∀ x ∈ ([pt] : List Addr), n0 ≤ x) (hN : own_Nd [pt]) (pE_pt : Exa Z h0 pt "com/example/libspoke/libspoke/wheel/EntryTable$PageSet") (pF_pt_pageBits : Fld Z h0 pt "com/example/libspoke/libspoke/wheel/EntryTable$PageSet" "pageBits" "[J" .null) (pF_pt_wordBits : Fld Z h0 pt "com/example/libspoke/libspoke/wheel/EntryTable$PageSet" "wordBits" "[J" .null) :
    MetFree l (⟨"com/example/libspoke/libspoke/wheel/EntryTable$PageSet", "<init>", "()V"⟩ : MethodName) (head1 (Jvm.Cond.code (⟨"com/example/libspoke/libspoke/wheel/EntryTable$PageSet", "<init>", "()V"⟩ : MethodName) prog_19_method_1_code 1 none :: ws) ({ frames := 1, cells := 2, slots := 2, locals := 12 } : Room)) (fun ar U => ar = #[(.ref pt)] ∧ Z.Warmed39 U.vm ∧ U.heap = h0) (fun _ _ _ _ _ => True) (fun _ U oc U' => ∃ v L, oc = .returned v ∧ own_pi_Q Z w_CA mr y1 y2 y3 pt h0 n0 v U'.heap L ∧ FrameEnd U oc U' L ({ frames := 1, cells := 2, slots := 2, locals := 12 } : Room).cells ({ frames := 1, cells := 2, slots := 2, locals := 12 } : Room).slots) := by
  refine MetFree.of_bodySF (plainFor_of_name own_pn3) hisR ?_
  intro p e s m args below meth c s₁ Bd hml0 hP hK
  obtain ⟨rfl, hZ, hh⟩ := hP
  have hx := Bd.exec
  have hby := Bd.bytes
  have hml : c.maxLocals = 1 := hml0
  have hown : s.vm.findClass "com/example/libspoke/libspoke/wheel/EntryTable$PageSet" = some m.cls := findClass_of_methodNamed Bd.named
  have hnm := (name_of_methodNamed Bd.named Bd.method).1
  have X0 : Stand p l e ({ frames := 1, cells := 2, slots := 2, locals := 12 } : Room) s m #[(.ref pt)] below meth c s₁ [] 0 0 := Stand.of_body Bd
  have e0 : s₁.heap = h0 := by rw [← hh, Bd.state]; rfl
  have N0 := Fr.nil n0
  have pre0 : ∀ t, Steps p.tables e below (s₁.setTop (mkF m 0 #[rv pt] [])) t → Steps p.tables e below (s₁.setTop (entryFrame m #[(.ref pt)] 1)) t := fun t k => castTop (own_pi_ef m pt) k
  have kp0 := Keep.refl h0 ([pt] : List Addr)
  have g_pt : n0 ≤ pt := hG _ (own_m 0 rfl)
  obtain ⟨T1, X1, e1, st1⟩ := initO X0 hx hZ hown (hw _ (own_m 40 rfl)) (hw _ (own_m 7 rfl)) (hw _ (own_m 8 rfl)) e0 (g := (mkF m 1 #[rv pt] [(.ref pt)])) rfl (by rw [hml]; rfl) rfl (hb hby own_d3_1) (by decide) (W := 0) (by show 2 * 0 + _ ≤ _; exact Nat.le_of_eq rfl) (by decide)
  obtain ⟨T2, h2, k2, X2, e2, E2, A2, st2⟩ := newP X1 hx hZ (hw _ (own_m 18 rfl)) e1 (g := (mkF m 6 #[rv pt] [(.int 1), (.ref pt)])) rfl (hb hby own_d3_6) rfl (by decide) (cap := 1) (by decide) (by decide) (by decide) (by decide)
  obtain ⟨b2, g2⟩ : ∃ z, z = h0.size := ⟨_, rfl⟩
  rw [← g2] at A2  st2
  have ne_pt_b2 : pt ≠ b2 := Nat.ne_of_lt (g2 ▸ pE_pt.lt)
  have gg_b2 : n0 ≤ b2 := g2 ▸ own_le O0
  have sz_b2 : h0.size ≤ b2 := g2 ▸ kp0.1
  have O3 := O0.ext E2
  have kp4 := kp0.ext E2
  have V_b2 : Arv Z h2 b2 k2 .long (1 : Int32) [(.long 0)] (.long 0) := (Arv.new A2 (by decide)).pad (pad_rep [] (.long 0) 1)
  have f5 := (pF_pt_pageBits.ext E2)
  have f6 := (pE_pt.ext E2)
  obtain ⟨T7, h7, X7, e7, W7, st7⟩ := putF X2 hx hZ hown (host := "") (Or.inl (hw _ (own_m 41 rfl))) Via.refl e2 f5 f6 (Or.inl (hw _ (own_m 42 rfl))) (hw _ (own_m 35 rfl)) (ty := (.array .long)) (by decide) rfl rfl (g := (mkF m 8 #[rv pt] [(.ref b2), (.ref pt)])) rfl rfl (hb hby own_d3_8)
  have Fw7 := f5.same W7
  have O8 := O3.wr W7 g_pt
  have kp9 := kp4.wr W7 (Or.inl (own_m 0 rfl))
  have N7 := Fr.snoc X7 N0 g_pt
  have f10 := (f6.wr W7)
  have f11 := (V_b2.other W7 (Ne.symm ne_pt_b2))
  obtain ⟨T12, h12, k12, X12, e12, E12, A12, st12⟩ := newP X7 hx hZ (hw _ (own_m 18 rfl)) e7 (g := (mkF m 13 #[rv pt] [(.int 1), (.ref pt)])) rfl (hb hby own_d3_13) rfl (by decide) (cap := 1) (by decide) (by decide) (by decide) (by decide)
  obtain ⟨b12, g12⟩ : ∃ z, z = h7.size := ⟨_, rfl⟩
  rw [← g12] at A12  st12
  have ne_pt_b12 : pt ≠ b12 := Nat.ne_of_lt (g12 ▸ f10.lt)
  have ne_b2_b12 : b2 ≠ b12 := Nat.ne_of_lt (g12 ▸ f11.lt)
  have gg_b12 : n0 ≤ b12 := g12 ▸ own_le O8
  have sz_b12 : h0.size ≤ b12 := g12 ▸ kp9.1
  have O13 := O8.ext E12
  have kp14 := kp9.ext E12
  have V_b12 : Arv Z h12 b12 k12 .long (1 : Int32) [(.long 0)] (.long 0) := (Arv.new A12 (by decide)).pad (pad_rep [] (.long 0) 1)
  have f15 := (((pF_pt_wordBits.ext E2).other W7 (Or.inr (slot_ne (Or.inl (hw _ (own_m 44 rfl))) (Or.inl (hw _ (own_m 42 rfl))) (by decide) (t := (.array .long)) (t' := (.array .long)) (by decide) (by decide)))).ext E12)
  have f16 := (f10.ext E12)
  obtain ⟨T17, h17, X17, e17, W17, st17⟩ := putF X12 hx hZ hown (host := "") (Or.inl (hw _ (own_m 43 rfl))) Via.refl e12 f15 f16 (Or.inl (hw _ (own_m 44 rfl))) (hw _ (own_m 35 rfl)) (ty := (.array .long)) (by decide) rfl rfl (g := (mkF m 15 #[rv pt] [(.ref b12), (.ref pt)])) rfl rfl (hb hby own_d3_15)
  have Fw17 := f15.same W17
  have O18 := O13.wr W17 g_pt
  have kp19 := kp14.wr W17 (Or.inl (own_m 0 rfl))
  have N17 := Fr.snoc X17 N7 g_pt
  have f20 := (f16.wr W17)
  have f21 := ((Fw7.ext E12).other W17 (Or.inr (slot_ne (Or.inl (hw _ (own_m 42 rfl))) (Or.inl (hw _ (own_m 44 rfl))) (by decide) (t := (.array .long)) (t' := (.array .long)) (by decide) (by decide))))
  have f22 := ((f11.ext E12).other W17 (Ne.symm ne_pt_b2))
  have f23 := (V_b12.other W17 (Ne.symm ne_pt_b12))
  obtain ⟨fs, hr, hrun, hended, hW, hsame⟩ := X17.leave (v := none) (fun _ => rfl)
  refine ⟨_, _, pre0 _ ?_, hrun, hended, _, _, rfl, ?_, ⟨_, rfl⟩, hW, hsame.mono (by decide) (by decide)⟩
  · show Steps p.tables e below (s₁.setTop (mkF m 0 #[rv pt] [])) _
    refine XS.aloadN X0.here hx rfl (hb hby own_d3_0) rfl rfl ?_
    show Steps p.tables e below (s₁.setTop (mkF m 1 #[rv pt] [(.ref pt)])) _
    refine st1 _ ?_
    show Steps p.tables e below (T1.setTop (mkF m 4 #[rv pt] [])) _
    refine XS.aloadN X1.here hx rfl (hb hby own_d3_4) rfl rfl ?_
    show Steps p.tables e below (T1.setTop (mkF m 5 #[rv pt] [(.ref pt)])) _
    refine XS.iconst X1.here hx rfl (hb hby own_d3_5) ?_
    show Steps p.tables e below (T1.setTop (mkF m 6 #[rv pt] [(.int 1), (.ref pt)])) _
    refine st2 _ ?_
    show Steps p.tables e below (T2.setTop (mkF m 8 #[rv pt] [(.ref b2), (.ref pt)])) _
    refine st7 _ ?_
    show Steps p.tables e below (T7.setTop (mkF m 11 #[rv pt] [])) _
    refine XS.aloadN X7.here hx rfl (hb hby own_d3_11) rfl rfl ?_
    show Steps p.tables e below (T7.setTop (mkF m 12 #[rv pt] [(.ref pt)])) _
    refine XS.iconst X7.here hx rfl (hb hby own_d3_12) ?_
    show Steps p.tables e below (T7.setTop (mkF m 13 #[rv pt] [(.int 1), (.ref pt)])) _
    refine st12 _ ?_
    show Steps p.tables e below (T12.setTop (mkF m 15 #[rv pt] [(.ref b12), (.ref pt)])) _
    refine st17 _ ?_
    show Steps p.tables e below (T17.setTop (mkF m 18 #[rv pt] [])) _
    exact X17.returnOut hx Bd.returns (hb hby own_d3_18) hr
  · show own_pi_Q Z w_CA mr y1 y2 y3 pt h0 n0 _ T17.heap _
    rw [e17]
    exact ⟨b2, b12, k2, k12, rfl, N17, kp19, (own_ndc (allS ne_pt_b2 (allS ne_pt_b12 all0)) (own_ndc (allS ne_b2_b12 all0) (own_ndc all0 own_nd0))), (allS sz_b2 (allS sz_b12 all0)), f20, f21, Fw17, f22, f23⟩
theorem own_ei_ef (m : MethodId) (a : Addr) : entryFrame m #[(.ref a)] 1 = mkF m 0 #[rv a] [] := by first | (simp [entryFrame, mkF, argsToLocals, Value.category]; done) | rfl
def own_ei_Q (Z : State) (w_CA : Addr) (mr : Addr) (y1 : Addr) (y2 : Addr) (y3 : Addr) (a : Addr) (h0 : Heap) (n0 : Nat) (v : Option Value) (h : Heap) (L : List Loc) : Prop := ∃ (ip io dp lo lp li ps pf pg pt pb wb : Addr) (k_ip k_dp k_lp k_lo k_li k_ps k_pf k_pg k_pb k_wb k_io : ClassId), v = none ∧ Fr n0 L ∧ Keep h0 h [a] ∧ own_Nd [a, ip, io, dp, lo, lp, li, ps, pf, pg, pt, pb, wb] ∧ (∀ x ∈ ([ip, io, dp, lo, lp, li, ps, pf, pg, pt, pb, wb] : List Addr), h0.size ≤ x) ∧ OvrA Z k_ip (.object "java/lang/Object") "[Ljava/lang/Object;" ∧ OvrA Z k_dp .long "[J" ∧ OvrA Z k_lp .int "[I" ∧ Exa Z h a "com/example/libspoke/libspoke/wheel/EntryTable" ∧ Fld Z h a "com/example/libspoke/libspoke/wheel/EntryTable" "itemPages" "[[Ljava/lang/Object;" (.ref ip) ∧ Fld Z h a "com/example/libspoke/libspoke/wheel/EntryTable" "deadlinePages" "[[J" (.ref dp) ∧ Fld Z h a "com/example/libspoke/libspoke/wheel/EntryTable" "linkPages" "[[I" (.ref lp) ∧ Fld Z h a "com/example/libspoke/libspoke/wheel/EntryTable" "pageSizes" "[I" (.ref ps) ∧ Fld Z h a "com/example/libspoke/libspoke/wheel/EntryTable" "pageFirstFree" "[I" (.ref pf) ∧ Fld Z h a "com/example/libspoke/libspoke/wheel/EntryTable" "pageGenerations" "[I" (.ref pg) ∧ Fld Z h a "com/example/libspoke/libspoke/wheel/EntryTable" "pagesWithRoom" "Lcom/example/libspoke/libspoke/wheel/EntryTable$PageSet;" (.ref pt) ∧ Fld Z h a "com/example/libspoke/libspoke/wheel/EntryTable" "sparePage" "I" (.int (-1)) ∧ Fld Z h a "com/example/libspoke/libspoke/wheel/EntryTable" "size" "I" (.int 0) ∧ Fld Z h a "com/example/libspoke/libspoke/wheel/EntryTable" "capacity" "I" (.int 0) ∧ Arv Z h ip k_ip (.array (.object "java/lang/Object")) (1 : Int32) [(.ref io)] .null ∧ Arv Z h dp k_dp (.array .long) (1 : Int32) [(.ref lo)] .null ∧ Arv Z h lp k_lp (.array .int) (1 : Int32) [(.ref li)] .null ∧ Arv Z h lo k_lo .long (0 : Int32) [] (.long 0) ∧ Arv Z h li k_li .int (0 : Int32) [] (.int 0) ∧ Arv Z h ps k_ps .int (1 : Int32) [(.int 0)] (.int 0) ∧ Arv Z h pf k_pf .int (1 : Int32) [(.int (-1))] (.int 0) ∧ Arv Z h pg k_pg .int (1 : Int32) [(.int 0)] (.int 0) ∧ Arv Z h pb k_pb .long (1 : Int32) [(.long 0)] (.long 0) ∧ Arv Z h wb k_wb .long (1 : Int32) [(.long 0)] (.long 0) ∧ Exa Z h pt "com/example/libspoke/libspoke/wheel/EntryTable$PageSet" ∧ Fld Z h pt "com/example/libspoke/libspoke/wheel/EntryTable$PageSet" "pageBits" "[J" (.ref pb) ∧ Fld Z h pt "com/example/libspoke/libspoke/wheel/EntryTable$PageSet" "wordBits" "[J" (.ref wb) ∧ Exa Z h io "[Ljava/lang/Object;" ∧ Arv Z h io k_io (.object "java/lang/Object") (0 : Int32) [] .null
set_option maxRecDepth 65536 in
set_option maxHeartbeats 40000000 in
theorem own_ei (l : Launch) (Z : State) (a0 : Array Value) (hw : ∀ d ∈ tables_1, d.before a0 Z = true) (ws : List Jvm.Cond) (w_CA : Addr) (mr : Addr) (y1 : Addr) (y2 : Addr) (y3 : Addr) (a : Addr) (h0 : Heap) (n0 : Nat) (O0 : Old Z n0 h0) (S_HI : Sta Z Z.heap "java/lang/Integer$IntegerCache" "high" "I" (.int 127)) (S_CA : Sta Z Z.heap "java/lang/Integer$IntegerCache" "cache" "[Ljava/lang/Integer;" (.ref w_CA)) (M_OA : own_Mir Z "[Ljava/lang/Object;" mr) (H_y1 : own_At Z w_CA (129 : Int32) y1) (H_y2 : own_At Z w_CA (130 : Int32) y2) (H_y3 : own_At Z w_CA (131 : Int32) y3) (E_y1 : Exa Z Z.heap y1 "java/lang/Integer") (E_y2 : Exa Z Z.heap y2 "java/lang/Integer") (E_y3 : Exa Z Z.heap y3 "java/lang/Integer") (hG : ∀ x ∈ ([a] : List Addr), n0 ≤ x) (hN : own_Nd [a]) (pE_a : Exa Z h0 a "com/example/libspoke/libspoke/wheel/EntryTable") (pF_a_itemPages : Fld Z h0 a "com/example/libspoke/libspoke/wheel/EntryTable" "itemPages" "[[Ljava/lang/Object;" .null) (pF_a_deadlinePages : Fld Z h0 a "com/example/libspoke/libspoke/wheel/EntryTable" "deadlinePages" "[[J" .null) (pF_a_linkPages : Fld Z h0 a "com/example/libspoke/libspoke/wheel/EntryTable" "linkPages" "[[I" .null) (pF_a_pageSizes : Fld Z h0 a "com/example/libspoke/libspoke/wheel/EntryTable" "pageSizes" "[I" .null) (pF_a_pageFirstFree : Fld Z h0 a "com/example/libspoke/libspoke/wheel/EntryTable" "pageFirstFree" "[I" .null) (pF_a_pageGenerations : Fld Z h0 a "com/example/libspoke/libspoke/wheel/EntryTable" "pageGenerations" "[I" .null) (pF_a_pagesWithRoom : Fld Z h0 a "com/example/libspoke/libspoke/wheel/EntryTable" "pagesWithRoom" "Lcom/example/libspoke/libspoke/wheel/EntryTable$PageSet;" .null) (pF_a_sparePage : Fld Z h0 a "com/example/libspoke/libspoke/wheel/EntryTable" "sparePage" "I" (.int 0)) (pF_a_size : Fld Z h0 a "com/example/libspoke/libspoke/wheel/EntryTable" "size" "I" (.int 0)) (pF_a_capacity : Fld Z h0 a "com/example/libspoke/libspoke/wheel/EntryTable" "capacity" "I" (.int 0)) :
    MetFree l (⟨"com/example/libspoke/libspoke/wheel/EntryTable", "<init>", "()V"⟩ : MethodName) (head1 (Jvm.Cond.code (⟨"com/example/libspoke/libspoke/wheel/EntryTable", "<init>", "()V"⟩ : MethodName) prog_18_method_1_code 1 none :: ws) ({ frames := 2, cells := 12, slots := 10, locals := 26 } : Room)) (fun ar U => ar = #[(.ref a)] ∧ Z.Warmed39 U.vm ∧ U.heap = h0) (fun _ _ _ _ _ => True) (fun _ U oc U' => ∃ v L, oc = .returned v ∧ own_ei_Q Z w_CA mr y1 y2 y3 a h0 n0 v U'.heap L ∧ FrameEnd U oc U' L ({ frames := 2, cells := 12, slots := 10, locals := 26 } : Room).cells ({ frames := 2, cells := 12, slots := 10, locals := 26 } : Room).slots) := by
  refine MetFree.of_bodySF (plainFor_of_name own_pn0) hisR ?_
  intro p e s m args below meth c s₁ Bd hml0 hP hK
  obtain ⟨rfl, hZ, hh⟩ := hP
  have hx := Bd.exec
  have hby := Bd.bytes
  have hml : c.maxLocals = 1 := hml0
  have hown : s.vm.findClass "com/example/libspoke/libspoke/wheel/EntryTable" = some m.cls := findClass_of_methodNamed Bd.named
  have hnm := (name_of_methodNamed Bd.named Bd.method).1
  have X0 : Stand p l e ({ frames := 2, cells := 12, slots := 10, locals := 26 } : Room) s m #[(.ref a)] below meth c s₁ [] 0 0 := Stand.of_body Bd
  have e0 : s₁.heap = h0 := by rw [← hh, Bd.state]; rfl
  have N0 := Fr.nil n0
  have pre0 : ∀ t, Steps p.tables e below (s₁.setTop (mkF m 0 #[rv a] [])) t → Steps p.tables e below (s₁.setTop (entryFrame m #[(.ref a)] 1)) t := fun t k => castTop (own_ei_ef m a) k
  have kp0 := Keep.refl h0 ([a] : List Addr)
  have g_a : n0 ≤ a := hG _ (own_m 0 rfl)
  obtain ⟨T1, X1, e1, st1⟩ := initO X0 hx hZ hown (hw _ (own_m 6 rfl)) (hw _ (own_m 7 rfl)) (hw _ (own_m 8 rfl)) e0 (g := (mkF m 1 #[rv a] [(.ref a)])) rfl (by rw [hml]; rfl) rfl (hb hby own_d1_1) (by decide) (W := 0) (by show 2 * 0 + _ ≤ _; exact Nat.le_of_eq rfl) (by decide)
  obtain ⟨T2, h2, k2, X2, e2, E2, A2, B2, O2, st2⟩ := newRA X1 hx hZ hown (ty := (.object "java/lang/Object")) (by first | decide +kernel | rfl) (hw _ (own_m 9 rfl)) (hw _ (own_m 10 rfl)) e1 (g := (mkF m 6 #[rv a] [(.int 1), (.ref a)])) rfl (hb hby own_d1_6) rfl (by decide) (cap := 1) (by decide) (by decide) (by decide) (by decide) (ad := "[[Ljava/lang/Object;") (by first | decide +kernel | rfl)
  obtain ⟨b2, g2⟩ : ∃ z, z = h0.size := ⟨_, rfl⟩
  rw [← g2] at A2 B2 st2
  have ne_a_b2 : a ≠ b2 := Nat.ne_of_lt (g2 ▸ pE_a.lt)
  have gg_b2 : n0 ≤ b2 := g2 ▸ own_le O0
  have sz_b2 : h0.size ≤ b2 := g2 ▸ kp0.1
  have O3 := O0.ext E2
  have kp4 := kp0.ext E2
  have V_b2 : Arv Z h2 b2 k2 (.array (.object "java/lang/Object")) (1 : Int32) [.null] .null := (Arv.new A2 (by decide)).pad (pad_rep [] .null 1)
  have f5 := (pE_a.ext E2)
  obtain ⟨T6, h6, k6, X6, e6, E6, A6, B6, O6, st6⟩ := newRE X2 hx hZ hown (hw _ (own_m 11 rfl)) (hw _ (own_m 12 rfl)) e2 (g := (mkF m 12 #[rv a] [(.int 0), (.int 0), (.ref b2), (.ref b2), (.ref a)])) rfl (hb hby own_d1_12) rfl (by decide) (cap := 0) (by decide) (by decide) (by decide) (by decide) (ad := "[Ljava/lang/Object;") (by first | decide +kernel | rfl)
  obtain ⟨b6, g6⟩ : ∃ z, z = h2.size := ⟨_, rfl⟩
  rw [← g6] at A6 B6 st6
  have ne_a_b6 : a ≠ b6 := Nat.ne_of_lt (g6 ▸ f5.lt)
  have ne_b2_b6 : b2 ≠ b6 := Nat.ne_of_lt (g6 ▸ V_b2.lt)
  have gg_b6 : n0 ≤ b6 := g6 ▸ own_le O3
  have sz_b6 : h0.size ≤ b6 := g6 ▸ kp4.1
  have O7 := O3.ext E6
  have kp8 := kp4.ext E6
  have V_b6 : Arv Z h6 b6 k6 (.object "java/lang/Object") (0 : Int32) [] .null := (Arv.new A6 (by decide)).pad (pad_rep [] .null 0)
  have f9 := (V_b2.ext E6)
  obtain ⟨c10, c10A, c10q, c10S, c10N, c10H, c10G⟩ := id f9
  have c10in : ¬ ((0 : Int32) < 0 ∨ c10.slots.size ≤ ((0 : Int32)).toNatClampNeg) := inb_of c10S ⟨by decide, by decide⟩
  obtain ⟨T11, h11, X11, e11, W11, st11⟩ := stR X6 hx hZ e6 c10A (j := (0 : Int32)) c10in rfl (Sto.ofVA c10A c10q O2 (Ins.self B6)) (g := (mkF m 15 #[rv a] [(.ref b6), (.int 0), (.ref b2), (.ref b2), (.ref a)])) rfl rfl (hb hby own_d1_15)
  have V11 : Arv Z h11 b2 k2 (.array (.object "java/lang/Object")) (1 : Int32) [(.ref b6)] .null := Arv.set c10A c10q c10S c10N c10H c10G rfl W11 0 rfl (Nat.le_of_ble_eq_true rfl)
  have O12 := O7.wr W11 gg_b2
  have kp13 := kp8.wr W11 (Or.inr sz_b2)
  have N11 := Fr.snoc X11 N0 gg_b2
  have f14 := (((pF_a_itemPages.ext E2).ext E6).other W11 (Or.inl ne_a_b2))
  have f15 := ((f5.ext E6).wr W11)
  obtain ⟨T16, h16, X16, e16, W16, st16⟩ := putF X11 hx hZ hown (host := "") (Or.inl (hw _ (own_m 14 rfl))) Via.refl e11 f14 f15 (Or.inl (hw _ (own_m 15 rfl))) (hw _ (own_m 1 rfl)) (ty := (.array (.array (.object "java/lang/Object")))) (by decide) rfl rfl (g := (mkF m 16 #[rv a] [(.ref b2), (.ref a)])) rfl rfl (hb hby own_d1_16)
  have Fw16 := f14.same W16
  have O17 := O12.wr W16 g_a
  have kp18 := kp13.wr W16 (Or.inl (own_m 0 rfl))
  have N16 := Fr.snoc X16 N11 g_a
  have f19 := (f15.wr W16)
  have f20 := (V11.other W16 (Ne.symm ne_a_b2))
  have f21 := ((V_b6.other W11 (Ne.symm ne_b2_b6)).other W16 (Ne.symm ne_a_b6))
  obtain ⟨T22, h22, k22, X22, e22, E22, A22, B22, O22, st22⟩ := newRA X16 hx hZ hown (ty := .long) (by first | decide +kernel | rfl) (hw _ (own_m 16 rfl)) (hw _ (own_m 17 rfl)) e16 (g := (mkF m 21 #[rv a] [(.int 1), (.ref a)])) rfl (hb hby own_d1_21) rfl (by decide) (cap := 1) (by decide) (by decide) (by decide) (by decide) (ad := "[[J") (by first | decide +kernel | rfl)
  obtain ⟨b22, g22⟩ : ∃ z, z = h16.size := ⟨_, rfl⟩
  rw [← g22] at A22 B22 st22
  have ne_a_b22 : a ≠ b22 := Nat.ne_of_lt (g22 ▸ f19.lt)
  have ne_b2_b22 : b2 ≠ b22 := Nat.ne_of_lt (g22 ▸ f20.lt)
  have ne_b6_b22 : b6 ≠ b22 := Nat.ne_of_lt (g22 ▸ f21.lt)
  have gg_b22 : n0 ≤ b22 := g22 ▸ own_le O17
  have sz_b22 : h0.size ≤ b22 := g22 ▸ kp18.1
  have O23 := O17.ext E22
  have kp24 := kp18.ext E22
  have V_b22 : Arv Z h22 b22 k22 (.array .long) (1 : Int32) [.null] .null := (Arv.new A22 (by decide)).pad (pad_rep [] .null 1)
  have f25 := (f19.ext E22)
  have f26 := (f20.ext E22)
  have f27 := (f21.ext E22)
  obtain ⟨T28, h28, k28, X28, e28, E28, A28, B28, st28⟩ := newPE X22 hx hZ (hw _ (own_m 18 rfl)) e22 (g := (mkF m 27 #[rv a] [(.int 0), (.int 0), (.ref b22), (.ref b22), (.ref a)])) rfl (hb hby own_d1_27) rfl (by decide) (cap := 0) (by decide) (by decide) (by decide) (by decide) (ad := "[J") (by first | decide +kernel | rfl)
  obtain ⟨b28, g28⟩ : ∃ z, z = h22.size := ⟨_, rfl⟩
  rw [← g28] at A28 B28 st28
  have ne_a_b28 : a ≠ b28 := Nat.ne_of_lt (g28 ▸ f25.lt)
  have ne_b2_b28 : b2 ≠ b28 := Nat.ne_of_lt (g28 ▸ f26.lt)
  have ne_b6_b28 : b6 ≠ b28 := Nat.ne_of_lt (g28 ▸ f27.lt)
  have ne_b22_b28 : b22 ≠ b28 := Nat.ne_of_lt (g28 ▸ V_b22.lt)
  have gg_b28 : n0 ≤ b28 := g28 ▸ own_le O23
  have sz_b28 : h0.size ≤ b28 := g28 ▸ kp24.1
  have O29 := O23.ext E28
  have kp30 := kp24.ext E28
  have V_b28 : Arv Z h28 b28 k28 .long (0 : Int32) [] (.long 0) := (Arv.new A28 (by decide)).pad (pad_rep [] (.long 0) 0)
  have f31 := (V_b22.ext E28)
  obtain ⟨c32, c32A, c32q, c32S, c32N, c32H, c32G⟩ := id f31
  have c32in : ¬ ((0 : Int32) < 0 ∨ c32.slots.size ≤ ((0 : Int32)).toNatClampNeg) := inb_of c32S ⟨by decide, by decide⟩
  obtain ⟨T33, h33, X33, e33, W33, st33⟩ := stR X28 hx hZ e28 c32A (j := (0 : Int32)) c32in rfl (Sto.ofVA c32A c32q O22 (Ins.self B28)) (g := (mkF m 29 #[rv a] [(.ref b28), (.int 0), (.ref b22), (.ref b22), (.ref a)])) rfl rfl (hb hby own_d1_29)
  have V33 : Arv Z h33 b22 k22 (.array .long) (1 : Int32) [(.ref b28)] .null := Arv.set c32A c32q c32S c32N c32H c32G rfl W33 0 rfl (Nat.le_of_ble_eq_true rfl)
  have O34 := O29.wr W33 gg_b22
  have kp35 := kp30.wr W33 (Or.inr sz_b22)
  have N33 := Fr.snoc X33 N16 gg_b22
  have f36 := (((((((pF_a_deadlinePages.ext E2).ext E6).other W11 (Or.inl ne_a_b2)).other W16 (Or.inr (slot_ne (Or.inl (hw _ (own_m 21 rfl))) (Or.inl (hw _ (own_m 15 rfl))) (by decide) (t := (.array (.array .long))) (t' := (.array (.array (.object "java/lang/Object")))) (by decide) (by decide)))).ext E22).ext E28).other W33 (Or.inl ne_a_b22))
  have f37 := ((f25.ext E28).wr W33)
  obtain ⟨T38, h38, X38, e38, W38, st38⟩ := putF X33 hx hZ hown (host := "") (Or.inl (hw _ (own_m 20 rfl))) Via.refl e33 f36 f37 (Or.inl (hw _ (own_m 21 rfl))) (hw _ (own_m 1 rfl)) (ty := (.array (.array .long))) (by decide) rfl rfl (g := (mkF m 30 #[rv a] [(.ref b22), (.ref a)])) rfl rfl (hb hby own_d1_30)
  have Fw38 := f36.same W38
  have O39 := O34.wr W38 g_a
  have kp40 := kp35.wr W38 (Or.inl (own_m 0 rfl))
  have N38 := Fr.snoc X38 N33 g_a
  have f41 := (f37.wr W38)
  have f42 := (((f26.ext E28).other W33 ne_b2_b22).other W38 (Ne.symm ne_a_b2))
  have f43 := (((f27.ext E28).other W33 ne_b6_b22).other W38 (Ne.symm ne_a_b6))
  have f44 := (V33.other W38 (Ne.symm ne_a_b22))
  have f45 := ((V_b28.other W33 (Ne.symm ne_b22_b28)).other W38 (Ne.symm ne_a_b28))
  obtain ⟨T46, h46, k46, X46, e46, E46, A46, B46, O46, st46⟩ := newRA X38 hx hZ hown (ty := .int) (by first | decide +kernel | rfl) (hw _ (own_m 22 rfl)) (hw _ (own_m 23 rfl)) e38 (g := (mkF m 35 #[rv a] [(.int 1), (.ref a)])) rfl (hb hby own_d1_35) rfl (by decide) (cap := 1) (by decide) (by decide) (by decide) (by decide) (ad := "[[I") (by first | decide +kernel | rfl)
  obtain ⟨b46, g46⟩ : ∃ z, z = h38.size := ⟨_, rfl⟩
  rw [← g46] at A46 B46 st46
  have ne_a_b46 : a ≠ b46 := Nat.ne_of_lt (g46 ▸ f41.lt)
  have ne_b2_b46 : b2 ≠ b46 := Nat.ne_of_lt (g46 ▸ f42.lt)
  have ne_b6_b46 : b6 ≠ b46 := Nat.ne_of_lt (g46 ▸ f43.lt)
  have ne_b22_b46 : b22 ≠ b46 := Nat.ne_of_lt (g46 ▸ f44.lt)
  have ne_b28_b46 : b28 ≠ b46 := Nat.ne_of_lt (g46 ▸ f45.lt)
  have gg_b46 : n0 ≤ b46 := g46 ▸ own_le O39
  have sz_b46 : h0.size ≤ b46 := g46 ▸ kp40.1
  have O47 := O39.ext E46
  have kp48 := kp40.ext E46
  have V_b46 : Arv Z h46 b46 k46 (.array .int) (1 : Int32) [.null] .null := (Arv.new A46 (by decide)).pad (pad_rep [] .null 1)
  have f49 := (f41.ext E46)
  have f50 := (f42.ext E46)
  have f51 := (f43.ext E46)
  have f52 := (f44.ext E46)
  have f53 := (f45.ext E46)
  obtain ⟨T54, h54, k54, X54, e54, E54, A54, B54, st54⟩ := newPE X46 hx hZ (hw _ (own_m 24 rfl)) e46 (g := (mkF m 41 #[rv a] [(.int 0), (.int 0), (.ref b46), (.ref b46), (.ref a)])) rfl (hb hby own_d1_41) rfl (by decide) (cap := 0) (by decide) (by decide) (by decide) (by decide) (ad := "[I") (by first | decide +kernel | rfl)
  obtain ⟨b54, g54⟩ : ∃ z, z = h46.size := ⟨_, rfl⟩
  rw [← g54] at A54 B54 st54
  have ne_a_b54 : a ≠ b54 := Nat.ne_of_lt (g54 ▸ f49.lt)
  have ne_b2_b54 : b2 ≠ b54 := Nat.ne_of_lt (g54 ▸ f50.lt)
  have ne_b6_b54 : b6 ≠ b54 := Nat.ne_of_lt (g54 ▸ f51.lt)
  have ne_b22_b54 : b22 ≠ b54 := Nat.ne_of_lt (g54 ▸ f52.lt)
  have ne_b28_b54 : b28 ≠ b54 := Nat.ne_of_lt (g54 ▸ f53.lt)
  have ne_b46_b54 : b46 ≠ b54 := Nat.ne_of_lt (g54 ▸ V_b46.lt)
  have gg_b54 : n0 ≤ b54 := g54 ▸ own_le O47
  have sz_b54 : h0.size ≤ b54 := g54 ▸ kp48.1
  have O55 := O47.ext E54
  have kp56 := kp48.ext E54
  have V_b54 : Arv Z h54 b54 k54 .int (0 : Int32) [] (.int 0) := (Arv.new A54 (by decide)).pad (pad_rep [] (.int 0) 0)
  have f57 := (V_b46.ext E54)
  obtain ⟨c58, c58A, c58q, c58S, c58N, c58H, c58G⟩ := id f57
  have c58in : ¬ ((0 : Int32) < 0 ∨ c58.slots.size ≤ ((0 : Int32)).toNatClampNeg) := inb_of c58S ⟨by decide, by decide⟩
  obtain ⟨T59, h59, X59, e59, W59, st59⟩ := stR X54 hx hZ e54 c58A (j := (0 : Int32)) c58in rfl (Sto.ofVA c58A c58q O46 (Ins.self B54)) (g := (mkF m 43 #[rv a] [(.ref b54), (.int 0), (.ref b46), (.ref b46), (.ref a)])) rfl rfl (hb hby own_d1_43)
  have V59 : Arv Z h59 b46 k46 (.array .int) (1 : Int32) [(.ref b54)] .null := Arv.set c58A c58q c58S c58N c58H c58G rfl W59 0 rfl (Nat.le_of_ble_eq_true rfl)
  have O60 := O55.wr W59 gg_b46
  have kp61 := kp56.wr W59 (Or.inr sz_b46)
  have N59 := Fr.snoc X59 N38 gg_b46
  have f62 := (((((((((((pF_a_linkPages.ext E2).ext E6).other W11 (Or.inl ne_a_b2)).other W16 (Or.inr (slot_ne (Or.inl (hw _ (own_m 27 rfl))) (Or.inl (hw _ (own_m 15 rfl))) (by decide) (t := (.array (.array .int))) (t' := (.array (.array (.object "java/lang/Object")))) (by decide) (by decide)))).ext E22).ext E28).other W33 (Or.inl ne_a_b22)).other W38 (Or.inr (slot_ne (Or.inl (hw _ (own_m 27 rfl))) (Or.inl (hw _ (own_m 21 rfl))) (by decide) (t := (.array (.array .int))) (t' := (.array (.array .long))) (by decide) (by decide)))).ext E46).ext E54).other W59 (Or.inl ne_a_b46))
  have f63 := ((f49.ext E54).wr W59)
  obtain ⟨T64, h64, X64, e64, W64, st64⟩ := putF X59 hx hZ hown (host := "") (Or.inl (hw _ (own_m 26 rfl))) Via.refl e59 f62 f63 (Or.inl (hw _ (own_m 27 rfl))) (hw _ (own_m 1 rfl)) (ty := (.array (.array .int))) (by decide) rfl rfl (g := (mkF m 44 #[rv a] [(.ref b46), (.ref a)])) rfl rfl (hb hby own_d1_44)
  have Fw64 := f62.same W64
  have O65 := O60.wr W64 g_a
  have kp66 := kp61.wr W64 (Or.inl (own_m 0 rfl))
  have N64 := Fr.snoc X64 N59 g_a
  have f67 := (f63.wr W64)
  have f68 := (((f50.ext E54).other W59 ne_b2_b46).other W64 (Ne.symm ne_a_b2))
  have f69 := (((f51.ext E54).other W59 ne_b6_b46).other W64 (Ne.symm ne_a_b6))
  have f70 := (((f52.ext E54).other W59 ne_b22_b46).other W64 (Ne.symm ne_a_b22))
  have f71 := (((f53.ext E54).other W59 ne_b28_b46).other W64 (Ne.symm ne_a_b28))
  have f72 := (V59.other W64 (Ne.symm ne_a_b46))
  have f73 := ((V_b54.other W59 (Ne.symm ne_b46_b54)).other W64 (Ne.symm ne_a_b54))
  obtain ⟨T74, h74, k74, X74, e74, E74, A74, B74, st74⟩ := newPE X64 hx hZ (hw _ (own_m 24 rfl)) e64 (g := (mkF m 49 #[rv a] [(.int 1), (.ref a)])) rfl (hb hby own_d1_49) rfl (by decide) (cap := 1) (by decide) (by decide) (by decide) (by decide) (ad := "[I") (by first | decide +kernel | rfl)
  obtain ⟨b74, g74⟩ : ∃ z, z = h64.size := ⟨_, rfl⟩
  rw [← g74] at A74 B74 st74
  have ne_a_b74 : a ≠ b74 := Nat.ne_of_lt (g74 ▸ f67.lt)
  have ne_b2_b74 : b2 ≠ b74 := Nat.ne_of_lt (g74 ▸ f68.lt)
  have ne_b6_b74 : b6 ≠ b74 := Nat.ne_of_lt (g74 ▸ f69.lt)
  have ne_b22_b74 : b22 ≠ b74 := Nat.ne_of_lt (g74 ▸ f70.lt)
  have ne_b28_b74 : b28 ≠ b74 := Nat.ne_of_lt (g74 ▸ f71.lt)
  have ne_b46_b74 : b46 ≠ b74 := Nat.ne_of_lt (g74 ▸ f72.lt)
  have ne_b54_b74 : b54 ≠ b74 := Nat.ne_of_lt (g74 ▸ f73.lt)
  have gg_b74 : n0 ≤ b74 := g74 ▸ own_le O65
  have sz_b74 : h0.size ≤ b74 := g74 ▸ kp66.1
  have O75 := O65.ext E74
  have kp76 := kp66.ext E74
  have V_b74 : Arv Z h74 b74 k74 .int (1 : Int32) [(.int 0)] (.int 0) := (Arv.new A74 (by decide)).pad (pad_rep [] (.int 0) 1)
  have f77 := (((((((((((((pF_a_pageSizes.ext E2).ext E6).other W11 (Or.inl ne_a_b2)).other W16 (Or.inr (slot_ne (Or.inl (hw _ (own_m 29 rfl))) (Or.inl (hw _ (own_m 15 rfl))) (by decide) (t := (.array .int)) (t' := (.array (.array (.object "java/lang/Object")))) (by decide) (by decide)))).ext E22).ext E28).other W33 (Or.inl ne_a_b22)).other W38 (Or.inr (slot_ne (Or.inl (hw _ (own_m 29 rfl))) (Or.inl (hw _ (own_m 21 rfl))) (by decide) (t := (.array .int)) (t' := (.array (.array .long))) (by decide) (by decide)))).ext E46).ext E54).other W59 (Or.inl ne_a_b46)).other W64 (Or.inr (slot_ne (Or.inl (hw _ (own_m 29 rfl))) (Or.inl (hw _ (own_m 27 rfl))) (by decide) (t := (.array .int)) (t' := (.array (.array .int))) (by decide) (by decide)))).ext E74)
  have f78 := (f67.ext E74)
  obtain ⟨T79, h79, X79, e79, W79, st79⟩ := putF X74 hx hZ hown (host := "") (Or.inl (hw _ (own_m 28 rfl))) Via.refl e74 f77 f78 (Or.inl (hw _ (own_m 29 rfl))) (hw _ (own_m 1 rfl)) (ty := (.array .int)) (by decide) rfl rfl (g := (mkF m 51 #[rv a] [(.ref b74), (.ref a)])) rfl rfl (hb hby own_d1_51)
  have Fw79 := f77.same W79
  have O80 := O75.wr W79 g_a
  have kp81 := kp76.wr W79 (Or.inl (own_m 0 rfl))
  have N79 := Fr.snoc X79 N64 g_a
  have f82 := (f78.wr W79)
  have f83 := ((f68.ext E74).other W79 (Ne.symm ne_a_b2))
  have f84 := ((f69.ext E74).other W79 (Ne.symm ne_a_b6))
  have f85 := ((f70.ext E74).other W79 (Ne.symm ne_a_b22))
  have f86 := ((f71.ext E74).other W79 (Ne.symm ne_a_b28))
  have f87 := ((f72.ext E74).other W79 (Ne.symm ne_a_b46))
  have f88 := ((f73.ext E74).other W79 (Ne.symm ne_a_b54))
  have f89 := (V_b74.other W79 (Ne.symm ne_a_b74))
  obtain ⟨T90, h90, k90, X90, e90, E90, A90, B90, st90⟩ := newPE X79 hx hZ (hw _ (own_m 24 rfl)) e79 (g := (mkF m 56 #[rv a] [(.int 1), (.ref a)])) rfl (hb hby own_d1_56) rfl (by decide) (cap := 1) (by decide) (by decide) (by decide) (by decide) (ad := "[I") (by first | decide +kernel | rfl)
  obtain ⟨b90, g90⟩ : ∃ z, z = h79.size := ⟨_, rfl⟩
  rw [← g90] at A90 B90 st90
  have ne_a_b90 : a ≠ b90 := Nat.ne_of_lt (g90 ▸ f82.lt)
  have ne_b2_b90 : b2 ≠ b90 := Nat.ne_of_lt (g90 ▸ f83.lt)
  have ne_b6_b90 : b6 ≠ b90 := Nat.ne_of_lt (g90 ▸ f84.lt)
  have ne_b22_b90 : b22 ≠ b90 := Nat.ne_of_lt (g90 ▸ f85.lt)
  have ne_b28_b90 : b28 ≠ b90 := Nat.ne_of_lt (g90 ▸ f86.lt)
  have ne_b46_b90 : b46 ≠ b90 := Nat.ne_of_lt (g90 ▸ f87.lt)
  have ne_b54_b90 : b54 ≠ b90 := Nat.ne_of_lt (g90 ▸ f88.lt)
  have ne_b74_b90 : b74 ≠ b90 := Nat.ne_of_lt (g90 ▸ f89.lt)
  have gg_b90 : n0 ≤ b90 := g90 ▸ own_le O80
  have sz_b90 : h0.size ≤ b90 := g90 ▸ kp81.1
  have O91 := O80.ext E90
  have kp92 := kp81.ext E90
  have V_b90 : Arv Z h90 b90 k90 .int (1 : Int32) [(.int 0)] (.int 0) := (Arv.new A90 (by decide)).pad (pad_rep [] (.int 0) 1)
  obtain ⟨c93, c93A, c93q, c93S, c93N, c93H, c93G⟩ := id V_b90
  have c93in : ¬ ((0 : Int32) < 0 ∨ c93.slots.size ≤ ((0 : Int32)).toNatClampNeg) := inb_of c93S ⟨by decide, by decide⟩
  obtain ⟨T94, h94, X94, e94, W94, st94⟩ := stI X90 hx hZ e90 c93A (j := (0 : Int32)) c93in (g := (mkF m 61 #[rv a] [(.int (-1)), (.int 0), (.ref b90), (.ref b90), (.ref a)])) rfl rfl (hb hby own_d1_61)
  have V94 : Arv Z h94 b90 k90 .int (1 : Int32) [(.int (-1))] (.int 0) := Arv.set c93A c93q c93S c93N c93H c93G rfl W94 0 rfl (Nat.le_of_ble_eq_true rfl)
  have O95 := O91.wr W94 gg_b90
  have kp96 := kp92.wr W94 (Or.inr sz_b90)
  have N94 := Fr.snoc X94 N79 gg_b90
  have f97 := ((((((((((((((((pF_a_pageFirstFree.ext E2).ext E6).other W11 (Or.inl ne_a_b2)).other W16 (Or.inr (slot_ne (Or.inl (hw _ (own_m 31 rfl))) (Or.inl (hw _ (own_m 15 rfl))) (by decide) (t := (.array .int)) (t' := (.array (.array (.object "java/lang/Object")))) (by decide) (by decide)))).ext E22).ext E28).other W33 (Or.inl ne_a_b22)).other W38 (Or.inr (slot_ne (Or.inl (hw _ (own_m 31 rfl))) (Or.inl (hw _ (own_m 21 rfl))) (by decide) (t := (.array .int)) (t' := (.array (.array .long))) (by decide) (by decide)))).ext E46).ext E54).other W59 (Or.inl ne_a_b46)).other W64 (Or.inr (slot_ne (Or.inl (hw _ (own_m 31 rfl))) (Or.inl (hw _ (own_m 27 rfl))) (by decide) (t := (.array .int)) (t' := (.array (.array .int))) (by decide) (by decide)))).ext E74).other W79 (Or.inr (slot_ne (Or.inl (hw _ (own_m 31 rfl))) (Or.inl (hw _ (own_m 29 rfl))) (by decide) (t := (.array .int)) (t' := (.array .int)) (by decide) (by decide)))).ext E90).other W94 (Or.inl ne_a_b90))
  have f98 := ((f82.ext E90).wr W94)
  obtain ⟨T99, h99, X99, e99, W99, st99⟩ := putF X94 hx hZ hown (host := "") (Or.inl (hw _ (own_m 30 rfl))) Via.refl e94 f97 f98 (Or.inl (hw _ (own_m 31 rfl))) (hw _ (own_m 1 rfl)) (ty := (.array .int)) (by decide) rfl rfl (g := (mkF m 62 #[rv a] [(.ref b90), (.ref a)])) rfl rfl (hb hby own_d1_62)
  have Fw99 := f97.same W99
  have O100 := O95.wr W99 g_a
  have kp101 := kp96.wr W99 (Or.inl (own_m 0 rfl))
  have N99 := Fr.snoc X99 N94 g_a
  have f102 := (f98.wr W99)
  have f103 := (((f83.ext E90).other W94 ne_b2_b90).other W99 (Ne.symm ne_a_b2))
  have f104 := (((f84.ext E90).other W94 ne_b6_b90).other W99 (Ne.symm ne_a_b6))
  have f105 := (((f85.ext E90).other W94 ne_b22_b90).other W99 (Ne.symm ne_a_b22))
  have f106 := (((f86.ext E90).other W94 ne_b28_b90).other W99 (Ne.symm ne_a_b28))
  have f107 := (((f87.ext E90).other W94 ne_b46_b90).other W99 (Ne.symm ne_a_b46))
  have f108 := (((f88.ext E90).other W94 ne_b54_b90).other W99 (Ne.symm ne_a_b54))
  have f109 := (((f89.ext E90).other W94 ne_b74_b90).other W99 (Ne.symm ne_a_b74))
  have f110 := (V94.other W99 (Ne.symm ne_a_b90))
  obtain ⟨T111, h111, k111, X111, e111, E111, A111, B111, st111⟩ := newPE X99 hx hZ (hw _ (own_m 24 rfl)) e99 (g := (mkF m 67 #[rv a] [(.int 1), (.ref a)])) rfl (hb hby own_d1_67) rfl (by decide) (cap := 1) (by decide) (by decide) (by decide) (by decide) (ad := "[I") (by first | decide +kernel | rfl)
  obtain ⟨b111, g111⟩ : ∃ z, z = h99.size := ⟨_, rfl⟩
  rw [← g111] at A111 B111 st111
  have ne_a_b111 : a ≠ b111 := Nat.ne_of_lt (g111 ▸ f102.lt)
  have ne_b2_b111 : b2 ≠ b111 := Nat.ne_of_lt (g111 ▸ f103.lt)
  have ne_b6_b111 : b6 ≠ b111 := Nat.ne_of_lt (g111 ▸ f104.lt)
  have ne_b22_b111 : b22 ≠ b111 := Nat.ne_of_lt (g111 ▸ f105.lt)
  have ne_b28_b111 : b28 ≠ b111 := Nat.ne_of_lt (g111 ▸ f106.lt)
  have ne_b46_b111 : b46 ≠ b111 := Nat.ne_of_lt (g111 ▸ f107.lt)
  have ne_b54_b111 : b54 ≠ b111 := Nat.ne_of_lt (g111 ▸ f108.lt)
  have ne_b74_b111 : b74 ≠ b111 := Nat.ne_of_lt (g111 ▸ f109.lt)
  have ne_b90_b111 : b90 ≠ b111 := Nat.ne_of_lt (g111 ▸ f110.lt)
  have gg_b111 : n0 ≤ b111 := g111 ▸ own_le O100
  have sz_b111 : h0.size ≤ b111 := g111 ▸ kp101.1
  have O112 := O100.ext E111
  have kp113 := kp101.ext E111
  have V_b111 : Arv Z h111 b111 k111 .int (1 : Int32) [(.int 0)] (.int 0) := (Arv.new A111 (by decide)).pad (pad_rep [] (.int 0) 1)
  have f114 := ((((((((((((((((((pF_a_pageGenerations.ext E2).ext E6).other W11 (Or.inl ne_a_b2)).other W16 (Or.inr (slot_ne (Or.inl (hw _ (own_m 33 rfl))) (Or.inl (hw _ (own_m 15 rfl))) (by decide) (t := (.array .int)) (t' := (.array (.array (.object "java/lang/Object")))) (by decide) (by decide)))).ext E22).ext E28).other W33 (Or.inl ne_a_b22)).other W38 (Or.inr (slot_ne (Or.inl (hw _ (own_m 33 rfl))) (Or.inl (hw _ (own_m 21 rfl))) (by decide) (t := (.array .int)) (t' := (.array (.array .long))) (by decide) (by decide)))).ext E46).ext E54).other W59 (Or.inl ne_a_b46)).other W64 (Or.inr (slot_ne (Or.inl (hw _ (own_m 33 rfl))) (Or.inl (hw _ (own_m 27 rfl))) (by decide) (t := (.array .int)) (t' := (.array (.array .int))) (by decide) (by decide)))).ext E74).other W79 (Or.inr (slot_ne (Or.inl (hw _ (own_m 33 rfl))) (Or.inl (hw _ (own_m 29 rfl))) (by decide) (t := (.array .int)) (t' := (.array .int)) (by decide) (by decide)))).ext E90).other W94 (Or.inl ne_a_b90)).other W99 (Or.inr (slot_ne (Or.inl (hw _ (own_m 33 rfl))) (Or.inl (hw _ (own_m 31 rfl))) (by decide) (t := (.array .int)) (t' := (.array .int)) (by decide) (by decide)))).ext E111)
  have f115 := (f102.ext E111)
  obtain ⟨T116, h116, X116, e116, W116, st116⟩ := putF X111 hx hZ hown (host := "") (Or.inl (hw _ (own_m 32 rfl))) Via.refl e111 f114 f115 (Or.inl (hw _ (own_m 33 rfl))) (hw _ (own_m 1 rfl)) (ty := (.array .int)) (by decide) rfl rfl (g := (mkF m 69 #[rv a] [(.ref b111), (.ref a)])) rfl rfl (hb hby own_d1_69)
  have Fw116 := f114.same W116
  have O117 := O112.wr W116 g_a
  have kp118 := kp113.wr W116 (Or.inl (own_m 0 rfl))
  have N116 := Fr.snoc X116 N99 g_a
  have f119 := (f115.wr W116)
  have f120 := ((f103.ext E111).other W116 (Ne.symm ne_a_b2))
  have f121 := ((f104.ext E111).other W116 (Ne.symm ne_a_b6))
  have f122 := ((f105.ext E111).other W116 (Ne.symm ne_a_b22))
  have f123 := ((f106.ext E111).other W116 (Ne.symm ne_a_b28))
  have f124 := ((f107.ext E111).other W116 (Ne.symm ne_a_b46))
  have f125 := ((f108.ext E111).other W116 (Ne.symm ne_a_b54))
  have f126 := ((f109.ext E111).other W116 (Ne.symm ne_a_b74))
  have f127 := ((f110.ext E111).other W116 (Ne.symm ne_a_b90))
  have f128 := (V_b111.other W116 (Ne.symm ne_a_b111))
  obtain ⟨T129, h129, X129, e129, E129, A129, D129, -, st129⟩ := newO X116 hx hZ hown (hw _ (own_m 34 rfl)) (hw _ (own_m 35 rfl)) (hw _ (own_m 36 rfl)) e116 (g := (mkF m 73 #[rv a] [(.ref a)])) rfl (hb hby own_d1_73) (by decide) (by decide)
  obtain ⟨b129, g129⟩ : ∃ z, z = h116.size := ⟨_, rfl⟩
  rw [← g129] at A129 D129 st129
  have ne_a_b129 : a ≠ b129 := Nat.ne_of_lt (g129 ▸ f119.lt)
  have ne_b2_b129 : b2 ≠ b129 := Nat.ne_of_lt (g129 ▸ f120.lt)
  have ne_b6_b129 : b6 ≠ b129 := Nat.ne_of_lt (g129 ▸ f121.lt)
  have ne_b22_b129 : b22 ≠ b129 := Nat.ne_of_lt (g129 ▸ f122.lt)
  have ne_b28_b129 : b28 ≠ b129 := Nat.ne_of_lt (g129 ▸ f123.lt)
  have ne_b46_b129 : b46 ≠ b129 := Nat.ne_of_lt (g129 ▸ f124.lt)
  have ne_b54_b129 : b54 ≠ b129 := Nat.ne_of_lt (g129 ▸ f125.lt)
  have ne_b74_b129 : b74 ≠ b129 := Nat.ne_of_lt (g129 ▸ f126.lt)
  have ne_b90_b129 : b90 ≠ b129 := Nat.ne_of_lt (g129 ▸ f127.lt)
  have ne_b111_b129 : b111 ≠ b129 := Nat.ne_of_lt (g129 ▸ f128.lt)
  have gg_b129 : n0 ≤ b129 := g129 ▸ own_le O117
  have sz_b129 : h0.size ≤ b129 := g129 ▸ kp118.1
  have O130 := O117.ext E129
  have kp131 := kp118.ext E129
  have F_pageBits_b129 : Fld Z h129 b129 "com/example/libspoke/libspoke/wheel/EntryTable$PageSet" "pageBits" "[J" .null := D129 (Or.inl (hw _ (own_m 42 rfl))) (ty := (.array .long)) (by decide)
  have F_wordBits_b129 : Fld Z h129 b129 "com/example/libspoke/libspoke/wheel/EntryTable$PageSet" "wordBits" "[J" .null := D129 (Or.inl (hw _ (own_m 44 rfl))) (ty := (.array .long)) (by decide)
  obtain ⟨_, _, ⟨T132, L132, k132, n132⟩, -, X132, ⟨Lc132, hQ132, l132, y132, z132⟩, st132⟩ := own_specialRef X129 hx (y := (⟨"com/example/libspoke/libspoke/wheel/EntryTable$PageSet", "<init>", "()V"⟩ : MethodName)) rfl hown (own_mvR hZ (hw _ (own_m 38 rfl)) (by decide) (hw _ (own_m 37 rfl))) (mvT hZ (hw _ (own_m 38 rfl))) (mvT hZ (hw _ (own_m 39 rfl))) (by decide) (backOf (W := 2) (own_pi l Z a0 hw [] w_CA mr y1 y2 y3 b129 h129 n0 O130 S_HI S_CA M_OA H_y1 H_y2 H_y3 E_y1 E_y2 E_y3 (allS gg_b129 all0) (own_ndc all0 own_nd0) A129 F_pageBits_b129 F_wordBits_b129) hZ (hw _ (own_m 39 rfl)) (hw _ (own_m 36 rfl)) (by decide) (by decide)) (g := (mkF m 77 #[rv a] [(.ref b129), (.ref b129), (.ref a)])) rfl (by rw [hml]; rfl) (Steps.refl _) (a := b129) (argsL := []) (rest := [(.ref b129), (.ref a)]) (lenOf own_pd1 rfl) rfl (by show 2 * 0 + _ ≤ _; exact Nat.le_of_eq rfl) (hb hby own_d1_77) (fun _ _ => ⟨rfl, e129, (by decide : 10 + 2 ≤ _), (by decide : 8 + 2 ≤ _)⟩)
  dsimp only [Pt.U, Pt.locs, Pt.cells, Pt.slots] at X132 l132 y132 z132 st132 hQ132
  subst l132 y132 z132
  obtain ⟨pb, wb, k_pb, k_wb, rfl, N132q, K132, nd132, sz132, q133, q134, q135, q136, q137⟩ := hQ132
  have N132 := Fr.app N116 N132q
  have f138 := (f119.ext E129)
  have f139 := (f120.ext E129)
  have f140 := (f121.ext E129)
  have f141 := (f122.ext E129)
  have f142 := (f123.ext E129)
  have f143 := (f124.ext E129)
  have f144 := (f125.ext E129)
  have f145 := (f126.ext E129)
  have f146 := (f127.ext E129)
  have f147 := (f128.ext E129)
  have ne_a_pb : a ≠ pb := Nat.ne_of_lt (Nat.lt_of_lt_of_le f138.lt (sz132 _ (own_m 0 rfl)))
  have ne_b2_pb : b2 ≠ pb := Nat.ne_of_lt (Nat.lt_of_lt_of_le f139.lt (sz132 _ (own_m 0 rfl)))
  have ne_b6_pb : b6 ≠ pb := Nat.ne_of_lt (Nat.lt_of_lt_of_le f140.lt (sz132 _ (own_m 0 rfl)))
  have ne_b22_pb : b22 ≠ pb := Nat.ne_of_lt (Nat.lt_of_lt_of_le f141.lt (sz132 _ (own_m 0 rfl)))
  have ne_b28_pb : b28 ≠ pb := Nat.ne_of_lt (Nat.lt_of_lt_of_le f142.lt (sz132 _ (own_m 0 rfl)))
  have ne_b46_pb : b46 ≠ pb := Nat.ne_of_lt (Nat.lt_of_lt_of_le f143.lt (sz132 _ (own_m 0 rfl)))
  have ne_b54_pb : b54 ≠ pb := Nat.ne_of_lt (Nat.lt_of_lt_of_le f144.lt (sz132 _ (own_m 0 rfl)))
  have ne_b74_pb : b74 ≠ pb := Nat.ne_of_lt (Nat.lt_of_lt_of_le f145.lt (sz132 _ (own_m 0 rfl)))
  have ne_b90_pb : b90 ≠ pb := Nat.ne_of_lt (Nat.lt_of_lt_of_le f146.lt (sz132 _ (own_m 0 rfl)))
  have ne_b111_pb : b111 ≠ pb := Nat.ne_of_lt (Nat.lt_of_lt_of_le f147.lt (sz132 _ (own_m 0 rfl)))
  have ne_b129_pb : b129 ≠ pb := Nat.ne_of_lt (Nat.lt_of_lt_of_le A129.lt (sz132 _ (own_m 0 rfl)))
  have gg_pb : n0 ≤ pb := Nat.le_trans (own_le O130) (sz132 _ (own_m 0 rfl))
  have sz_pb : h0.size ≤ pb := Nat.le_trans kp131.1 (sz132 _ (own_m 0 rfl))
  have ne_a_wb : a ≠ wb := Nat.ne_of_lt (Nat.lt_of_lt_of_le f138.lt (sz132 _ (own_m 1 rfl)))
  have ne_b2_wb : b2 ≠ wb := Nat.ne_of_lt (Nat.lt_of_lt_of_le f139.lt (sz132 _ (own_m 1 rfl)))
  have ne_b6_wb : b6 ≠ wb := Nat.ne_of_lt (Nat.lt_of_lt_of_le f140.lt (sz132 _ (own_m 1 rfl)))
  have ne_b22_wb : b22 ≠ wb := Nat.ne_of_lt (Nat.lt_of_lt_of_le f141.lt (sz132 _ (own_m 1 rfl)))
  have ne_b28_wb : b28 ≠ wb := Nat.ne_of_lt (Nat.lt_of_lt_of_le f142.lt (sz132 _ (own_m 1 rfl)))
  have ne_b46_wb : b46 ≠ wb := Nat.ne_of_lt (Nat.lt_of_lt_of_le f143.lt (sz132 _ (own_m 1 rfl)))
  have ne_b54_wb : b54 ≠ wb := Nat.ne_of_lt (Nat.lt_of_lt_of_le f144.lt (sz132 _ (own_m 1 rfl)))
  have ne_b74_wb : b74 ≠ wb := Nat.ne_of_lt (Nat.lt_of_lt_of_le f145.lt (sz132 _ (own_m 1 rfl)))
  have ne_b90_wb : b90 ≠ wb := Nat.ne_of_lt (Nat.lt_of_lt_of_le f146.lt (sz132 _ (own_m 1 rfl)))
  have ne_b111_wb : b111 ≠ wb := Nat.ne_of_lt (Nat.lt_of_lt_of_le f147.lt (sz132 _ (own_m 1 rfl)))
  have ne_b129_wb : b129 ≠ wb := Nat.ne_of_lt (Nat.lt_of_lt_of_le A129.lt (sz132 _ (own_m 1 rfl)))
  have gg_wb : n0 ≤ wb := Nat.le_trans (own_le O130) (sz132 _ (own_m 1 rfl))
  have sz_wb : h0.size ≤ wb := Nat.le_trans kp131.1 (sz132 _ (own_m 1 rfl))
  have O148 := O130.keep K132 (allS gg_b129 all0)
  have kp149 := kp131.trans K132 ((allS (P := fun x => x ∈ ([a] : List Addr) ∨ h0.size ≤ x) (Or.inr sz_b129) all0))
  have f150 := (((((((((((((((((((((pF_a_pagesWithRoom.ext E2).ext E6).other W11 (Or.inl ne_a_b2)).other W16 (Or.inr (slot_ne (Or.inr (hw _ (own_m 46 rfl))) (Or.inl (hw _ (own_m 15 rfl))) (by decide) (t := (.object "com/example/libspoke/libspoke/wheel/EntryTable$PageSet")) (t' := (.array (.array (.object "java/lang/Object")))) (by decide) (by decide)))).ext E22).ext E28).other W33 (Or.inl ne_a_b22)).other W38 (Or.inr (slot_ne (Or.inr (hw _ (own_m 46 rfl))) (Or.inl (hw _ (own_m 21 rfl))) (by decide) (t := (.object "com/example/libspoke/libspoke/wheel/EntryTable$PageSet")) (t' := (.array (.array .long))) (by decide) (by decide)))).ext E46).ext E54).other W59 (Or.inl ne_a_b46)).other W64 (Or.inr (slot_ne (Or.inr (hw _ (own_m 46 rfl))) (Or.inl (hw _ (own_m 27 rfl))) (by decide) (t := (.object "com/example/libspoke/libspoke/wheel/EntryTable$PageSet")) (t' := (.array (.array .int))) (by decide) (by decide)))).ext E74).other W79 (Or.inr (slot_ne (Or.inr (hw _ (own_m 46 rfl))) (Or.inl (hw _ (own_m 29 rfl))) (by decide) (t := (.object "com/example/libspoke/libspoke/wheel/EntryTable$PageSet")) (t' := (.array .int)) (by decide) (by decide)))).ext E90).other W94 (Or.inl ne_a_b90)).other W99 (Or.inr (slot_ne (Or.inr (hw _ (own_m 46 rfl))) (Or.inl (hw _ (own_m 31 rfl))) (by decide) (t := (.object "com/example/libspoke/libspoke/wheel/EntryTable$PageSet")) (t' := (.array .int)) (by decide) (by decide)))).ext E111).other W116 (Or.inr (slot_ne (Or.inr (hw _ (own_m 46 rfl))) (Or.inl (hw _ (own_m 33 rfl))) (by decide) (t := (.object "com/example/libspoke/libspoke/wheel/EntryTable$PageSet")) (t' := (.array .int)) (by decide) (by decide)))).ext E129).keep K132 (ninS ne_a_b129 nin0))
  have f151 := (f138.keep K132)
  obtain ⟨T152, h152, X152, e152, W152, st152⟩ := putF X132 hx hZ hown (host := "") (Or.inl (hw _ (own_m 45 rfl))) Via.refl rfl f150 f151 (Or.inr ⟨(hw _ (own_m 46 rfl)), rfl, hnm⟩) (hw _ (own_m 1 rfl)) (ty := (.object "com/example/libspoke/libspoke/wheel/EntryTable$PageSet")) (by decide) rfl rfl (g := (mkF m 80 #[rv a] [(.ref b129), (.ref a)])) rfl rfl (hb hby own_d1_80)
  have Fw152 := f150.same W152
  have O153 := O148.wr W152 g_a
  have kp154 := kp149.wr W152 (Or.inl (own_m 0 rfl))
  have N152 := Fr.snoc X152 N132 g_a
  have f155 := ((((((((((((((((((((((pF_a_sparePage.ext E2).ext E6).other W11 (Or.inl ne_a_b2)).other W16 (Or.inr (slot_ne (Or.inl (hw _ (own_m 48 rfl))) (Or.inl (hw _ (own_m 15 rfl))) (by decide) (t := .int) (t' := (.array (.array (.object "java/lang/Object")))) (by decide) (by decide)))).ext E22).ext E28).other W33 (Or.inl ne_a_b22)).other W38 (Or.inr (slot_ne (Or.inl (hw _ (own_m 48 rfl))) (Or.inl (hw _ (own_m 21 rfl))) (by decide) (t := .int) (t' := (.array (.array .long))) (by decide) (by decide)))).ext E46).ext E54).other W59 (Or.inl ne_a_b46)).other W64 (Or.inr (slot_ne (Or.inl (hw _ (own_m 48 rfl))) (Or.inl (hw _ (own_m 27 rfl))) (by decide) (t := .int) (t' := (.array (.array .int))) (by decide) (by decide)))).ext E74).other W79 (Or.inr (slot_ne (Or.inl (hw _ (own_m 48 rfl))) (Or.inl (hw _ (own_m 29 rfl))) (by decide) (t := .int) (t' := (.array .int)) (by decide) (by decide)))).ext E90).other W94 (Or.inl ne_a_b90)).other W99 (Or.inr (slot_ne (Or.inl (hw _ (own_m 48 rfl))) (Or.inl (hw _ (own_m 31 rfl))) (by decide) (t := .int) (t' := (.array .int)) (by decide) (by decide)))).ext E111).other W116 (Or.inr (slot_ne (Or.inl (hw _ (own_m 48 rfl))) (Or.inl (hw _ (own_m 33 rfl))) (by decide) (t := .int) (t' := (.array .int)) (by decide) (by decide)))).ext E129).keep K132 (ninS ne_a_b129 nin0)).other W152 (Or.inr (slot_ne (Or.inl (hw _ (own_m 48 rfl))) (Or.inr (hw _ (own_m 46 rfl))) (by decide) (t := .int) (t' := (.object "com/example/libspoke/libspoke/wheel/EntryTable$PageSet")) (by decide) (by decide))))
  have f156 := (f151.wr W152)
  obtain ⟨T157, h157, X157, e157, W157, st157⟩ := putF X152 hx hZ hown (host := "") (Or.inl (hw _ (own_m 47 rfl))) Via.refl e152 f155 f156 (Or.inl (hw _ (own_m 48 rfl))) (hw _ (own_m 1 rfl)) (ty := .int) (by decide) rfl rfl (g := (mkF m 85 #[rv a] [(.int (-1)), (.ref a)])) rfl rfl (hb hby own_d1_85)
  have Fw157 := f155.same W157
  have O158 := O153.wr W157 g_a
  have kp159 := kp154.wr W157 (Or.inl (own_m 0 rfl))
  have N157 := Fr.snoc X157 N152 g_a
  have n160 : pb ≠ wb := (own_ne nd132 (i := 1) (j := 2) rfl rfl (by decide))
  have f161 := (f156.wr W157)
  have f162 := (((((((((((((((((((Fw16.ext E22).ext E28).other W33 (Or.inl ne_a_b22)).other W38 (Or.inr (slot_ne (Or.inl (hw _ (own_m 15 rfl))) (Or.inl (hw _ (own_m 21 rfl))) (by decide) (t := (.array (.array (.object "java/lang/Object")))) (t' := (.array (.array .long))) (by decide) (by decide)))).ext E46).ext E54).other W59 (Or.inl ne_a_b46)).other W64 (Or.inr (slot_ne (Or.inl (hw _ (own_m 15 rfl))) (Or.inl (hw _ (own_m 27 rfl))) (by decide) (t := (.array (.array (.object "java/lang/Object")))) (t' := (.array (.array .int))) (by decide) (by decide)))).ext E74).other W79 (Or.inr (slot_ne (Or.inl (hw _ (own_m 15 rfl))) (Or.inl (hw _ (own_m 29 rfl))) (by decide) (t := (.array (.array (.object "java/lang/Object")))) (t' := (.array .int)) (by decide) (by decide)))).ext E90).other W94 (Or.inl ne_a_b90)).other W99 (Or.inr (slot_ne (Or.inl (hw _ (own_m 15 rfl))) (Or.inl (hw _ (own_m 31 rfl))) (by decide) (t := (.array (.array (.object "java/lang/Object")))) (t' := (.array .int)) (by decide) (by decide)))).ext E111).other W116 (Or.inr (slot_ne (Or.inl (hw _ (own_m 15 rfl))) (Or.inl (hw _ (own_m 33 rfl))) (by decide) (t := (.array (.array (.object "java/lang/Object")))) (t' := (.array .int)) (by decide) (by decide)))).ext E129).keep K132 (ninS ne_a_b129 nin0)).other W152 (Or.inr (slot_ne (Or.inl (hw _ (own_m 15 rfl))) (Or.inr (hw _ (own_m 46 rfl))) (by decide) (t := (.array (.array (.object "java/lang/Object")))) (t' := (.object "com/example/libspoke/libspoke/wheel/EntryTable$PageSet")) (by decide) (by decide)))).other W157 (Or.inr (slot_ne (Or.inl (hw _ (own_m 15 rfl))) (Or.inl (hw _ (own_m 48 rfl))) (by decide) (t := (.array (.array (.object "java/lang/Object")))) (t' := .int) (by decide) (by decide))))
  have f163 := (((((((((((((((Fw38.ext E46).ext E54).other W59 (Or.inl ne_a_b46)).other W64 (Or.inr (slot_ne (Or.inl (hw _ (own_m 21 rfl))) (Or.inl (hw _ (own_m 27 rfl))) (by decide) (t := (.array (.array .long))) (t' := (.array (.array .int))) (by decide) (by decide)))).ext E74).other W79 (Or.inr (slot_ne (Or.inl (hw _ (own_m 21 rfl))) (Or.inl (hw _ (own_m 29 rfl))) (by decide) (t := (.array (.array .long))) (t' := (.array .int)) (by decide) (by decide)))).ext E90).other W94 (Or.inl ne_a_b90)).other W99 (Or.inr (slot_ne (Or.inl (hw _ (own_m 21 rfl))) (Or.inl (hw _ (own_m 31 rfl))) (by decide) (t := (.array (.array .long))) (t' := (.array .int)) (by decide) (by decide)))).ext E111).other W116 (Or.inr (slot_ne (Or.inl (hw _ (own_m 21 rfl))) (Or.inl (hw _ (own_m 33 rfl))) (by decide) (t := (.array (.array .long))) (t' := (.array .int)) (by decide) (by decide)))).ext E129).keep K132 (ninS ne_a_b129 nin0)).other W152 (Or.inr (slot_ne (Or.inl (hw _ (own_m 21 rfl))) (Or.inr (hw _ (own_m 46 rfl))) (by decide) (t := (.array (.array .long))) (t' := (.object "com/example/libspoke/libspoke/wheel/EntryTable$PageSet")) (by decide) (by decide)))).other W157 (Or.inr (slot_ne (Or.inl (hw _ (own_m 21 rfl))) (Or.inl (hw _ (own_m 48 rfl))) (by decide) (t := (.array (.array .long))) (t' := .int) (by decide) (by decide))))
  have f164 := (((((((((((Fw64.ext E74).other W79 (Or.inr (slot_ne (Or.inl (hw _ (own_m 27 rfl))) (Or.inl (hw _ (own_m 29 rfl))) (by decide) (t := (.array (.array .int))) (t' := (.array .int)) (by decide) (by decide)))).ext E90).other W94 (Or.inl ne_a_b90)).other W99 (Or.inr (slot_ne (Or.inl (hw _ (own_m 27 rfl))) (Or.inl (hw _ (own_m 31 rfl))) (by decide) (t := (.array (.array .int))) (t' := (.array .int)) (by decide) (by decide)))).ext E111).other W116 (Or.inr (slot_ne (Or.inl (hw _ (own_m 27 rfl))) (Or.inl (hw _ (own_m 33 rfl))) (by decide) (t := (.array (.array .int))) (t' := (.array .int)) (by decide) (by decide)))).ext E129).keep K132 (ninS ne_a_b129 nin0)).other W152 (Or.inr (slot_ne (Or.inl (hw _ (own_m 27 rfl))) (Or.inr (hw _ (own_m 46 rfl))) (by decide) (t := (.array (.array .int))) (t' := (.object "com/example/libspoke/libspoke/wheel/EntryTable$PageSet")) (by decide) (by decide)))).other W157 (Or.inr (slot_ne (Or.inl (hw _ (own_m 27 rfl))) (Or.inl (hw _ (own_m 48 rfl))) (by decide) (t := (.array (.array .int))) (t' := .int) (by decide) (by decide))))
  have f165 := (((((((((Fw79.ext E90).other W94 (Or.inl ne_a_b90)).other W99 (Or.inr (slot_ne (Or.inl (hw _ (own_m 29 rfl))) (Or.inl (hw _ (own_m 31 rfl))) (by decide) (t := (.array .int)) (t' := (.array .int)) (by decide) (by decide)))).ext E111).other W116 (Or.inr (slot_ne (Or.inl (hw _ (own_m 29 rfl))) (Or.inl (hw _ (own_m 33 rfl))) (by decide) (t := (.array .int)) (t' := (.array .int)) (by decide) (by decide)))).ext E129).keep K132 (ninS ne_a_b129 nin0)).other W152 (Or.inr (slot_ne (Or.inl (hw _ (own_m 29 rfl))) (Or.inr (hw _ (own_m 46 rfl))) (by decide) (t := (.array .int)) (t' := (.object "com/example/libspoke/libspoke/wheel/EntryTable$PageSet")) (by decide) (by decide)))).other W157 (Or.inr (slot_ne (Or.inl (hw _ (own_m 29 rfl))) (Or.inl (hw _ (own_m 48 rfl))) (by decide) (t := (.array .int)) (t' := .int) (by decide) (by decide))))
  have f166 := ((((((Fw99.ext E111).other W116 (Or.inr (slot_ne (Or.inl (hw _ (own_m 31 rfl))) (Or.inl (hw _ (own_m 33 rfl))) (by decide) (t := (.array .int)) (t' := (.array .int)) (by decide) (by decide)))).ext E129).keep K132 (ninS ne_a_b129 nin0)).other W152 (Or.inr (slot_ne (Or.inl (hw _ (own_m 31 rfl))) (Or.inr (hw _ (own_m 46 rfl))) (by decide) (t := (.array .int)) (t' := (.object "com/example/libspoke/libspoke/wheel/EntryTable$PageSet")) (by decide) (by decide)))).other W157 (Or.inr (slot_ne (Or.inl (hw _ (own_m 31 rfl))) (Or.inl (hw _ (own_m 48 rfl))) (by decide) (t := (.array .int)) (t' := .int) (by decide) (by decide))))
  have f167 := ((((Fw116.ext E129).keep K132 (ninS ne_a_b129 nin0)).other W152 (Or.inr (slot_ne (Or.inl (hw _ (own_m 33 rfl))) (Or.inr (hw _ (own_m 46 rfl))) (by decide) (t := (.array .int)) (t' := (.object "com/example/libspoke/libspoke/wheel/EntryTable$PageSet")) (by decide) (by decide)))).other W157 (Or.inr (slot_ne (Or.inl (hw _ (own_m 33 rfl))) (Or.inl (hw _ (own_m 48 rfl))) (by decide) (t := (.array .int)) (t' := .int) (by decide) (by decide))))
  have f168 := (Fw152.other W157 (Or.inr (slot_ne (Or.inr (hw _ (own_m 46 rfl))) (Or.inl (hw _ (own_m 48 rfl))) (by decide) (t := (.object "com/example/libspoke/libspoke/wheel/EntryTable$PageSet")) (t' := .int) (by decide) (by decide))))
  have f169 := (((((((((((((((((((((((pF_a_size.ext E2).ext E6).other W11 (Or.inl ne_a_b2)).other W16 (Or.inr (slot_ne (Or.inl (hw _ (own_m 127 rfl))) (Or.inl (hw _ (own_m 15 rfl))) (by decide) (t := .int) (t' := (.array (.array (.object "java/lang/Object")))) (by decide) (by decide)))).ext E22).ext E28).other W33 (Or.inl ne_a_b22)).other W38 (Or.inr (slot_ne (Or.inl (hw _ (own_m 127 rfl))) (Or.inl (hw _ (own_m 21 rfl))) (by decide) (t := .int) (t' := (.array (.array .long))) (by decide) (by decide)))).ext E46).ext E54).other W59 (Or.inl ne_a_b46)).other W64 (Or.inr (slot_ne (Or.inl (hw _ (own_m 127 rfl))) (Or.inl (hw _ (own_m 27 rfl))) (by decide) (t := .int) (t' := (.array (.array .int))) (by decide) (by decide)))).ext E74).other W79 (Or.inr (slot_ne (Or.inl (hw _ (own_m 127 rfl))) (Or.inl (hw _ (own_m 29 rfl))) (by decide) (t := .int) (t' := (.array .int)) (by decide) (by decide)))).ext E90).other W94 (Or.inl ne_a_b90)).other W99 (Or.inr (slot_ne (Or.inl (hw _ (own_m 127 rfl))) (Or.inl (hw _ (own_m 31 rfl))) (by decide) (t := .int) (t' := (.array .int)) (by decide) (by decide)))).ext E111).other W116 (Or.inr (slot_ne (Or.inl (hw _ (own_m 127 rfl))) (Or.inl (hw _ (own_m 33 rfl))) (by decide) (t := .int) (t' := (.array .int)) (by decide) (by decide)))).ext E129).keep K132 (ninS ne_a_b129 nin0)).other W152 (Or.inr (slot_ne (Or.inl (hw _ (own_m 127 rfl))) (Or.inr (hw _ (own_m 46 rfl))) (by decide) (t := .int) (t' := (.object "com/example/libspoke/libspoke/wheel/EntryTable$PageSet")) (by decide) (by decide)))).other W157 (Or.inr (slot_ne (Or.inl (hw _ (own_m 127 rfl))) (Or.inl (hw _ (own_m 48 rfl))) (by decide) (t := .int) (t' := .int) (by decide) (by decide))))
  have f170 := (((((((((((((((((((((((pF_a_capacity.ext E2).ext E6).other W11 (Or.inl ne_a_b2)).other W16 (Or.inr (slot_ne (Or.inl (hw _ (own_m 71 rfl))) (Or.inl (hw _ (own_m 15 rfl))) (by decide) (t := .int) (t' := (.array (.array (.object "java/lang/Object")))) (by decide) (by decide)))).ext E22).ext E28).other W33 (Or.inl ne_a_b22)).other W38 (Or.inr (slot_ne (Or.inl (hw _ (own_m 71 rfl))) (Or.inl (hw _ (own_m 21 rfl))) (by decide) (t := .int) (t' := (.array (.array .long))) (by decide) (by decide)))).ext E46).ext E54).other W59 (Or.inl ne_a_b46)).other W64 (Or.inr (slot_ne (Or.inl (hw _ (own_m 71 rfl))) (Or.inl (hw _ (own_m 27 rfl))) (by decide) (t := .int) (t' := (.array (.array .int))) (by decide) (by decide)))).ext E74).other W79 (Or.inr (slot_ne (Or.inl (hw _ (own_m 71 rfl))) (Or.inl (hw _ (own_m 29 rfl))) (by decide) (t := .int) (t' := (.array .int)) (by decide) (by decide)))).ext E90).other W94 (Or.inl ne_a_b90)).other W99 (Or.inr (slot_ne (Or.inl (hw _ (own_m 71 rfl))) (Or.inl (hw _ (own_m 31 rfl))) (by decide) (t := .int) (t' := (.array .int)) (by decide) (by decide)))).ext E111).other W116 (Or.inr (slot_ne (Or.inl (hw _ (own_m 71 rfl))) (Or.inl (hw _ (own_m 33 rfl))) (by decide) (t := .int) (t' := (.array .int)) (by decide) (by decide)))).ext E129).keep K132 (ninS ne_a_b129 nin0)).other W152 (Or.inr (slot_ne (Or.inl (hw _ (own_m 71 rfl))) (Or.inr (hw _ (own_m 46 rfl))) (by decide) (t := .int) (t' := (.object "com/example/libspoke/libspoke/wheel/EntryTable$PageSet")) (by decide) (by decide)))).other W157 (Or.inr (slot_ne (Or.inl (hw _ (own_m 71 rfl))) (Or.inl (hw _ (own_m 48 rfl))) (by decide) (t := .int) (t' := .int) (by decide) (by decide))))
  have f171 := (((f139.keep K132 (ninS ne_b2_b129 nin0)).other W152 (Ne.symm ne_a_b2)).other W157 (Ne.symm ne_a_b2))
  have f172 := (((f141.keep K132 (ninS ne_b22_b129 nin0)).other W152 (Ne.symm ne_a_b22)).other W157 (Ne.symm ne_a_b22))
  have f173 := (((f143.keep K132 (ninS ne_b46_b129 nin0)).other W152 (Ne.symm ne_a_b46)).other W157 (Ne.symm ne_a_b46))
  have f174 := (((f142.keep K132 (ninS ne_b28_b129 nin0)).other W152 (Ne.symm ne_a_b28)).other W157 (Ne.symm ne_a_b28))
  have f175 := (((f144.keep K132 (ninS ne_b54_b129 nin0)).other W152 (Ne.symm ne_a_b54)).other W157 (Ne.symm ne_a_b54))
  have f176 := (((f145.keep K132 (ninS ne_b74_b129 nin0)).other W152 (Ne.symm ne_a_b74)).other W157 (Ne.symm ne_a_b74))
  have f177 := (((f146.keep K132 (ninS ne_b90_b129 nin0)).other W152 (Ne.symm ne_a_b90)).other W157 (Ne.symm ne_a_b90))
  have f178 := (((f147.keep K132 (ninS ne_b111_b129 nin0)).other W152 (Ne.symm ne_a_b111)).other W157 (Ne.symm ne_a_b111))
  have f179 := ((q136.other W152 (Ne.symm ne_a_pb)).other W157 (Ne.symm ne_a_pb))
  have f180 := ((q137.other W152 (Ne.symm ne_a_wb)).other W157 (Ne.symm ne_a_wb))
  have f181 := ((q133.wr W152).wr W157)
  have f182 := ((q134.other W152 (Or.inl (Ne.symm ne_a_b129))).other W157 (Or.inl (Ne.symm ne_a_b129)))
  have f183 := ((q135.other W152 (Or.inl (Ne.symm ne_a_b129))).other W157 (Or.inl (Ne.symm ne_a_b129)))
  have f184 := (((((((((((((((((((((B6.wr W11).wr W16).ext E22).ext E28).wr W33).wr W38).ext E46).ext E54).wr W59).wr W64).ext E74).wr W79).ext E90).wr W94).wr W99).ext E111).wr W116).ext E129).keep K132).wr W152).wr W157)
  have f185 := (((f140.keep K132 (ninS ne_b6_b129 nin0)).other W152 (Ne.symm ne_a_b6)).other W157 (Ne.symm ne_a_b6))
  obtain ⟨fs, hr, hrun, hended, hW, hsame⟩ := X157.leave (v := none) (fun _ => rfl)
  refine ⟨_, _, pre0 _ ?_, hrun, hended, _, _, rfl, ?_, ⟨_, rfl⟩, hW, hsame.mono (by decide) (by decide)⟩
  · show Steps p.tables e below (s₁.setTop (mkF m 0 #[rv a] [])) _
    refine XS.aloadN X0.here hx rfl (hb hby own_d1_0) rfl rfl ?_
    show Steps p.tables e below (s₁.setTop (mkF m 1 #[rv a] [(.ref a)])) _
    refine st1 _ ?_
    show Steps p.tables e below (T1.setTop (mkF m 4 #[rv a] [])) _
    refine XS.aloadN X1.here hx rfl (hb hby own_d1_4) rfl rfl ?_
    show Steps p.tables e below (T1.setTop (mkF m 5 #[rv a] [(.ref a)])) _
    refine XS.iconst X1.here hx rfl (hb hby own_d1_5) ?_
    show Steps p.tables e below (T1.setTop (mkF m 6 #[rv a] [(.int 1), (.ref a)])) _
    refine st2 _ ?_
    show Steps p.tables e below (T2.setTop (mkF m 9 #[rv a] [(.ref b2), (.ref a)])) _
    refine XS.dup X2.here hx rfl (hb hby own_d1_9) rfl rfl ?_
    show Steps p.tables e below (T2.setTop (mkF m 10 #[rv a] [(.ref b2), (.ref b2), (.ref a)])) _
    refine XS.iconst X2.here hx rfl (hb hby own_d1_10) ?_
    show Steps p.tables e below (T2.setTop (mkF m 11 #[rv a] [(.int 0), (.ref b2), (.ref b2), (.ref a)])) _
    refine XS.iconst X2.here hx rfl (hb hby own_d1_11) ?_
    show Steps p.tables e below (T2.setTop (mkF m 12 #[rv a] [(.int 0), (.int 0), (.ref b2), (.ref b2), (.ref a)])) _
    refine st6 _ ?_
    show Steps p.tables e below (T6.setTop (mkF m 15 #[rv a] [(.ref b6), (.int 0), (.ref b2), (.ref b2), (.ref a)])) _
    refine st11 _ ?_
    show Steps p.tables e below (T11.setTop (mkF m 16 #[rv a] [(.ref b2), (.ref a)])) _
    refine st16 _ ?_
    show Steps p.tables e below (T16.setTop (mkF m 19 #[rv a] [])) _
    refine XS.aloadN X16.here hx rfl (hb hby own_d1_19) rfl rfl ?_
    show Steps p.tables e below (T16.setTop (mkF m 20 #[rv a] [(.ref a)])) _
    refine XS.iconst X16.here hx rfl (hb hby own_d1_20) ?_
    show Steps p.tables e below (T16.setTop (mkF m 21 #[rv a] [(.int 1), (.ref a)])) _
    refine st22 _ ?_
    show Steps p.tables e below (T22.setTop (mkF m 24 #[rv a] [(.ref b22), (.ref a)])) _
    refine XS.dup X22.here hx rfl (hb hby own_d1_24) rfl rfl ?_
    show Steps p.tables e below (T22.setTop (mkF m 25 #[rv a] [(.ref b22), (.ref b22), (.ref a)])) _
    refine XS.iconst X22.here hx rfl (hb hby own_d1_25) ?_
    show Steps p.tables e below (T22.setTop (mkF m 26 #[rv a] [(.int 0), (.ref b22), (.ref b22), (.ref a)])) _
    refine XS.iconst X22.here hx rfl (hb hby own_d1_26) ?_
    show Steps p.tables e below (T22.setTop (mkF m 27 #[rv a] [(.int 0), (.int 0), (.ref b22), (.ref b22), (.ref a)])) _
    refine st28 _ ?_
    show Steps p.tables e below (T28.setTop (mkF m 29 #[rv a] [(.ref b28), (.int 0), (.ref b22), (.ref b22), (.ref a)])) _
    refine st33 _ ?_
    show Steps p.tables e below (T33.setTop (mkF m 30 #[rv a] [(.ref b22), (.ref a)])) _
    refine st38 _ ?_
    show Steps p.tables e below (T38.setTop (mkF m 33 #[rv a] [])) _
    refine XS.aloadN X38.here hx rfl (hb hby own_d1_33) rfl rfl ?_
    show Steps p.tables e below (T38.setTop (mkF m 34 #[rv a] [(.ref a)])) _
    refine XS.iconst X38.here hx rfl (hb hby own_d1_34) ?_
    show Steps p.tables e below (T38.setTop (mkF m 35 #[rv a] [(.int 1), (.ref a)])) _
    refine st46 _ ?_
    show Steps p.tables e below (T46.setTop (mkF m 38 #[rv a] [(.ref b46), (.ref a)])) _
    refine XS.dup X46.here hx rfl (hb hby own_d1_38) rfl rfl ?_
    show Steps p.tables e below (T46.setTop (mkF m 39 #[rv a] [(.ref b46), (.ref b46), (.ref a)])) _
    refine XS.iconst X46.here hx rfl (hb hby own_d1_39) ?_
    show Steps p.tables e below (T46.setTop (mkF m 40 #[rv a] [(.int 0), (.ref b46), (.ref b46), (.ref a)])) _
    refine XS.iconst X46.here hx rfl (hb hby own_d1_40) ?_
    show Steps p.tables e below (T46.setTop (mkF m 41 #[rv a] [(.int 0), (.int 0), (.ref b46), (.ref b46), (.ref a)])) _
    refine st54 _ ?_
    show Steps p.tables e below (T54.setTop (mkF m 43 #[rv a] [(.ref b54), (.int 0), (.ref b46), (.ref b46), (.ref a)])) _
    refine st59 _ ?_
    show Steps p.tables e below (T59.setTop (mkF m 44 #[rv a] [(.ref b46), (.ref a)])) _
    refine st64 _ ?_
    show Steps p.tables e below (T64.setTop (mkF m 47 #[rv a] [])) _
    refine XS.aloadN X64.here hx rfl (hb hby own_d1_47) rfl rfl ?_
    show Steps p.tables e below (T64.setTop (mkF m 48 #[rv a] [(.ref a)])) _
    refine XS.iconst X64.here hx rfl (hb hby own_d1_48) ?_
    show Steps p.tables e below (T64.setTop (mkF m 49 #[rv a] [(.int 1), (.ref a)])) _
    refine st74 _ ?_
    show Steps p.tables e below (T74.setTop (mkF m 51 #[rv a] [(.ref b74), (.ref a)])) _
    refine st79 _ ?_
    show Steps p.tables e below (T79.setTop (mkF m 54 #[rv a] [])) _
    refine XS.aloadN X79.here hx rfl (hb hby own_d1_54) rfl rfl ?_
    show Steps p.tables e below (T79.setTop (mkF m 55 #[rv a] [(.ref a)])) _
    refine XS.iconst X79.here hx rfl (hb hby own_d1_55) ?_
    show Steps p.tables e below (T79.setTop (mkF m 56 #[rv a] [(.int 1), (.ref a)])) _
    refine st90 _ ?_
    show Steps p.tables e below (T90.setTop (mkF m 58 #[rv a] [(.ref b90), (.ref a)])) _
    refine XS.dup X90.here hx rfl (hb hby own_d1_58) rfl rfl ?_
    show Steps p.tables e below (T90.setTop (mkF m 59 #[rv a] [(.ref b90), (.ref b90), (.ref a)])) _
    refine XS.iconst X90.here hx rfl (hb hby own_d1_59) ?_
    show Steps p.tables e below (T90.setTop (mkF m 60 #[rv a] [(.int 0), (.ref b90), (.ref b90), (.ref a)])) _
    refine XS.iconst X90.here hx rfl (hb hby own_d1_60) ?_
    show Steps p.tables e below (T90.setTop (mkF m 61 #[rv a] [(.int (-1)), (.int 0), (.ref b90), (.ref b90), (.ref a)])) _
    refine st94 _ ?_
    show Steps p.tables e below (T94.setTop (mkF m 62 #[rv a] [(.ref b90), (.ref a)])) _
    refine st99 _ ?_
    show Steps p.tables e below (T99.setTop (mkF m 65 #[rv a] [])) _
    refine XS.aloadN X99.here hx rfl (hb hby own_d1_65) rfl rfl ?_
    show Steps p.tables e below (T99.setTop (mkF m 66 #[rv a] [(.ref a)])) _
    refine XS.iconst X99.here hx rfl (hb hby own_d1_66) ?_
    show Steps p.tables e below (T99.setTop (mkF m 67 #[rv a] [(.int 1), (.ref a)])) _
    refine st111 _ ?_
    show Steps p.tables e below (T111.setTop (mkF m 69 #[rv a] [(.ref b111), (.ref a)])) _
    refine st116 _ ?_
    show Steps p.tables e below (T116.setTop (mkF m 72 #[rv a] [])) _
    refine XS.aloadN X116.here hx rfl (hb hby own_d1_72) rfl rfl ?_
    show Steps p.tables e below (T116.setTop (mkF m 73 #[rv a] [(.ref a)])) _
    refine st129 _ ?_
    show Steps p.tables e below (T129.setTop (mkF m 76 #[rv a] [(.ref b129), (.ref a)])) _
    refine XS.dup X129.here hx rfl (hb hby own_d1_76) rfl rfl ?_
    show Steps p.tables e below (T129.setTop (mkF m 77 #[rv a] [(.ref b129), (.ref b129), (.ref a)])) _
    refine st132.trans ?_
    show Steps p.tables e below (T132.setTop (mkF m 80 #[rv a] [(.ref b129), (.ref a)])) _
    refine st152 _ ?_
    show Steps p.tables e below (T152.setTop (mkF m 83 #[rv a] [])) _
    refine XS.aloadN X152.here hx rfl (hb hby own_d1_83) rfl rfl ?_
    show Steps p.tables e below (T152.setTop (mkF m 84 #[rv a] [(.ref a)])) _
    refine XS.iconst X152.here hx rfl (hb hby own_d1_84) ?_
    show Steps p.tables e below (T152.setTop (mkF m 85 #[rv a] [(.int (-1)), (.ref a)])) _
    refine st157 _ ?_
    show Steps p.tables e below (T157.setTop (mkF m 88 #[rv a] [])) _
    exact X157.returnOut hx Bd.returns (hb hby own_d1_88) hr
  · show own_ei_Q Z w_CA mr y1 y2 y3 a h0 n0 _ T157.heap _
    rw [e157]
    exact ⟨b2, b6, b22, b28, b46, b54, b74, b90, b111, b129, pb, wb, k2, k22, k46, k28, k54, k74, k90, k111, k_pb, k_wb, k6, rfl, N157, kp159, (own_ndc (allS ne_a_b2 (allS ne_a_b6 (allS ne_a_b22 (allS ne_a_b28 (allS ne_a_b46 (allS ne_a_b54 (allS ne_a_b74 (allS ne_a_b90 (allS ne_a_b111 (allS ne_a_b129 (allS ne_a_pb (allS ne_a_wb all0)))))))))))) (own_ndc (allS ne_b2_b6 (allS ne_b2_b22 (allS ne_b2_b28 (allS ne_b2_b46 (allS ne_b2_b54 (allS ne_b2_b74 (allS ne_b2_b90 (allS ne_b2_b111 (allS ne_b2_b129 (allS ne_b2_pb (allS ne_b2_wb all0))))))))))) (own_ndc (allS ne_b6_b22 (allS ne_b6_b28 (allS ne_b6_b46 (allS ne_b6_b54 (allS ne_b6_b74 (allS ne_b6_b90 (allS ne_b6_b111 (allS ne_b6_b129 (allS ne_b6_pb (allS ne_b6_wb all0)))))))))) (own_ndc (allS ne_b22_b28 (allS ne_b22_b46 (allS ne_b22_b54 (allS ne_b22_b74 (allS ne_b22_b90 (allS ne_b22_b111 (allS ne_b22_b129 (allS ne_b22_pb (allS ne_b22_wb all0))))))))) (own_ndc (allS ne_b28_b46 (allS ne_b28_b54 (allS ne_b28_b74 (allS ne_b28_b90 (allS ne_b28_b111 (allS ne_b28_b129 (allS ne_b28_pb (allS ne_b28_wb all0)))))))) (own_ndc (allS ne_b46_b54 (allS ne_b46_b74 (allS ne_b46_b90 (allS ne_b46_b111 (allS ne_b46_b129 (allS ne_b46_pb (allS ne_b46_wb all0))))))) (own_ndc (allS ne_b54_b74 (allS ne_b54_b90 (allS ne_b54_b111 (allS ne_b54_b129 (allS ne_b54_pb (allS ne_b54_wb all0)))))) (own_ndc (allS ne_b74_b90 (allS ne_b74_b111 (allS ne_b74_b129 (allS ne_b74_pb (allS ne_b74_wb all0))))) (own_ndc (allS ne_b90_b111 (allS ne_b90_b129 (allS ne_b90_pb (allS ne_b90_wb all0)))) (own_ndc (allS ne_b111_b129 (allS ne_b111_pb (allS ne_b111_wb all0))) (own_ndc (allS ne_b129_pb (allS ne_b129_wb all0)) (own_ndc (allS n160 all0) (own_ndc all0 own_nd0))))))))))))), (allS sz_b2 (allS sz_b6 (allS sz_b22 (allS sz_b28 (allS sz_b46 (allS sz_b54 (allS sz_b74 (allS sz_b90 (allS sz_b111 (allS sz_b129 (allS sz_pb (allS sz_wb all0)))))))))))), O2, O22, O46, f161, f162, f163, f164, f165, f166, f167, f168, Fw157, f169, f170, f171, f172, f173, f174, f175, f176, f177, f178, f179, f180, f181, f182, f183, f184, f185⟩
theorem own_low0_ef (m : MethodId) (pt : Addr) : entryFrame m #[(.ref pt)] 3 = mkF m 0 #[rv pt, .unset, .unset] [] := by first | (simp [entryFrame, mkF, argsToLocals, Value.category]; done) | rfl
def own_low0_Q (Z : State) (w_CA : Addr) (mr : Addr) (y1 : Addr) (y2 : Addr) (y3 : Addr) (pt : Addr) (pb : Addr) (wb : Addr) (k_pb : ClassId) (k_wb : ClassId) (h0 : Heap) (n0 : Nat) (v : Option Value) (h : Heap) (L : List Loc) : Prop := v = some (.int (-1)) ∧ Fr n0 L ∧ h = h0
set_option maxRecDepth 65536 in
set_option maxHeartbeats 40000000 in
theorem own_low0 (l : Launch) (Z : State) (a0 : Array Value) (hw : ∀ d ∈ tables_1, d.before a0 Z = true) (ws : List Jvm.Cond) (w_CA : Addr) (mr : Addr) (y1 : Addr) (y2 : Addr) (y3 : Addr) (pt : Addr) (pb : Addr) (wb : Addr) (k_pb : ClassId) (k_wb : ClassId) (h0 : Heap) (n0 : Nat) (O0 : Old Z n0 h0) (S_HI : Sta Z Z.heap "java/lang/Integer$IntegerCache" "high" "I" (.int 127)) (S_CA : Sta Z Z.heap "java/lang/Integer$IntegerCache" "cache" "[Ljava/lang/Integer;" (.ref w_CA)) (M_OA : own_Mir Z "[Ljava/lang/Object;" mr) (H_y1 : own_At Z w_CA (129 : Int32) y1) (H_y2 : own_At Z w_CA (130 : Int32) y2) (H_y3 : own_At Z w_CA (131 : Int32) y3) (E_y1 : Exa Z Z.heap y1 "java/lang/Integer") (E_y2 : Exa Z Z.heap y2 "java/lang/Integer") (E_y3 : Exa Z Z.heap y3 "java/lang/Integer") (pE_pt : Exa Z h0 pt "com/example/libspoke/libspoke/wheel/EntryTable$PageSet") (pF_pt_pageBits : Fld Z h0 pt "com/example/libspoke/libspoke/wheel/EntryTable$PageSet" "pageBits" "[J" (.ref pb)) (pF_pt_wordBits : Fld Z h0 pt "com/example/libspoke/libspoke/wheel/EntryTable$PageSet" "wordBits" "[J" (.ref wb)) (pV_pb : Arv Z h0 pb k_pb .long (1 : Int32) [(.long 0)] (.long 0)) (pV_wb : Arv Z h0 wb k_wb .long (1 : Int32) [(.long 0)] (.long 0)) :
    MetFree l (⟨"com/example/libspoke/libspoke/wheel/EntryTable$PageSet", "lowest", "()I"⟩ : MethodName) (head1 (Jvm.Cond.code (⟨"com/example/libspoke/libspoke/wheel/EntryTable$PageSet", "lowest", "()I"⟩ : MethodName) prog_19_method_4_code 3 (some .int) :: ws) ({ frames := 0, cells := 0, slots := 0, locals := 0 } : Room)) (fun ar U => ar = #[(.ref pt)] ∧ Z.Warmed39 U.vm ∧ U.heap = h0) (fun _ _ _ _ _ => True) (fun _ U oc U' => ∃ v L, oc = .returned v ∧ own_low0_Q Z w_CA mr y1 y2 y3 pt pb wb k_pb k_wb h0 n0 v U'.heap L ∧ FrameEnd U oc U' L ({ frames := 0, cells := 0, slots := 0, locals := 0 } : Room).cells ({ frames := 0, cells := 0, slots := 0, locals := 0 } : Room).slots) := by
  refine MetFree.of_bodySF (plainFor_of_name own_pn3) hisR ?_
  intro p e s m args below meth c s₁ Bd hml0 hP hK
  obtain ⟨rfl, hZ, hh⟩ := hP
  have hx := Bd.exec
  have hby := Bd.bytes
  have hml : c.maxLocals = 3 := hml0
  have hown : s.vm.findClass "com/example/libspoke/libspoke/wheel/EntryTable$PageSet" = some m.cls := findClass_of_methodNamed Bd.named
  have hnm := (name_of_methodNamed Bd.named Bd.method).1
  have X0 : Stand p l e ({ frames := 0, cells := 0, slots := 0, locals := 0 } : Room) s m #[(.ref pt)] below meth c s₁ [] 0 0 := Stand.of_body Bd
  have e0 : s₁.heap = h0 := by rw [← hh, Bd.state]; rfl
  have N0 := Fr.nil n0
  have pre0 : ∀ t, Steps p.tables e below (s₁.setTop (mkF m 0 #[rv pt, .unset, .unset] [])) t → Steps p.tables e below (s₁.setTop (entryFrame m #[(.ref pt)] 3)) t := fun t k => castTop (own_low0_ef m pt) k
  obtain ⟨T1, X1, e1, st1⟩ := getF X0 hx hZ hown (host := "") (Or.inl (hw _ (own_m 43 rfl))) Via.refl e0 pF_pt_wordBits (g := (mkF m 4 #[rv pt, iv 0, .unset] [(.ref pt), (.int 0)])) rfl rfl (hb hby own_d6_4)
  obtain ⟨c2, c2A, c2q, c2S, c2N, c2H, c2G⟩ := id pV_wb
  obtain ⟨T3, X3, e3, st3⟩ := getF X1 hx hZ hown (host := "") (Or.inl (hw _ (own_m 43 rfl))) Via.refl e1 pF_pt_wordBits (g := (mkF m 12 #[rv pt, iv 0, .unset] [(.ref pt)])) rfl rfl (hb hby own_d6_12)
  obtain ⟨c4, c4A, c4q, c4S, c4N, c4H, c4G⟩ := id pV_wb
  have c4in : ¬ ((0 : Int32) < 0 ∨ c4.slots.size ≤ ((0 : Int32)).toNatClampNeg) := inb_of c4S ⟨by decide, by decide⟩
  have c4at : c4.slots[((0 : Int32)).toNatClampNeg]? = some (.long 0) := Has.at c4H c4in rfl
  obtain ⟨T5, X5, e5, st5⟩ := getF X3 hx hZ hown (host := "") (Or.inl (hw _ (own_m 43 rfl))) Via.refl e3 pF_pt_wordBits (g := (mkF m 4 #[rv pt, iv 1, .unset] [(.ref pt), (.int 1)])) rfl rfl (hb hby own_d6_4)
  obtain ⟨c6, c6A, c6q, c6S, c6N, c6H, c6G⟩ := id pV_wb
  obtain ⟨fs, hr, hrun, hended, hW, hsame⟩ := X5.leave (v := some (.int (-1))) (fun h => by rw [Bd.returns] at h; cases h)
  refine ⟨_, _, pre0 _ ?_, hrun, hended, _, _, rfl, ?_, ⟨_, rfl⟩, hW, hsame.mono (by decide) (by decide)⟩
  · show Steps p.tables e below (s₁.setTop (mkF m 0 #[rv pt, .unset, .unset] [])) _
    refine XS.iconst X0.here hx rfl (hb hby own_d6_0) ?_
    show Steps p.tables e below (s₁.setTop (mkF m 1 #[rv pt, .unset, .unset] [(.int 0)])) _
    refine XS.istoreN X0.here hx rfl (hb hby own_d6_1) rfl (l' := #[rv pt, iv 0, .unset]) rfl ?_
    show Steps p.tables e below (s₁.setTop (mkF m 2 #[rv pt, iv 0, .unset] [])) _
    refine XS.iloadN X0.here hx rfl (hb hby own_d6_2) rfl ?_
    show Steps p.tables e below (s₁.setTop (mkF m 3 #[rv pt, iv 0, .unset] [(.int 0)])) _
    refine XS.aloadN X0.here hx rfl (hb hby own_d6_3) rfl rfl ?_
    show Steps p.tables e below (s₁.setTop (mkF m 4 #[rv pt, iv 0, .unset] [(.ref pt), (.int 0)])) _
    refine st1 _ ?_
    show Steps p.tables e below (T1.setTop (mkF m 7 #[rv pt, iv 0, .unset] [(.ref wb), (.int 0)])) _
    refine X1.arraylength hx (by rw [e1]; exact c2A.1) (State.isArrayOf_alike hZ.alike c2A.2.1) (g := (mkF m 7 #[rv pt, iv 0, .unset] [(.ref wb), (.int 0)])) rfl rfl (hb hby own_d6_7) _ ?_
    rw [len_of c2S c2N]
    show Steps p.tables e below (T1.setTop (mkF m 8 #[rv pt, iv 0, .unset] [(.int 1), (.int 0)])) _
    refine XS.icmpNo X1.here hx rfl (hb hby own_d6_8) rfl (tlt (by decide)).2.1 ?_
    show Steps p.tables e below (T1.setTop (mkF m 11 #[rv pt, iv 0, .unset] [])) _
    refine XS.aloadN X1.here hx rfl (hb hby own_d6_11) rfl rfl ?_
    show Steps p.tables e below (T1.setTop (mkF m 12 #[rv pt, iv 0, .unset] [(.ref pt)])) _
    refine st3 _ ?_
    show Steps p.tables e below (T3.setTop (mkF m 15 #[rv pt, iv 0, .unset] [(.ref wb)])) _
    refine XS.iloadN X3.here hx rfl (hb hby own_d6_15) rfl ?_
    show Steps p.tables e below (T3.setTop (mkF m 16 #[rv pt, iv 0, .unset] [(.int 0), (.ref wb)])) _
    refine X3.laload hx (j := (0 : Int32)) (v := (.long 0)) (by rw [e3]; exact c4A.1) (State.isArrayOf_alike hZ.alike c4A.2.1) c4A.2.2 c4in c4at (g := (mkF m 16 #[rv pt, iv 0, .unset] [(.int 0), (.ref wb)])) rfl rfl (hb hby own_d6_16) _ ?_
    show Steps p.tables e below (T3.setTop (mkF m 17 #[rv pt, iv 0, .unset] [(.long 0)])) _
    refine XS.lconst X3.here hx rfl (hb hby own_d6_17) ?_
    show Steps p.tables e below (T3.setTop (mkF m 18 #[rv pt, iv 0, .unset] [(.long 0), (.long 0)])) _
    refine XS.lcmp X3.here hx rfl (hb hby own_d6_18) rfl ?_
    show Steps p.tables e below (T3.setTop (mkF m 19 #[rv pt, iv 0, .unset] [(.int (lcmpW (0 : Int64) (0 : Int64)))])) _
    refine XS.ifYes X3.here hx rfl (pc0 := 19) (pc' := 52) rfl (hb hby own_d6_19) rfl ((if0 _ _).trans (teq ((lw_eq _ _).mpr (show ((0 : Int64) = (0 : Int64)) from by decide))).1) (by decide) (by decide) ?_
    show Steps p.tables e below (T3.setTop (mkF m 52 #[rv pt, iv 0, .unset] [])) _
    refine XS.iinc X3.here hx rfl (hb hby own_d6_52) rfl (l' := #[rv pt, .val (.int ((0 : Int32) + (1 : Int32))), .unset]) rfl ?_
    show Steps p.tables e below (T3.setTop (mkF m 55 #[rv pt, .val (.int ((0 : Int32) + (1 : Int32))), .unset] [])) _
    refine castTop (congrArg (fun zz : Int32 => (mkF m 55 #[rv pt, iv zz, .unset] [])) (by decide : ((0 : Int32) + (1 : Int32)) = (1 : Int32))) ?_
    show Steps p.tables e below (T3.setTop (mkF m 55 #[rv pt, iv 1, .unset] [])) _
    refine XS.goto X3.here hx rfl (pc0 := 55) (pc' := 2) rfl (hb hby own_d6_55) (by decide) (by decide) ?_
    show Steps p.tables e below (T3.setTop (mkF m 2 #[rv pt, iv 1, .unset] [])) _
    refine XS.iloadN X3.here hx rfl (hb hby own_d6_2) rfl ?_
    show Steps p.tables e below (T3.setTop (mkF m 3 #[rv pt, iv 1, .unset] [(.int 1)])) _
    refine XS.aloadN X3.here hx rfl (hb hby own_d6_3) rfl rfl ?_
    show Steps p.tables e below (T3.setTop (mkF m 4 #[rv pt, iv 1, .unset] [(.ref pt), (.int 1)])) _
    refine st5 _ ?_
    show Steps p.tables e below (T5.setTop (mkF m 7 #[rv pt, iv 1, .unset] [(.ref wb), (.int 1)])) _
    refine X5.arraylength hx (by rw [e5]; exact c6A.1) (State.isArrayOf_alike hZ.alike c6A.2.1) (g := (mkF m 7 #[rv pt, iv 1, .unset] [(.ref wb), (.int 1)])) rfl rfl (hb hby own_d6_7) _ ?_
    rw [len_of c6S c6N]
    show Steps p.tables e below (T5.setTop (mkF m 8 #[rv pt, iv 1, .unset] [(.int 1), (.int 1)])) _
    refine XS.icmpYes X5.here hx rfl (pc0 := 8) (pc' := 58) rfl (hb hby own_d6_8) rfl (flt (by decide)).2.1 (by decide) (by decide) ?_
    show Steps p.tables e below (T5.setTop (mkF m 58 #[rv pt, iv 1, .unset] [])) _
    refine XS.iconst X5.here hx rfl (hb hby own_d6_58) ?_
    show Steps p.tables e below (T5.setTop (mkF m 59 #[rv pt, iv 1, .unset] [(.int (-1))])) _
    exact retI X5 hx Bd.returns (hb hby own_d6_59) hr
  · show own_low0_Q Z w_CA mr y1 y2 y3 pt pb wb k_pb k_wb h0 n0 _ T5.heap _
    rw [e5]
    exact ⟨rfl, N0, rfl⟩
theorem own_low1_ef (m : MethodId) (pt : Addr) : entryFrame m #[(.ref pt)] 3 = mkF m 0 #[rv pt, .unset, .unset] [] := by first | (simp [entryFrame, mkF, argsToLocals, Value.category]; done) | rfl
def own_low1_Q (Z : State) (w_CA : Addr) (mr : Addr) (y1 : Addr) (y2 : Addr) (y3 : Addr) (pt : Addr) (pb : Addr) (wb : Addr) (k_pb : ClassId) (k_wb : ClassId) (h0 : Heap) (n0 : Nat) (v : Option Value) (h : Heap) (L : List Loc) : Prop := v = some (.int 0) ∧ Fr n0 L ∧ h = h0
set_option maxRecDepth 65536 in
set_option maxHeartbeats 40000000 in
theorem own_low1 (l : Launch) (Z : State) (a0 : Array Value) (hw : ∀ d ∈ tables_1, d.before a0 Z = true) (ws : List Jvm.Cond) (w_CA : Addr) (mr : Addr) (y1 : Addr) (y2 : Addr) (y3 : Addr) (pt : Addr) (pb : Addr) (wb : Addr) (k_pb : ClassId) (k_wb : ClassId) (h0 : Heap) (n0 : Nat) (O0 : Old Z n0 h0) (S_HI : Sta Z Z.heap "java/lang/Integer$IntegerCache" "high" "I" (.int 127)) (S_CA : Sta Z Z.heap "java/lang/Integer$IntegerCache" "cache" "[Ljava/lang/Integer;" (.ref w_CA)) (M_OA : own_Mir Z "[Ljava/lang/Object;" mr) (H_y1 : own_At Z w_CA (129 : Int32) y1) (H_y2 : own_At Z w_CA (130 : Int32) y2) (H_y3 : own_At Z w_CA (131 : Int32) y3) (E_y1 : Exa Z Z.heap y1 "java/lang/Integer") (E_y2 : Exa Z Z.heap y2 "java/lang/Integer") (E_y3 : Exa Z Z.heap y3 "java/lang/Integer") (pE_pt : Exa Z h0 pt "com/example/libspoke/libspoke/wheel/EntryTable$PageSet") (pF_pt_pageBits : Fld Z h0 pt "com/example/libspoke/libspoke/wheel/EntryTable$PageSet" "pageBits" "[J" (.ref pb)) (pF_pt_wordBits : Fld Z h0 pt "com/example/libspoke/libspoke/wheel/EntryTable$PageSet" "wordBits" "[J" (.ref wb)) (pV_pb : Arv Z h0 pb k_pb .long (1 : Int32) [(.long 1)] (.long 0)) (pV_wb : Arv Z h0 wb k_wb .long (1 : Int32) [(.long 1)] (.long 0)) :
    MetFree l (⟨"com/example/libspoke/libspoke/wheel/EntryTable$PageSet", "lowest", "()I"⟩ : MethodName) (head1 (Jvm.Cond.code (⟨"com/example/libspoke/libspoke/wheel/EntryTable$PageSet", "lowest", "()I"⟩ : MethodName) prog_19_method_4_code 3 (some .int) :: ws) ({ frames := 2, cells := 0, slots := 0, locals := 28 } : Room)) (fun ar U => ar = #[(.ref pt)] ∧ Z.Warmed39 U.vm ∧ U.heap = h0) (fun _ _ _ _ _ => True) (fun _ U oc U' => ∃ v L, oc = .returned v ∧ own_low1_Q Z w_CA mr y1 y2 y3 pt pb wb k_pb k_wb h0 n0 v U'.heap L ∧ FrameEnd U oc U' L ({ frames := 2, cells := 0, slots := 0, locals := 28 } : Room).cells ({ frames := 2, cells := 0, slots := 0, locals := 28 } : Room).slots) := by
  refine MetFree.of_bodySF (plainFor_of_name own_pn3) hisR ?_
  intro p e s m args below meth c s₁ Bd hml0 hP hK
  obtain ⟨rfl, hZ, hh⟩ := hP
  have hx := Bd.exec
  have hby := Bd.bytes
  have hml : c.maxLocals = 3 := hml0
  have hown : s.vm.findClass "com/example/libspoke/libspoke/wheel/EntryTable$PageSet" = some m.cls := findClass_of_methodNamed Bd.named
  have hnm := (name_of_methodNamed Bd.named Bd.method).1
  have X0 : Stand p l e ({ frames := 2, cells := 0, slots := 0, locals := 28 } : Room) s m #[(.ref pt)] below meth c s₁ [] 0 0 := Stand.of_body Bd
  have e0 : s₁.heap = h0 := by rw [← hh, Bd.state]; rfl
  have N0 := Fr.nil n0
  have pre0 : ∀ t, Steps p.tables e below (s₁.setTop (mkF m 0 #[rv pt, .unset, .unset] [])) t → Steps p.tables e below (s₁.setTop (entryFrame m #[(.ref pt)] 3)) t := fun t k => castTop (own_low1_ef m pt) k
  obtain ⟨T1, X1, e1, st1⟩ := getF X0 hx hZ hown (host := "") (Or.inl (hw _ (own_m 43 rfl))) Via.refl e0 pF_pt_wordBits (g := (mkF m 4 #[rv pt, iv 0, .unset] [(.ref pt), (.int 0)])) rfl rfl (hb hby own_d6_4)
  obtain ⟨c2, c2A, c2q, c2S, c2N, c2H, c2G⟩ := id pV_wb
  obtain ⟨T3, X3, e3, st3⟩ := getF X1 hx hZ hown (host := "") (Or.inl (hw _ (own_m 43 rfl))) Via.refl e1 pF_pt_wordBits (g := (mkF m 12 #[rv pt, iv 0, .unset] [(.ref pt)])) rfl rfl (hb hby own_d6_12)
  obtain ⟨c4, c4A, c4q, c4S, c4N, c4H, c4G⟩ := id pV_wb
  have c4in : ¬ ((0 : Int32) < 0 ∨ c4.slots.size ≤ ((0 : Int32)).toNatClampNeg) := inb_of c4S ⟨by decide, by decide⟩
  have c4at : c4.slots[((0 : Int32)).toNatClampNeg]? = some (.long 1) := Has.at c4H c4in rfl
  obtain ⟨T5, X5, e5, st5⟩ := getF X3 hx hZ hown (host := "") (Or.inl (hw _ (own_m 43 rfl))) Via.refl e3 pF_pt_wordBits (g := (mkF m 27 #[rv pt, iv 0, .unset] [(.ref pt), (.int 0)])) rfl rfl (hb hby own_d6_27)
  obtain ⟨c6, c6A, c6q, c6S, c6N, c6H, c6G⟩ := id pV_wb
  have c6in : ¬ ((0 : Int32) < 0 ∨ c6.slots.size ≤ ((0 : Int32)).toNatClampNeg) := inb_of c6S ⟨by decide, by decide⟩
  have c6at : c6.slots[((0 : Int32)).toNatClampNeg]? = some (.long 1) := Has.at c6H c6in rfl
  obtain ⟨_, _, ⟨T7, L7, k7, n7⟩, -, X7, ⟨Lc7, hQ7, l7, y7, z7⟩, st7⟩ := Jvm.LawKit.callS X5 hx (y := (⟨"java/lang/Long", "numberOfTrailingZeros", "(J)I"⟩ : MethodName)) hown (mvT hZ (hw _ (own_m 128 rfl))) (mvT hZ (hw _ (own_m 129 rfl))) (mvT hZ (hw _ (own_m 130 rfl))) (mvT hZ (hw _ (own_m 131 rfl))) (by decide) (backOf (W := 1) (own_zl l Z a0 hw [] w_CA mr y1 y2 y3  h0 n0 O0 S_HI S_CA M_OA H_y1 H_y2 H_y3 E_y1 E_y2 E_y3 ) hZ (hw _ (own_m 131 rfl)) (hw _ (own_m 130 rfl)) (by decide) (by decide)) (g := (mkF m 32 #[rv pt, iv 0, .unset] [(.long 1), (.int 0)])) rfl (by rw [hml]; rfl) (argsL := [(.long 1)]) (rest := [(.int 0)]) (lenOf own_pd2 rfl) rfl (by show 2 * 0 + _ ≤ _; exact Nat.le_of_eq rfl) (hb hby own_d6_32) (fun _ _ => ⟨rfl, e5, (by decide : 0 + 0 ≤ _), (by decide : 0 + 0 ≤ _)⟩)
  dsimp only [Pt.U, Pt.locs, Pt.cells, Pt.slots] at X7 l7 y7 z7 st7 hQ7
  subst l7 y7 z7
  obtain ⟨rfl, N7q, e7⟩ := hQ7
  have N7 := Fr.app N0 N7q
  obtain ⟨T8, X8, e8, st8⟩ := getF X7 hx hZ hown (host := "") (Or.inl (hw _ (own_m 41 rfl))) Via.refl e7 pF_pt_pageBits (g := (mkF m 42 #[rv pt, iv 0, iv 0] [(.ref pt), (.int 0)])) rfl rfl (hb hby own_d6_42)
  obtain ⟨c9, c9A, c9q, c9S, c9N, c9H, c9G⟩ := id pV_pb
  have c9in : ¬ ((0 : Int32) < 0 ∨ c9.slots.size ≤ ((0 : Int32)).toNatClampNeg) := inb_of c9S ⟨by decide, by decide⟩
  have c9at : c9.slots[((0 : Int32)).toNatClampNeg]? = some (.long 1) := Has.at c9H c9in rfl
  obtain ⟨_, _, ⟨T10, L10, k10, n10⟩, -, X10, ⟨Lc10, hQ10, l10, y10, z10⟩, st10⟩ := Jvm.LawKit.callS X8 hx (y := (⟨"java/lang/Long", "numberOfTrailingZeros", "(J)I"⟩ : MethodName)) hown (mvT hZ (hw _ (own_m 128 rfl))) (mvT hZ (hw _ (own_m 129 rfl))) (mvT hZ (hw _ (own_m 130 rfl))) (mvT hZ (hw _ (own_m 131 rfl))) (by decide) (backOf (W := 1) (own_zl l Z a0 hw [] w_CA mr y1 y2 y3  h0 n0 O0 S_HI S_CA M_OA H_y1 H_y2 H_y3 E_y1 E_y2 E_y3 ) hZ (hw _ (own_m 131 rfl)) (hw _ (own_m 130 rfl)) (by decide) (by decide)) (g := (mkF m 47 #[rv pt, iv 0, iv 0] [(.long 1), (.int 0)])) rfl (by rw [hml]; rfl) (argsL := [(.long 1)]) (rest := [(.int 0)]) (lenOf own_pd2 rfl) rfl (by show 2 * 0 + _ ≤ _; exact Nat.le_of_eq rfl) (hb hby own_d6_47) (fun _ _ => ⟨rfl, e8, (by decide : 0 + 0 ≤ _), (by decide : 0 + 0 ≤ _)⟩)
  dsimp only [Pt.U, Pt.locs, Pt.cells, Pt.slots] at X10 l10 y10 z10 st10 hQ10
  subst l10 y10 z10
  obtain ⟨rfl, N10q, e10⟩ := hQ10
  have N10 := Fr.app N7 N10q
  obtain ⟨fs, hr, hrun, hended, hW, hsame⟩ := X10.leave (v := some (.int 0)) (fun h => by rw [Bd.returns] at h; cases h)
  refine ⟨_, _, pre0 _ ?_, hrun, hended, _, _, rfl, ?_, ⟨_, rfl⟩, hW, hsame.mono (by decide) (by decide)⟩
  · show Steps p.tables e below (s₁.setTop (mkF m 0 #[rv pt, .unset, .unset] [])) _
    refine XS.iconst X0.here hx rfl (hb hby own_d6_0) ?_
    show Steps p.tables e below (s₁.setTop (mkF m 1 #[rv pt, .unset, .unset] [(.int 0)])) _
    refine XS.istoreN X0.here hx rfl (hb hby own_d6_1) rfl (l' := #[rv pt, iv 0, .unset]) rfl ?_
    show Steps p.tables e below (s₁.setTop (mkF m 2 #[rv pt, iv 0, .unset] [])) _
    refine XS.iloadN X0.here hx rfl (hb hby own_d6_2) rfl ?_
    show Steps p.tables e below (s₁.setTop (mkF m 3 #[rv pt, iv 0, .unset] [(.int 0)])) _
    refine XS.aloadN X0.here hx rfl (hb hby own_d6_3) rfl rfl ?_
    show Steps p.tables e below (s₁.setTop (mkF m 4 #[rv pt, iv 0, .unset] [(.ref pt), (.int 0)])) _
    refine st1 _ ?_
    show Steps p.tables e below (T1.setTop (mkF m 7 #[rv pt, iv 0, .unset] [(.ref wb), (.int 0)])) _
    refine X1.arraylength hx (by rw [e1]; exact c2A.1) (State.isArrayOf_alike hZ.alike c2A.2.1) (g := (mkF m 7 #[rv pt, iv 0, .unset] [(.ref wb), (.int 0)])) rfl rfl (hb hby own_d6_7) _ ?_
    rw [len_of c2S c2N]
    show Steps p.tables e below (T1.setTop (mkF m 8 #[rv pt, iv 0, .unset] [(.int 1), (.int 0)])) _
    refine XS.icmpNo X1.here hx rfl (hb hby own_d6_8) rfl (tlt (by decide)).2.1 ?_
    show Steps p.tables e below (T1.setTop (mkF m 11 #[rv pt, iv 0, .unset] [])) _
    refine XS.aloadN X1.here hx rfl (hb hby own_d6_11) rfl rfl ?_
    show Steps p.tables e below (T1.setTop (mkF m 12 #[rv pt, iv 0, .unset] [(.ref pt)])) _
    refine st3 _ ?_
    show Steps p.tables e below (T3.setTop (mkF m 15 #[rv pt, iv 0, .unset] [(.ref wb)])) _
    refine XS.iloadN X3.here hx rfl (hb hby own_d6_15) rfl ?_
    show Steps p.tables e below (T3.setTop (mkF m 16 #[rv pt, iv 0, .unset] [(.int 0), (.ref wb)])) _
    refine X3.laload hx (j := (0 : Int32)) (v := (.long 1)) (by rw [e3]; exact c4A.1) (State.isArrayOf_alike hZ.alike c4A.2.1) c4A.2.2 c4in c4at (g := (mkF m 16 #[rv pt, iv 0, .unset] [(.int 0), (.ref wb)])) rfl rfl (hb hby own_d6_16) _ ?_
    show Steps p.tables e below (T3.setTop (mkF m 17 #[rv pt, iv 0, .unset] [(.long 1)])) _
    refine XS.lconst X3.here hx rfl (hb hby own_d6_17) ?_
    show Steps p.tables e below (T3.setTop (mkF m 18 #[rv pt, iv 0, .unset] [(.long 0), (.long 1)])) _
    refine XS.lcmp X3.here hx rfl (hb hby own_d6_18) rfl ?_
    show Steps p.tables e below (T3.setTop (mkF m 19 #[rv pt, iv 0, .unset] [(.int (lcmpW (1 : Int64) (0 : Int64)))])) _
    refine XS.ifNo X3.here hx rfl (hb hby own_d6_19) rfl ((if0 _ _).trans (feq (fun q => (show ¬ ((1 : Int64) = (0 : Int64)) from by decide) ((lw_eq _ _).mp q))).1) ?_
    show Steps p.tables e below (T3.setTop (mkF m 22 #[rv pt, iv 0, .unset] [])) _
    refine XS.iloadN X3.here hx rfl (hb hby own_d6_22) rfl ?_
    show Steps p.tables e below (T3.setTop (mkF m 23 #[rv pt, iv 0, .unset] [(.int 0)])) _
    refine XS.bipush X3.here hx rfl (hb hby own_d6_23) ?_
    show Steps p.tables e below (T3.setTop (mkF m 25 #[rv pt, iv 0, .unset] [(.int 6), (.int 0)])) _
    refine XS.ishl X3.here hx rfl (hb hby own_d6_25) rfl ?_
    show Steps p.tables e below (T3.setTop (mkF m 26 #[rv pt, iv 0, .unset] [(.int ((0 : Int32) <<< ((6 : Int32) &&& 31)))])) _
    refine own_top (v' := (.int 0)) (congrArg Value.int (by decide)) ?_
    show Steps p.tables e below (T3.setTop (mkF m 26 #[rv pt, iv 0, .unset] [(.int 0)])) _
    refine XS.aloadN X3.here hx rfl (hb hby own_d6_26) rfl rfl ?_
    show Steps p.tables e below (T3.setTop (mkF m 27 #[rv pt, iv 0, .unset] [(.ref pt), (.int 0)])) _
    refine st5 _ ?_
    show Steps p.tables e below (T5.setTop (mkF m 30 #[rv pt, iv 0, .unset] [(.ref wb), (.int 0)])) _
    refine XS.iloadN X5.here hx rfl (hb hby own_d6_30) rfl ?_
    show Steps p.tables e below (T5.setTop (mkF m 31 #[rv pt, iv 0, .unset] [(.int 0), (.ref wb), (.int 0)])) _
    refine X5.laload hx (j := (0 : Int32)) (v := (.long 1)) (by rw [e5]; exact c6A.1) (State.isArrayOf_alike hZ.alike c6A.2.1) c6A.2.2 c6in c6at (g := (mkF m 31 #[rv pt, iv 0, .unset] [(.int 0), (.ref wb), (.int 0)])) rfl rfl (hb hby own_d6_31) _ ?_
    show Steps p.tables e below (T5.setTop (mkF m 32 #[rv pt, iv 0, .unset] [(.long 1), (.int 0)])) _
    refine st7 _ ?_
    show Steps p.tables e below (T7.setTop (mkF m 35 #[rv pt, iv 0, .unset] [(.int 0), (.int 0)])) _
    refine XS.iadd X7.here hx rfl (hb hby own_d6_35) rfl ?_
    show Steps p.tables e below (T7.setTop (mkF m 36 #[rv pt, iv 0, .unset] [(.int ((0 : Int32) + (0 : Int32)))])) _
    refine own_top (v' := (.int 0)) (congrArg Value.int (by decide)) ?_
    show Steps p.tables e below (T7.setTop (mkF m 36 #[rv pt, iv 0, .unset] [(.int 0)])) _
    refine XS.istoreN X7.here hx rfl (hb hby own_d6_36) rfl (l' := #[rv pt, iv 0, iv 0]) rfl ?_
    show Steps p.tables e below (T7.setTop (mkF m 37 #[rv pt, iv 0, iv 0] [])) _
    refine XS.iloadN X7.here hx rfl (hb hby own_d6_37) rfl ?_
    show Steps p.tables e below (T7.setTop (mkF m 38 #[rv pt, iv 0, iv 0] [(.int 0)])) _
    refine XS.bipush X7.here hx rfl (hb hby own_d6_38) ?_
    show Steps p.tables e below (T7.setTop (mkF m 40 #[rv pt, iv 0, iv 0] [(.int 6), (.int 0)])) _
    refine XS.ishl X7.here hx rfl (hb hby own_d6_40) rfl ?_
    show Steps p.tables e below (T7.setTop (mkF m 41 #[rv pt, iv 0, iv 0] [(.int ((0 : Int32) <<< ((6 : Int32) &&& 31)))])) _
    refine own_top (v' := (.int 0)) (congrArg Value.int (by decide)) ?_
    show Steps p.tables e below (T7.setTop (mkF m 41 #[rv pt, iv 0, iv 0] [(.int 0)])) _
    refine XS.aloadN X7.here hx rfl (hb hby own_d6_41) rfl rfl ?_
    show Steps p.tables e below (T7.setTop (mkF m 42 #[rv pt, iv 0, iv 0] [(.ref pt), (.int 0)])) _
    refine st8 _ ?_
    show Steps p.tables e below (T8.setTop (mkF m 45 #[rv pt, iv 0, iv 0] [(.ref pb), (.int 0)])) _
    refine XS.iloadN X8.here hx rfl (hb hby own_d6_45) rfl ?_
    show Steps p.tables e below (T8.setTop (mkF m 46 #[rv pt, iv 0, iv 0] [(.int 0), (.ref pb), (.int 0)])) _
    refine X8.laload hx (j := (0 : Int32)) (v := (.long 1)) (by rw [e8]; exact c9A.1) (State.isArrayOf_alike hZ.alike c9A.2.1) c9A.2.2 c9in c9at (g := (mkF m 46 #[rv pt, iv 0, iv 0] [(.int 0), (.ref pb), (.int 0)])) rfl rfl (hb hby own_d6_46) _ ?_
    show Steps p.tables e below (T8.setTop (mkF m 47 #[rv pt, iv 0, iv 0] [(.long 1), (.int 0)])) _
    refine st10 _ ?_
    show Steps p.tables e below (T10.setTop (mkF m 50 #[rv pt, iv 0, iv 0] [(.int 0), (.int 0)])) _
    refine XS.iadd X10.here hx rfl (hb hby own_d6_50) rfl ?_
    show Steps p.tables e below (T10.setTop (mkF m 51 #[rv pt, iv 0, iv 0] [(.int ((0 : Int32) + (0 : Int32)))])) _
    refine own_top (v' := (.int 0)) (congrArg Value.int (by decide)) ?_
    show Steps p.tables e below (T10.setTop (mkF m 51 #[rv pt, iv 0, iv 0] [(.int 0)])) _
    exact retI X10 hx Bd.returns (hb hby own_d6_51) hr
  · show own_low1_Q Z w_CA mr y1 y2 y3 pt pb wb k_pb k_wb h0 n0 _ T10.heap _
    rw [e10]
    exact ⟨rfl, N10, rfl⟩
theorem own_pa_ef (m : MethodId) (pt : Addr) : entryFrame m #[(.ref pt), (.int 0)] 3 = mkF m 0 #[rv pt, iv 0, .unset] [] := by first | (simp [entryFrame, mkF, argsToLocals, Value.category]; done) | rfl
def own_pa_Q (Z : State) (w_CA : Addr) (mr : Addr) (y1 : Addr) (y2 : Addr) (y3 : Addr) (pt : Addr) (pb : Addr) (wb : Addr) (k_pb : ClassId) (k_wb : ClassId) (h0 : Heap) (n0 : Nat) (v : Option Value) (h : Heap) (L : List Loc) : Prop := v = none ∧ Fr n0 L ∧ Keep h0 h [pb, wb] ∧ Arv Z h pb k_pb .long (1 : Int32) [(.long 1)] (.long 0) ∧ Arv Z h wb k_wb .long (1 : Int32) [(.long 1)] (.long 0)
set_option maxRecDepth 65536 in
set_option maxHeartbeats 40000000 in
theorem own_pa (l : Launch) (Z : State) (a0 : Array Value) (hw : ∀ d ∈ tables_1, d.before a0 Z = true) (ws : List Jvm.Cond) (w_CA : Addr) (mr : Addr) (y1 : Addr) (y2 : Addr) (y3 : Addr) (pt : Addr) (pb : Addr) (wb : Addr) (k_pb : ClassId) (k_wb : ClassId) (h0 : Heap) (n0 : Nat) (O0 : Old Z n0 h0) (S_HI : Sta Z Z.heap "java/lang/Integer$IntegerCache" "high" "I" (.int 127)) (S_CA : Sta Z Z.heap "java/lang/Integer$IntegerCache" "cache" "[Ljava/lang/Integer;" (.ref w_CA)) (M_OA : own_Mir Z "[Ljava/lang/Object;" mr) (H_y1 : own_At Z w_CA (129 : Int32) y1) (H_y2 : own_At Z w_CA (130 : Int32) y2) (H_y3 : own_At Z w_CA (131 : Int32) y3) (E_y1 : Exa Z Z.heap y1 "java/lang/Integer") (E_y2 : Exa Z Z.heap y2 "java/lang/Integer") (E_y3 : Exa Z Z.heap y3 "java/lang/Integer") (hG : ∀ x ∈ ([pt, pb, wb] : List Addr), n0 ≤ x) (hN : own_Nd [pt, pb, wb]) (pE_pt : Exa Z h0 pt "com/example/libspoke/libspoke/wheel/EntryTable$PageSet") (pF_pt_pageBits : Fld Z h0 pt "com/example/libspoke/libspoke/wheel/EntryTable$PageSet" "pageBits" "[J" (.ref pb)) (pF_pt_wordBits : Fld Z h0 pt "com/example/libspoke/libspoke/wheel/EntryTable$PageSet" "wordBits" "[J" (.ref wb)) (pV_pb : Arv Z h0 pb k_pb .long (1 : Int32) [(.long 0)] (.long 0)) (pV_wb : Arv Z h0 wb k_wb .long (1 : Int32) [(.long 0)] (.long 0)) :
    MetFree l (⟨"com/example/libspoke/libspoke/wheel/EntryTable$PageSet", "add", "(I)V"⟩ : MethodName) (head1 (Jvm.Cond.code (⟨"com/example/libspoke/libspoke/wheel/EntryTable$PageSet", "add", "(I)V"⟩ : MethodName) prog_19_method_2_code 3 none :: ws) ({ frames := 0, cells := 0, slots := 0, locals := 0 } : Room)) (fun ar U => ar = #[(.ref pt), (.int 0)] ∧ Z.Warmed39 U.vm ∧ U.heap = h0) (fun _ _ _ _ _ => True) (fun _ U oc U' => ∃ v L, oc = .returned v ∧ own_pa_Q Z w_CA mr y1 y2 y3 pt pb wb k_pb k_wb h0 n0 v U'.heap L ∧ FrameEnd U oc U' L ({ frames := 0, cells := 0, slots := 0, locals := 0 } : Room).cells ({ frames := 0, cells := 0, slots := 0, locals := 0 } : Room).slots) := by
  refine MetFree.of_bodySF (plainFor_of_name own_pn3) hisR ?_
  intro p e s m args below meth c s₁ Bd hml0 hP hK
  obtain ⟨rfl, hZ, hh⟩ := hP
  have hx := Bd.exec
  have hby := Bd.bytes
  have hml : c.maxLocals = 3 := hml0
  have hown : s.vm.findClass "com/example/libspoke/libspoke/wheel/EntryTable$PageSet" = some m.cls := findClass_of_methodNamed Bd.named
  have hnm := (name_of_methodNamed Bd.named Bd.method).1
  have X0 : Stand p l e ({ frames := 0, cells := 0, slots := 0, locals := 0 } : Room) s m #[(.ref pt), (.int 0)] below meth c s₁ [] 0 0 := Stand.of_body Bd
  have e0 : s₁.heap = h0 := by rw [← hh, Bd.state]; rfl
  have N0 := Fr.nil n0
  have pre0 : ∀ t, Steps p.tables e below (s₁.setTop (mkF m 0 #[rv pt, iv 0, .unset] [])) t → Steps p.tables e below (s₁.setTop (entryFrame m #[(.ref pt), (.int 0)] 3)) t := fun t k => castTop (own_pa_ef m pt) k
  have kp0 := Keep.refl h0 ([pb, wb] : List Addr)
  have g_pt : n0 ≤ pt := hG _ (own_m 0 rfl)
  have g_pb : n0 ≤ pb := hG _ (own_m 1 rfl)
  have g_wb : n0 ≤ wb := hG _ (own_m 2 rfl)
  obtain ⟨T1, X1, e1, st1⟩ := getF X0 hx hZ hown (host := "") (Or.inl (hw _ (own_m 41 rfl))) Via.refl e0 pF_pt_pageBits (g := (mkF m 6 #[rv pt, iv 0, iv 0] [(.ref pt)])) rfl rfl (hb hby own_d16_6)
  obtain ⟨c2, c2A, c2q, c2S, c2N, c2H, c2G⟩ := id pV_pb
  have c2in : ¬ ((0 : Int32) < 0 ∨ c2.slots.size ≤ ((0 : Int32)).toNatClampNeg) := inb_of c2S ⟨by decide, by decide⟩
  have c2at : c2.slots[((0 : Int32)).toNatClampNeg]? = some (.long 0) := Has.at c2H c2in rfl
  obtain ⟨c3, c3A, c3q, c3S, c3N, c3H, c3G⟩ := id pV_pb
  have c3in : ¬ ((0 : Int32) < 0 ∨ c3.slots.size ≤ ((0 : Int32)).toNatClampNeg) := inb_of c3S ⟨by decide, by decide⟩
  obtain ⟨T4, h4, X4, e4, W4, st4⟩ := stJ X1 hx hZ e1 c3A (j := (0 : Int32)) c3in (g := (mkF m 16 #[rv pt, iv 0, iv 0] [(.long 1), (.int 0), (.ref pb)])) rfl rfl (hb hby own_d16_16)
  have V4 : Arv Z h4 pb k_pb .long (1 : Int32) [(.long 1)] (.long 0) := Arv.set c3A c3q c3S c3N c3H c3G rfl W4 0 rfl (Nat.le_of_ble_eq_true rfl)
  have O5 := O0.wr W4 g_pb
  have kp6 := kp0.wr W4 (Or.inl (own_m 0 rfl))
  have N4 := Fr.snoc X4 N0 g_pb
  have n7 : pt ≠ pb := (own_ne hN (i := 0) (j := 1) rfl rfl (by decide))
  have f8 := (pF_pt_wordBits.other W4 (Or.inl n7))
  obtain ⟨T9, X9, e9, st9⟩ := getF X4 hx hZ hown (host := "") (Or.inl (hw _ (own_m 43 rfl))) Via.refl e4 f8 (g := (mkF m 18 #[rv pt, iv 0, iv 0] [(.ref pt)])) rfl rfl (hb hby own_d16_18)
  have n10 : wb ≠ pb := (Ne.symm (own_ne hN (i := 1) (j := 2) rfl rfl (by decide)))
  have f11 := (pV_wb.other W4 n10)
  obtain ⟨c12, c12A, c12q, c12S, c12N, c12H, c12G⟩ := id f11
  have c12in : ¬ ((0 : Int32) < 0 ∨ c12.slots.size ≤ ((0 : Int32)).toNatClampNeg) := inb_of c12S ⟨by decide, by decide⟩
  have c12at : c12.slots[((0 : Int32)).toNatClampNeg]? = some (.long 0) := Has.at c12H c12in rfl
  obtain ⟨c13, c13A, c13q, c13S, c13N, c13H, c13G⟩ := id f11
  have c13in : ¬ ((0 : Int32) < 0 ∨ c13.slots.size ≤ ((0 : Int32)).toNatClampNeg) := inb_of c13S ⟨by decide, by decide⟩
  obtain ⟨T14, h14, X14, e14, W14, st14⟩ := stJ X9 hx hZ e9 c13A (j := (0 : Int32)) c13in (g := (mkF m 31 #[rv pt, iv 0, iv 0] [(.long 1), (.int 0), (.ref wb)])) rfl rfl (hb hby own_d16_31)
  have V14 : Arv Z h14 wb k_wb .long (1 : Int32) [(.long 1)] (.long 0) := Arv.set c13A c13q c13S c13N c13H c13G rfl W14 0 rfl (Nat.le_of_ble_eq_true rfl)
  have O15 := O5.wr W14 g_wb
  have kp16 := kp6.wr W14 (Or.inl (own_m 1 rfl))
  have N14 := Fr.snoc X14 N4 g_wb
  have n17 : pb ≠ wb := (own_ne hN (i := 1) (j := 2) rfl rfl (by decide))
  have f18 := (V4.other W14 n17)
  obtain ⟨fs, hr, hrun, hended, hW, hsame⟩ := X14.leave (v := none) (fun _ => rfl)
  refine ⟨_, _, pre0 _ ?_, hrun, hended, _, _, rfl, ?_, ⟨_, rfl⟩, hW, hsame.mono (by decide) (by decide)⟩
  · show Steps p.tables e below (s₁.setTop (mkF m 0 #[rv pt, iv 0, .unset] [])) _
    refine XS.iloadN X0.here hx rfl (hb hby own_d16_0) rfl ?_
    show Steps p.tables e below (s₁.setTop (mkF m 1 #[rv pt, iv 0, .unset] [(.int 0)])) _
    refine XS.bipush X0.here hx rfl (hb hby own_d16_1) ?_
    show Steps p.tables e below (s₁.setTop (mkF m 3 #[rv pt, iv 0, .unset] [(.int 6), (.int 0)])) _
    refine XS.iushr X0.here hx rfl (hb hby own_d16_3) rfl ?_
    show Steps p.tables e below (s₁.setTop (mkF m 4 #[rv pt, iv 0, .unset] [(.int (((0 : Int32).toUInt32 >>> ((6 : Int32) &&& 31).toUInt32).toInt32))])) _
    refine own_top (v' := (.int 0)) (congrArg Value.int (by decide)) ?_
    show Steps p.tables e below (s₁.setTop (mkF m 4 #[rv pt, iv 0, .unset] [(.int 0)])) _
    refine XS.istoreN X0.here hx rfl (hb hby own_d16_4) rfl (l' := #[rv pt, iv 0, iv 0]) rfl ?_
    show Steps p.tables e below (s₁.setTop (mkF m 5 #[rv pt, iv 0, iv 0] [])) _
    refine XS.aloadN X0.here hx rfl (hb hby own_d16_5) rfl rfl ?_
    show Steps p.tables e below (s₁.setTop (mkF m 6 #[rv pt, iv 0, iv 0] [(.ref pt)])) _
    refine st1 _ ?_
    show Steps p.tables e below (T1.setTop (mkF m 9 #[rv pt, iv 0, iv 0] [(.ref pb)])) _
    refine XS.iloadN X1.here hx rfl (hb hby own_d16_9) rfl ?_
    show Steps p.tables e below (T1.setTop (mkF m 10 #[rv pt, iv 0, iv 0] [(.int 0), (.ref pb)])) _
    refine XT.dup2 X1.here hx rfl (hb hby own_d16_10) rfl rfl rfl ?_
    show Steps p.tables e below (T1.setTop (mkF m 11 #[rv pt, iv 0, iv 0] [(.int 0), (.ref pb), (.int 0), (.ref pb)])) _
    refine X1.laload hx (j := (0 : Int32)) (v := (.long 0)) (by rw [e1]; exact c2A.1) (State.isArrayOf_alike hZ.alike c2A.2.1) c2A.2.2 c2in c2at (g := (mkF m 11 #[rv pt, iv 0, iv 0] [(.int 0), (.ref pb), (.int 0), (.ref pb)])) rfl rfl (hb hby own_d16_11) _ ?_
    show Steps p.tables e below (T1.setTop (mkF m 12 #[rv pt, iv 0, iv 0] [(.long 0), (.int 0), (.ref pb)])) _
    refine XS.lconst X1.here hx rfl (hb hby own_d16_12) ?_
    show Steps p.tables e below (T1.setTop (mkF m 13 #[rv pt, iv 0, iv 0] [(.long 1), (.long 0), (.int 0), (.ref pb)])) _
    refine XS.iloadN X1.here hx rfl (hb hby own_d16_13) rfl ?_
    show Steps p.tables e below (T1.setTop (mkF m 14 #[rv pt, iv 0, iv 0] [(.int 0), (.long 1), (.long 0), (.int 0), (.ref pb)])) _
    refine XS.lshl X1.here hx rfl (hb hby own_d16_14) rfl ?_
    show Steps p.tables e below (T1.setTop (mkF m 15 #[rv pt, iv 0, iv 0] [(.long ((1 : Int64) <<< ((0 : Int32) &&& 0x3f).toInt64)), (.long 0), (.int 0), (.ref pb)])) _
    refine own_top (v' := (.long 1)) (congrArg Value.long (by decide)) ?_
    show Steps p.tables e below (T1.setTop (mkF m 15 #[rv pt, iv 0, iv 0] [(.long 1), (.long 0), (.int 0), (.ref pb)])) _
    refine XS.lor X1.here hx rfl (hb hby own_d16_15) rfl ?_
    show Steps p.tables e below (T1.setTop (mkF m 16 #[rv pt, iv 0, iv 0] [(.long ((0 : Int64) ||| (1 : Int64))), (.int 0), (.ref pb)])) _
    refine own_top (v' := (.long 1)) (congrArg Value.long (by decide)) ?_
    show Steps p.tables e below (T1.setTop (mkF m 16 #[rv pt, iv 0, iv 0] [(.long 1), (.int 0), (.ref pb)])) _
    refine st4 _ ?_
    show Steps p.tables e below (T4.setTop (mkF m 17 #[rv pt, iv 0, iv 0] [])) _
    refine XS.aloadN X4.here hx rfl (hb hby own_d16_17) rfl rfl ?_
    show Steps p.tables e below (T4.setTop (mkF m 18 #[rv pt, iv 0, iv 0] [(.ref pt)])) _
    refine st9 _ ?_
    show Steps p.tables e below (T9.setTop (mkF m 21 #[rv pt, iv 0, iv 0] [(.ref wb)])) _
    refine XS.iloadN X9.here hx rfl (hb hby own_d16_21) rfl ?_
    show Steps p.tables e below (T9.setTop (mkF m 22 #[rv pt, iv 0, iv 0] [(.int 0), (.ref wb)])) _
    refine XS.bipush X9.here hx rfl (hb hby own_d16_22) ?_
    show Steps p.tables e below (T9.setTop (mkF m 24 #[rv pt, iv 0, iv 0] [(.int 6), (.int 0), (.ref wb)])) _
    refine XS.iushr X9.here hx rfl (hb hby own_d16_24) rfl ?_
    show Steps p.tables e below (T9.setTop (mkF m 25 #[rv pt, iv 0, iv 0] [(.int (((0 : Int32).toUInt32 >>> ((6 : Int32) &&& 31).toUInt32).toInt32)), (.ref wb)])) _
    refine own_top (v' := (.int 0)) (congrArg Value.int (by decide)) ?_
    show Steps p.tables e below (T9.setTop (mkF m 25 #[rv pt, iv 0, iv 0] [(.int 0), (.ref wb)])) _
    refine XT.dup2 X9.here hx rfl (hb hby own_d16_25) rfl rfl rfl ?_
    show Steps p.tables e below (T9.setTop (mkF m 26 #[rv pt, iv 0, iv 0] [(.int 0), (.ref wb), (.int 0), (.ref wb)])) _
    refine X9.laload hx (j := (0 : Int32)) (v := (.long 0)) (by rw [e9]; exact c12A.1) (State.isArrayOf_alike hZ.alike c12A.2.1) c12A.2.2 c12in c12at (g := (mkF m 26 #[rv pt, iv 0, iv 0] [(.int 0), (.ref wb), (.int 0), (.ref wb)])) rfl rfl (hb hby own_d16_26) _ ?_
    show Steps p.tables e below (T9.setTop (mkF m 27 #[rv pt, iv 0, iv 0] [(.long 0), (.int 0), (.ref wb)])) _
    refine XS.lconst X9.here hx rfl (hb hby own_d16_27) ?_
    show Steps p.tables e below (T9.setTop (mkF m 28 #[rv pt, iv 0, iv 0] [(.long 1), (.long 0), (.int 0), (.ref wb)])) _
    refine XS.iloadN X9.here hx rfl (hb hby own_d16_28) rfl ?_
    show Steps p.tables e below (T9.setTop (mkF m 29 #[rv pt, iv 0, iv 0] [(.int 0), (.long 1), (.long 0), (.int 0), (.ref wb)])) _
    refine XS.lshl X9.here hx rfl (hb hby own_d16_29) rfl ?_
    show Steps p.tables e below (T9.setTop (mkF m 30 #[rv pt, iv 0, iv 0] [(.long ((1 : Int64) <<< ((0 : Int32) &&& 0x3f).toInt64)), (.long 0), (.int 0), (.ref wb)])) _
    refine own_top (v' := (.long 1)) (congrArg Value.long (by decide)) ?_
    show Steps p.tables e below (T9.setTop (mkF m 30 #[rv pt, iv 0, iv 0] [(.long 1), (.long 0), (.int 0), (.ref wb)])) _
    refine XS.lor X9.here hx rfl (hb hby own_d16_30) rfl ?_
    show Steps p.tables e below (T9.setTop (mkF m 31 #[rv pt, iv 0, iv 0] [(.long ((0 : Int64) ||| (1 : Int64))), (.int 0), (.ref wb)])) _
    refine own_top (v' := (.long 1)) (congrArg Value.long (by decide)) ?_
    show Steps p.tables e below (T9.setTop (mkF m 31 #[rv pt, iv 0, iv 0] [(.long 1), (.int 0), (.ref wb)])) _
    refine st14 _ ?_
    show Steps p.tables e below (T14.setTop (mkF m 32 #[rv pt, iv 0, iv 0] [])) _
    exact X14.returnOut hx Bd.returns (hb hby own_d16_32) hr
  · show own_pa_Q Z w_CA mr y1 y2 y3 pt pb wb k_pb k_wb h0 n0 _ T14.heap _
    rw [e14]
    exact ⟨rfl, N14, kp16, f18, V14⟩
theorem own_cp3_ef (m : MethodId) (mr : Addr) (io : Addr) : entryFrame m #[(.ref io), (.int 16), (.ref mr)] 4 = mkF m 0 #[rv io, iv 16, rv mr, .unset] [] := by first | (simp [entryFrame, mkF, argsToLocals, Value.category]; done) | rfl
def own_cp3_Q (Z : State) (w_CA : Addr) (mr : Addr) (y1 : Addr) (y2 : Addr) (y3 : Addr) (io : Addr) (k_io : ClassId) (h0 : Heap) (n0 : Nat) (v : Option Value) (h : Heap) (L : List Loc) : Prop := ∃ (b : Addr) (k_b : ClassId), v = some (.ref b) ∧ Fr n0 L ∧ Keep h0 h [] ∧ own_Nd [b] ∧ (∀ x ∈ ([b] : List Addr), h0.size ≤ x) ∧ Ovr Z k_b "java/lang/Object" ∧ Exa Z h b "[Ljava/lang/Object;" ∧ Arv Z h b k_b (.object "java/lang/Object") (16 : Int32) [.null, .null, .null, .null, .null, .null, .null, .null, .null, .null, .null, .null, .null, .null, .null, .null] .null
set_option maxRecDepth 65536 in
set_option maxHeartbeats 40000000 in
theorem own_cp3 (l : Launch) (Z : State) (a0 : Array Value) (hw : ∀ d ∈ tables_1, d.before a0 Z = true) (ws : List Jvm.Cond) (w_CA : Addr) (mr : Addr) (y1 : Addr) (y2 : Addr) (y3 : Addr) (io : Addr) (k_io : ClassId) (h0 : Heap) (n0 : Nat) (O0 : Old Z n0 h0) (S_HI : Sta Z Z.heap "java/lang/Integer$IntegerCache" "high" "I" (.int 127)) (S_CA : Sta Z Z.heap "java/lang/Integer$IntegerCache" "cache" "[Ljava/lang/Integer;" (.ref w_CA)) (M_OA : own_Mir Z "[Ljava/lang/Object;" mr) (H_y1 : own_At Z w_CA (129 : Int32) y1) (H_y2 : own_At Z w_CA (130 : Int32) y2) (H_y3 : own_At Z w_CA (131 : Int32) y3) (E_y1 : Exa Z Z.heap y1 "java/lang/Integer") (E_y2 : Exa Z Z.heap y2 "java/lang/Integer") (E_y3 : Exa Z Z.heap y3 "java/lang/Integer") (pE_io : Exa Z h0 io "[Ljava/lang/Object;") (pV_io : Arv Z h0 io k_io (.object "java/lang/Object") (0 : Int32) [] .null) :
    MetFree l (⟨"java/util/Arrays", "copyOf", "([Ljava/lang/Object;ILjava/lang/Class;)[Ljava/lang/Object;"⟩ : MethodName) (head1 (Jvm.Cond.code (⟨"java/util/Arrays", "copyOf", "([Ljava/lang/Object;ILjava/lang/Class;)[Ljava/lang/Object;"⟩ : MethodName) jdk_65_method_120_code 4 (some (.array (.object "java/lang/Object"))) :: ws) ({ frames := 1, cells := 1, slots := 16, locals := 18 } : Room)) (fun ar U => ar = #[(.ref io), (.int 16), (.ref mr)] ∧ Z.Warmed39 U.vm ∧ U.heap = h0) (fun _ _ _ _ _ => True) (fun _ U oc U' => ∃ v L, oc = .returned v ∧ own_cp3_Q Z w_CA mr y1 y2 y3 io k_io h0 n0 v U'.heap L ∧ FrameEnd U oc U' L ({ frames := 1, cells := 1, slots := 16, locals := 18 } : Room).cells ({ frames := 1, cells := 1, slots := 16, locals := 18 } : Room).slots) := by
  refine MetFree.of_bodySF (plainFor_of_name own_pn4) hisR ?_
  intro p e s m args below meth c s₁ Bd hml0 hP hK
  obtain ⟨rfl, hZ, hh⟩ := hP
  have hx := Bd.exec
  have hby := Bd.bytes
  have hml : c.maxLocals = 4 := hml0
  have hown : s.vm.findClass "java/util/Arrays" = some m.cls := findClass_of_methodNamed Bd.named
  have hnm := (name_of_methodNamed Bd.named Bd.method).1
  have X0 : Stand p l e ({ frames := 1, cells := 1, slots := 16, locals := 18 } : Room) s m #[(.ref io), (.int 16), (.ref mr)] below meth c s₁ [] 0 0 := Stand.of_body Bd
  have e0 : s₁.heap = h0 := by rw [← hh, Bd.state]; rfl
  have N0 := Fr.nil n0
  have pre0 : ∀ t, Steps p.tables e below (s₁.setTop (mkF m 0 #[rv io, iv 16, rv mr, .unset] [])) t → Steps p.tables e below (s₁.setTop (entryFrame m #[(.ref io), (.int 16), (.ref mr)] 4)) t := fun t k => castTop (own_cp3_ef m mr io) k
  have kp0 := Keep.refl h0 ([] : List Addr)
  obtain ⟨T1, X1, e1, st1⟩ := own_ldcM X0 hx hZ hown (hw _ (own_m 88 rfl)) e0 M_OA (g := (mkF m 1 #[rv io, iv 16, rv mr, .unset] [(.ref mr)])) rfl (hb hby own_d10_1)
  obtain ⟨T2, h2, k2, X2, e2, E2, A2, B2, O2, st2⟩ := newRE X1 hx hZ hown (hw _ (own_m 89 rfl)) (hw _ (own_m 12 rfl)) e1 (g := (mkF m 7 #[rv io, iv 16, rv mr, .unset] [(.int 16)])) rfl (hb hby own_d10_7) rfl (by decide) (cap := 16) (by decide) (by decide) (by decide) (by decide) (ad := "[Ljava/lang/Object;") (by first | decide +kernel | rfl)
  obtain ⟨b2, g2⟩ : ∃ z, z = h0.size := ⟨_, rfl⟩
  rw [← g2] at A2 B2 st2
  have ne_io_b2 : io ≠ b2 := Nat.ne_of_lt (g2 ▸ pE_io.lt)
  have gg_b2 : n0 ≤ b2 := g2 ▸ own_le O0
  have sz_b2 : h0.size ≤ b2 := g2 ▸ kp0.1
  have O3 := O0.ext E2
  have kp4 := kp0.ext E2
  have V_b2 : Arv Z h2 b2 k2 (.object "java/lang/Object") (16 : Int32) [.null, .null, .null, .null, .null, .null, .null, .null, .null, .null, .null, .null, .null, .null, .null, .null] .null := (Arv.new A2 (by decide)).pad (pad_rep [] .null 16)
  have f5 := (pV_io.ext E2)
  obtain ⟨c6, c6A, c6q, c6S, c6N, c6H, c6G⟩ := id f5
  obtain ⟨_, _, ⟨T7, L7, k7, n7⟩, -, X7, ⟨Lc7, hQ7, l7, y7, z7⟩, st7⟩ := Jvm.LawKit.callS X2 hx (y := (⟨"java/lang/Math", "min", "(II)I"⟩ : MethodName)) hown (mvT hZ (hw _ (own_m 90 rfl))) (mvT hZ (hw _ (own_m 91 rfl))) (mvT hZ (hw _ (own_m 74 rfl))) (mvT hZ (hw _ (own_m 92 rfl))) (by decide) (backOf (W := 4) (own_min16 l Z a0 hw [] w_CA mr y1 y2 y3  h2 n0 O3 S_HI S_CA M_OA H_y1 H_y2 H_y3 E_y1 E_y2 E_y3 ) hZ (hw _ (own_m 92 rfl)) (hw _ (own_m 74 rfl)) (by decide) (by decide)) (g := (mkF m 32 #[rv io, iv 16, rv mr, rv b2] [(.int 16), (.int 0), (.int 0), (.ref b2), (.int 0), (.ref io)])) rfl (by rw [hml]; rfl) (argsL := [(.int 0), (.int 16)]) (rest := [(.int 0), (.ref b2), (.int 0), (.ref io)]) (lenOf own_pd3 rfl) rfl (by show 2 * 0 + _ ≤ _; exact Nat.le_of_eq rfl) (hb hby own_d10_32) (fun _ _ => ⟨rfl, e2, (by decide : 1 + 0 ≤ _), (by decide : 16 + 0 ≤ _)⟩)
  dsimp only [Pt.U, Pt.locs, Pt.cells, Pt.slots] at X7 l7 y7 z7 st7 hQ7
  subst l7 y7 z7
  obtain ⟨rfl, N7q, e7⟩ := hQ7
  have N7 := Fr.app N0 N7q
  obtain ⟨T8, h8, L8, X8, e8, N8, K8, V8, st8⟩ := cpA X7 hx hZ hown (hw _ (own_m 93 rfl)) (hw _ (own_m 96 rfl)) (hw _ (own_m 94 rfl)) (hw _ (own_m 95 rfl)) e7 f5 V_b2 (us := []) (Or.inr ⟨rfl, rfl, trivial⟩) (by decide) (by decide) (by decide) (by decide) (by decide) rfl (by decide) N7 gg_b2 (g := (mkF m 35 #[rv io, iv 16, rv mr, rv b2] [(.int 0), (.int 0), (.ref b2), (.int 0), (.ref io)])) rfl (by rw [hml]; rfl) rfl (hb hby own_d10_35) (by decide) (W := 0) (by show 2 * 0 + _ ≤ _; exact Nat.le_of_eq rfl) (by decide)
  have O9 := O3.keep K8 (allS gg_b2 all0)
  have kp10 := kp4.trans K8 ((allS (P := fun x => x ∈ ([] : List Addr) ∨ h0.size ≤ x) (Or.inr sz_b2) all0))
  have Va8 : Arv Z h8 b2 k2 (.object "java/lang/Object") (16 : Int32) [.null, .null, .null, .null, .null, .null, .null, .null, .null, .null, .null, .null, .null, .null, .null, .null] .null := V8
  have f11 := (B2.keep K8)
  obtain ⟨fs, hr, hrun, hended, hW, hsame⟩ := X8.leave (v := some (.ref b2)) (fun h => by rw [Bd.returns] at h; cases h)
  refine ⟨_, _, pre0 _ ?_, hrun, hended, _, _, rfl, ?_, ⟨_, rfl⟩, hW, hsame.mono (by decide) (by decide)⟩
  · show Steps p.tables e below (s₁.setTop (mkF m 0 #[rv io, iv 16, rv mr, .unset] [])) _
    refine XS.aloadN X0.here hx rfl (hb hby own_d10_0) rfl rfl ?_
    show Steps p.tables e below (s₁.setTop (mkF m 1 #[rv io, iv 16, rv mr, .unset] [(.ref mr)])) _
    refine st1 _ ?_
    show Steps p.tables e below (T1.setTop (mkF m 3 #[rv io, iv 16, rv mr, .unset] [(.ref mr), (.ref mr)])) _
    refine Jvm.RoadKit.acmp (g := (mkF m 3 #[rv io, iv 16, rv mr, .unset] [(.ref mr), (.ref mr)])) X1 hx rfl rfl rfl (pc0 := 3) (pc' := 6) (same := true) rfl (hb hby own_d10_3) rfl (decide_eq_true rfl) (by decide) (by decide) ?_
    show Steps p.tables e below (T1.setTop (mkF m 6 #[rv io, iv 16, rv mr, .unset] [])) _
    refine XS.iloadN X1.here hx rfl (hb hby own_d10_6) rfl ?_
    show Steps p.tables e below (T1.setTop (mkF m 7 #[rv io, iv 16, rv mr, .unset] [(.int 16)])) _
    refine st2 _ ?_
    show Steps p.tables e below (T2.setTop (mkF m 10 #[rv io, iv 16, rv mr, .unset] [(.ref b2)])) _
    refine XS.goto X2.here hx rfl (pc0 := 10) (pc' := 24) rfl (hb hby own_d10_10) (by decide) (by decide) ?_
    show Steps p.tables e below (T2.setTop (mkF m 24 #[rv io, iv 16, rv mr, .unset] [(.ref b2)])) _
    refine XS.astoreN X2.here hx rfl (hb hby own_d10_24) rfl rfl (l' := #[rv io, iv 16, rv mr, rv b2]) rfl ?_
    show Steps p.tables e below (T2.setTop (mkF m 25 #[rv io, iv 16, rv mr, rv b2] [])) _
    refine XS.aloadN X2.here hx rfl (hb hby own_d10_25) rfl rfl ?_
    show Steps p.tables e below (T2.setTop (mkF m 26 #[rv io, iv 16, rv mr, rv b2] [(.ref io)])) _
    refine XS.iconst X2.here hx rfl (hb hby own_d10_26) ?_
    show Steps p.tables e below (T2.setTop (mkF m 27 #[rv io, iv 16, rv mr, rv b2] [(.int 0), (.ref io)])) _
    refine XS.aloadN X2.here hx rfl (hb hby own_d10_27) rfl rfl ?_
    show Steps p.tables e below (T2.setTop (mkF m 28 #[rv io, iv 16, rv mr, rv b2] [(.ref b2), (.int 0), (.ref io)])) _
    refine XS.iconst X2.here hx rfl (hb hby own_d10_28) ?_
    show Steps p.tables e below (T2.setTop (mkF m 29 #[rv io, iv 16, rv mr, rv b2] [(.int 0), (.ref b2), (.int 0), (.ref io)])) _
    refine XS.aloadN X2.here hx rfl (hb hby own_d10_29) rfl rfl ?_
    show Steps p.tables e below (T2.setTop (mkF m 30 #[rv io, iv 16, rv mr, rv b2] [(.ref io), (.int 0), (.ref b2), (.int 0), (.ref io)])) _
    refine X2.arraylength hx (by rw [e2]; exact c6A.1) (State.isArrayOf_alike hZ.alike c6A.2.1) (g := (mkF m 30 #[rv io, iv 16, rv mr, rv b2] [(.ref io), (.int 0), (.ref b2), (.int 0), (.ref io)])) rfl rfl (hb hby own_d10_30) _ ?_
    rw [len_of c6S c6N]
    show Steps p.tables e below (T2.setTop (mkF m 31 #[rv io, iv 16, rv mr, rv b2] [(.int 0), (.int 0), (.ref b2), (.int 0), (.ref io)])) _
    refine XS.iloadN X2.here hx rfl (hb hby own_d10_31) rfl ?_
    show Steps p.tables e below (T2.setTop (mkF m 32 #[rv io, iv 16, rv mr, rv b2] [(.int 16), (.int 0), (.int 0), (.ref b2), (.int 0), (.ref io)])) _
    refine st7 _ ?_
    show Steps p.tables e below (T7.setTop (mkF m 35 #[rv io, iv 16, rv mr, rv b2] [(.int 0), (.int 0), (.ref b2), (.int 0), (.ref io)])) _
    refine st8 _ ?_
    show Steps p.tables e below (T8.setTop (mkF m 38 #[rv io, iv 16, rv mr, rv b2] [])) _
    refine XS.aloadN X8.here hx rfl (hb hby own_d10_38) rfl rfl ?_
    show Steps p.tables e below (T8.setTop (mkF m 39 #[rv io, iv 16, rv mr, rv b2] [(.ref b2)])) _
    jvm_step X8.here [X8.here.top, hx, (hb hby own_d10_39), X8.method', Bd.returns, Value.isRef, FieldType.isReference]
    first | (intro acts; rw [hr _ acts rfl rfl rfl]) | rw [hr _ _ rfl rfl rfl]
    exact Steps.refl _
  · show own_cp3_Q Z w_CA mr y1 y2 y3 io k_io h0 n0 _ T8.heap _
    rw [e8]
    exact ⟨b2, k2, rfl, N8, kp10, (own_ndc all0 own_nd0), (allS sz_b2 all0), O2, f11, Va8⟩
theorem own_cp2_ef (m : MethodId) (io : Addr) : entryFrame m #[(.ref io), (.int 16)] 2 = mkF m 0 #[rv io, iv 16] [] := by first | (simp [entryFrame, mkF, argsToLocals, Value.category]; done) | rfl
def own_cp2_Q (Z : State) (w_CA : Addr) (mr : Addr) (y1 : Addr) (y2 : Addr) (y3 : Addr) (io : Addr) (k_io : ClassId) (h0 : Heap) (n0 : Nat) (v : Option Value) (h : Heap) (L : List Loc) : Prop := ∃ (b : Addr) (k_b : ClassId), v = some (.ref b) ∧ Fr n0 L ∧ Keep h0 h [] ∧ own_Nd [b] ∧ (∀ x ∈ ([b] : List Addr), h0.size ≤ x) ∧ Ovr Z k_b "java/lang/Object" ∧ Exa Z h b "[Ljava/lang/Object;" ∧ Arv Z h b k_b (.object "java/lang/Object") (16 : Int32) [.null, .null, .null, .null, .null, .null, .null, .null, .null, .null, .null, .null, .null, .null, .null, .null] .null
set_option maxRecDepth 65536 in
set_option maxHeartbeats 40000000 in
theorem own_cp2 (l : Launch) (Z : State) (a0 : Array Value) (hw : ∀ d ∈ tables_1, d.before a0 Z = true) (ws : List Jvm.Cond) (w_CA : Addr) (mr : Addr) (y1 : Addr) (y2 : Addr) (y3 : Addr) (io : Addr) (k_io : ClassId) (h0 : Heap) (n0 : Nat) (O0 : Old Z n0 h0) (S_HI : Sta Z Z.heap "java/lang/Integer$IntegerCache" "high" "I" (.int 127)) (S_CA : Sta Z Z.heap "java/lang/Integer$IntegerCache" "cache" "[Ljava/lang/Integer;" (.ref w_CA)) (M_OA : own_Mir Z "[Ljava/lang/Object;" mr) (H_y1 : own_At Z w_CA (129 : Int32) y1) (H_y2 : own_At Z w_CA (130 : Int32) y2) (H_y3 : own_At Z w_CA (131 : Int32) y3) (E_y1 : Exa Z Z.heap y1 "java/lang/Integer") (E_y2 : Exa Z Z.heap y2 "java/lang/Integer") (E_y3 : Exa Z Z.heap y3 "java/lang/Integer") (pE_io : Exa Z h0 io "[Ljava/lang/Object;") (pV_io : Arv Z h0 io k_io (.object "java/lang/Object") (0 : Int32) [] .null) :
    MetFree l (⟨"java/util/Arrays", "copyOf", "([Ljava/lang/Object;I)[Ljava/lang/Object;"⟩ : MethodName) (head1 (Jvm.Cond.code (⟨"java/util/Arrays", "copyOf", "([Ljava/lang/Object;I)[Ljava/lang/Object;"⟩ : MethodName) jdk_65_method_119_code 2 (some (.array (.object "java/lang/Object"))) :: ws) ({ frames := 2, cells := 1, slots := 16, locals := 33 } : Room)) (fun ar U => ar = #[(.ref io), (.int 16)] ∧ Z.Warmed39 U.vm ∧ U.heap = h0) (fun _ _ _ _ _ => True) (fun _ U oc U' => ∃ v L, oc = .returned v ∧ own_cp2_Q Z w_CA mr y1 y2 y3 io k_io h0 n0 v U'.heap L ∧ FrameEnd U oc U' L ({ frames := 2, cells := 1, slots := 16, locals := 33 } : Room).cells ({ frames := 2, cells := 1, slots := 16, locals := 33 } : Room).slots) := by
  refine MetFree.of_bodySF (plainFor_of_name own_pn4) hisR ?_
  intro p e s m args below meth c s₁ Bd hml0 hP hK
  obtain ⟨rfl, hZ, hh⟩ := hP
  have hx := Bd.exec
  have hby := Bd.bytes
  have hml : c.maxLocals = 2 := hml0
  have hown : s.vm.findClass "java/util/Arrays" = some m.cls := findClass_of_methodNamed Bd.named
  have hnm := (name_of_methodNamed Bd.named Bd.method).1
  have X0 : Stand p l e ({ frames := 2, cells := 1, slots := 16, locals := 33 } : Room) s m #[(.ref io), (.int 16)] below meth c s₁ [] 0 0 := Stand.of_body Bd
  have e0 : s₁.heap = h0 := by rw [← hh, Bd.state]; rfl
  have N0 := Fr.nil n0
  have pre0 : ∀ t, Steps p.tables e below (s₁.setTop (mkF m 0 #[rv io, iv 16] [])) t → Steps p.tables e below (s₁.setTop (entryFrame m #[(.ref io), (.int 16)] 2)) t := fun t k => castTop (own_cp2_ef m io) k
  have kp0 := Keep.refl h0 ([] : List Addr)
  obtain ⟨T1, X1, e1, st1⟩ := own_gcls X0 hx hZ hown (hw _ (own_m 80 rfl)) (hw _ (own_m 81 rfl)) (hw _ (own_m 83 rfl)) (hw _ (own_m 82 rfl)) (hw _ (own_m 84 rfl)) e0 pE_io M_OA (g := (mkF m 3 #[rv io, iv 16] [(.ref io), (.int 16), (.ref io)])) rfl (by rw [hml]; rfl) rfl (hb hby own_d9_3) (by decide) (W := 2) (by show 2 * 0 + _ ≤ _; exact Nat.le_of_eq rfl) (by decide)
  obtain ⟨_, _, ⟨T2, L2, k2, n2⟩, -, X2, ⟨Lc2, hQ2, l2, y2, z2⟩, st2⟩ := Jvm.LawKit.callS X1 hx (y := (⟨"java/util/Arrays", "copyOf", "([Ljava/lang/Object;ILjava/lang/Class;)[Ljava/lang/Object;"⟩ : MethodName)) hown (mvT hZ (hw _ (own_m 85 rfl))) (mvT hZ (hw _ (own_m 86 rfl))) (mvT hZ (hw _ (own_m 78 rfl))) (mvT hZ (hw _ (own_m 87 rfl))) (by decide) (backOf (W := 0) (own_cp3 l Z a0 hw [] w_CA mr y1 y2 y3 io k_io h0 n0 O0 S_HI S_CA M_OA H_y1 H_y2 H_y3 E_y1 E_y2 E_y3 pE_io pV_io) hZ (hw _ (own_m 87 rfl)) (hw _ (own_m 78 rfl)) (by decide) (by decide)) (g := (mkF m 6 #[rv io, iv 16] [(.ref mr), (.int 16), (.ref io)])) rfl (by rw [hml]; rfl) (argsL := [(.ref io), (.int 16), (.ref mr)]) (rest := []) (lenOf own_pd4 rfl) rfl (by show 2 * 0 + _ ≤ _; exact Nat.le_of_eq rfl) (hb hby own_d9_6) (fun _ _ => ⟨rfl, e1, (by decide : 0 + 1 ≤ _), (by decide : 0 + 16 ≤ _)⟩)
  dsimp only [Pt.U, Pt.locs, Pt.cells, Pt.slots] at X2 l2 y2 z2 st2 hQ2
  subst l2 y2 z2
  obtain ⟨bb, k_bb, rfl, N2q, K2, nd2, sz2, O_bb, q3, q4⟩ := hQ2
  have N2 := Fr.app N0 N2q
  have ne_io_bb : io ≠ bb := Nat.ne_of_lt (Nat.lt_of_lt_of_le pE_io.lt (sz2 _ (own_m 0 rfl)))
  have gg_bb : n0 ≤ bb := Nat.le_trans (own_le O0) (sz2 _ (own_m 0 rfl))
  have sz_bb : h0.size ≤ bb := Nat.le_trans kp0.1 (sz2 _ (own_m 0 rfl))
  have O5 := O0.keep K2 all0
  have kp6 := kp0.trans K2 (all0)
  obtain ⟨fs, hr, hrun, hended, hW, hsame⟩ := X2.leave (v := some (.ref bb)) (fun h => by rw [Bd.returns] at h; cases h)
  refine ⟨_, _, pre0 _ ?_, hrun, hended, _, _, rfl, ?_, ⟨_, rfl⟩, hW, hsame.mono (by decide) (by decide)⟩
  · show Steps p.tables e below (s₁.setTop (mkF m 0 #[rv io, iv 16] [])) _
    refine XS.aloadN X0.here hx rfl (hb hby own_d9_0) rfl rfl ?_
    show Steps p.tables e below (s₁.setTop (mkF m 1 #[rv io, iv 16] [(.ref io)])) _
    refine XS.iloadN X0.here hx rfl (hb hby own_d9_1) rfl ?_
    show Steps p.tables e below (s₁.setTop (mkF m 2 #[rv io, iv 16] [(.int 16), (.ref io)])) _
    refine XS.aloadN X0.here hx rfl (hb hby own_d9_2) rfl rfl ?_
    show Steps p.tables e below (s₁.setTop (mkF m 3 #[rv io, iv 16] [(.ref io), (.int 16), (.ref io)])) _
    refine st1 _ ?_
    show Steps p.tables e below (T1.setTop (mkF m 6 #[rv io, iv 16] [(.ref mr), (.int 16), (.ref io)])) _
    refine st2 _ ?_
    show Steps p.tables e below (T2.setTop (mkF m 9 #[rv io, iv 16] [(.ref bb)])) _
    jvm_step X2.here [X2.here.top, hx, (hb hby own_d9_9), X2.method', Bd.returns, Value.isRef, FieldType.isReference]
    first | (intro acts; rw [hr _ acts rfl rfl rfl]) | rw [hr _ _ rfl rfl rfl]
    exact Steps.refl _
  · show own_cp2_Q Z w_CA mr y1 y2 y3 io k_io h0 n0 _ T2.heap _
    exact ⟨bb, k_bb, rfl, N2, kp6, nd2, (allS sz_bb all0), O_bb, q3, q4⟩
theorem own_cpl_ef (m : MethodId) (lo : Addr) : entryFrame m #[(.ref lo), (.int 16)] 3 = mkF m 0 #[rv lo, iv 16, .unset] [] := by first | (simp [entryFrame, mkF, argsToLocals, Value.category]; done) | rfl
def own_cpl_Q (Z : State) (w_CA : Addr) (mr : Addr) (y1 : Addr) (y2 : Addr) (y3 : Addr) (lo : Addr) (k_lo : ClassId) (h0 : Heap) (n0 : Nat) (v : Option Value) (h : Heap) (L : List Loc) : Prop := ∃ (b : Addr) (k_b : ClassId), v = some (.ref b) ∧ Fr n0 L ∧ Keep h0 h [] ∧ own_Nd [b] ∧ (∀ x ∈ ([b] : List Addr), h0.size ≤ x) ∧ Exa Z h b "[J" ∧ Arv Z h b k_b .long (16 : Int32) [(.long 0), (.long 0), (.long 0), (.long 0), (.long 0), (.long 0), (.long 0), (.long 0), (.long 0), (.long 0), (.long 0), (.long 0), (.long 0), (.long 0), (.long 0), (.long 0)] (.long 0)
set_option maxRecDepth 65536 in
set_option maxHeartbeats 40000000 in
theorem own_cpl (l : Launch) (Z : State) (a0 : Array Value) (hw : ∀ d ∈ tables_1, d.before a0 Z = true) (ws : List Jvm.Cond) (w_CA : Addr) (mr : Addr) (y1 : Addr) (y2 : Addr) (y3 : Addr) (lo : Addr) (k_lo : ClassId) (h0 : Heap) (n0 : Nat) (O0 : Old Z n0 h0) (S_HI : Sta Z Z.heap "java/lang/Integer$IntegerCache" "high" "I" (.int 127)) (S_CA : Sta Z Z.heap "java/lang/Integer$IntegerCache" "cache" "[Ljava/lang/Integer;" (.ref w_CA)) (M_OA : own_Mir Z "[Ljava/lang/Object;" mr) (H_y1 : own_At Z w_CA (129 : Int32) y1) (H_y2 : own_At Z w_CA (130 : Int32) y2) (H_y3 : own_At Z w_CA (131 : Int32) y3) (E_y1 : Exa Z Z.heap y1 "java/lang/Integer") (E_y2 : Exa Z Z.heap y2 "java/lang/Integer") (E_y3 : Exa Z Z.heap y3 "java/lang/Integer") (pV_lo : Arv Z h0 lo k_lo .long (0 : Int32) [] (.long 0)) :
    MetFree l (⟨"java/util/Arrays", "copyOf", "([JI)[J"⟩ : MethodName) (head1 (Jvm.Cond.code (⟨"java/util/Arrays", "copyOf", "([JI)[J"⟩ : MethodName) jdk_65_method_124_code 3 (some (.array .long)) :: ws) ({ frames := 1, cells := 1, slots := 16, locals := 18 } : Room)) (fun ar U => ar = #[(.ref lo), (.int 16)] ∧ Z.Warmed39 U.vm ∧ U.heap = h0) (fun _ _ _ _ _ => True) (fun _ U oc U' => ∃ v L, oc = .returned v ∧ own_cpl_Q Z w_CA mr y1 y2 y3 lo k_lo h0 n0 v U'.heap L ∧ FrameEnd U oc U' L ({ frames := 1, cells := 1, slots := 16, locals := 18 } : Room).cells ({ frames := 1, cells := 1, slots := 16, locals := 18 } : Room).slots) := by
  refine MetFree.of_bodySF (plainFor_of_name own_pn4) hisR ?_
  intro p e s m args below meth c s₁ Bd hml0 hP hK
  obtain ⟨rfl, hZ, hh⟩ := hP
  have hx := Bd.exec
  have hby := Bd.bytes
  have hml : c.maxLocals = 3 := hml0
  have hown : s.vm.findClass "java/util/Arrays" = some m.cls := findClass_of_methodNamed Bd.named
  have hnm := (name_of_methodNamed Bd.named Bd.method).1
  have X0 : Stand p l e ({ frames := 1, cells := 1, slots := 16, locals := 18 } : Room) s m #[(.ref lo), (.int 16)] below meth c s₁ [] 0 0 := Stand.of_body Bd
  have e0 : s₁.heap = h0 := by rw [← hh, Bd.state]; rfl
  have N0 := Fr.nil n0
  have pre0 : ∀ t, Steps p.tables e below (s₁.setTop (mkF m 0 #[rv lo, iv 16, .unset] [])) t → Steps p.tables e below (s₁.setTop (entryFrame m #[(.ref lo), (.int 16)] 3)) t := fun t k => castTop (own_cpl_ef m lo) k
  have kp0 := Keep.refl h0 ([] : List Addr)
  obtain ⟨c1, c1A, c1q, c1S, c1N, c1H, c1G⟩ := id pV_lo
  obtain ⟨T2, h2, k2, X2, e2, E2, A2, B2, st2⟩ := newPE X0 hx hZ (hw _ (own_m 18 rfl)) e0 (g := (mkF m 15 #[rv lo, iv 16, .unset] [(.int 16)])) rfl (hb hby own_d12_15) rfl (by decide) (cap := 16) (by decide) (by decide) (by decide) (by decide) (ad := "[J") (by first | decide +kernel | rfl)
  obtain ⟨b2, g2⟩ : ∃ z, z = h0.size := ⟨_, rfl⟩
  rw [← g2] at A2 B2 st2
  have ne_lo_b2 : lo ≠ b2 := Nat.ne_of_lt (g2 ▸ pV_lo.lt)
  have gg_b2 : n0 ≤ b2 := g2 ▸ own_le O0
  have sz_b2 : h0.size ≤ b2 := g2 ▸ kp0.1
  have O3 := O0.ext E2
  have kp4 := kp0.ext E2
  have V_b2 : Arv Z h2 b2 k2 .long (16 : Int32) [(.long 0), (.long 0), (.long 0), (.long 0), (.long 0), (.long 0), (.long 0), (.long 0), (.long 0), (.long 0), (.long 0), (.long 0), (.long 0), (.long 0), (.long 0), (.long 0)] (.long 0) := (Arv.new A2 (by decide)).pad (pad_rep [] (.long 0) 16)
  have f5 := (pV_lo.ext E2)
  obtain ⟨c6, c6A, c6q, c6S, c6N, c6H, c6G⟩ := id f5
  obtain ⟨_, _, ⟨T7, L7, k7, n7⟩, -, X7, ⟨Lc7, hQ7, l7, y7, z7⟩, st7⟩ := Jvm.LawKit.callS X2 hx (y := (⟨"java/lang/Math", "min", "(II)I"⟩ : MethodName)) hown (mvT hZ (hw _ (own_m 90 rfl))) (mvT hZ (hw _ (own_m 91 rfl))) (mvT hZ (hw _ (own_m 74 rfl))) (mvT hZ (hw _ (own_m 92 rfl))) (by decide) (backOf (W := 4) (own_min16 l Z a0 hw [] w_CA mr y1 y2 y3  h2 n0 O3 S_HI S_CA M_OA H_y1 H_y2 H_y3 E_y1 E_y2 E_y3 ) hZ (hw _ (own_m 92 rfl)) (hw _ (own_m 74 rfl)) (by decide) (by decide)) (g := (mkF m 25 #[rv lo, iv 16, rv b2] [(.int 16), (.int 0), (.int 0), (.ref b2), (.int 0), (.ref lo)])) rfl (by rw [hml]; rfl) (argsL := [(.int 0), (.int 16)]) (rest := [(.int 0), (.ref b2), (.int 0), (.ref lo)]) (lenOf own_pd3 rfl) rfl (by show 2 * 0 + _ ≤ _; exact Nat.le_of_eq rfl) (hb hby own_d12_25) (fun _ _ => ⟨rfl, e2, (by decide : 1 + 0 ≤ _), (by decide : 16 + 0 ≤ _)⟩)
  dsimp only [Pt.U, Pt.locs, Pt.cells, Pt.slots] at X7 l7 y7 z7 st7 hQ7
  subst l7 y7 z7
  obtain ⟨rfl, N7q, e7⟩ := hQ7
  have N7 := Fr.app N0 N7q
  obtain ⟨T8, h8, L8, X8, e8, N8, K8, V8, st8⟩ := cpA X7 hx hZ hown (hw _ (own_m 93 rfl)) (hw _ (own_m 96 rfl)) (hw _ (own_m 94 rfl)) (hw _ (own_m 95 rfl)) e7 f5 V_b2 (us := []) (Or.inl ⟨rfl, rfl⟩) (by decide) (by decide) (by decide) (by decide) (by decide) rfl (by decide) N7 gg_b2 (g := (mkF m 28 #[rv lo, iv 16, rv b2] [(.int 0), (.int 0), (.ref b2), (.int 0), (.ref lo)])) rfl (by rw [hml]; rfl) rfl (hb hby own_d12_28) (by decide) (W := 0) (by show 2 * 0 + _ ≤ _; exact Nat.le_of_eq rfl) (by decide)
  have O9 := O3.keep K8 (allS gg_b2 all0)
  have kp10 := kp4.trans K8 ((allS (P := fun x => x ∈ ([] : List Addr) ∨ h0.size ≤ x) (Or.inr sz_b2) all0))
  have Va8 : Arv Z h8 b2 k2 .long (16 : Int32) [(.long 0), (.long 0), (.long 0), (.long 0), (.long 0), (.long 0), (.long 0), (.long 0), (.long 0), (.long 0), (.long 0), (.long 0), (.long 0), (.long 0), (.long 0), (.long 0)] (.long 0) := V8
  have f11 := (B2.keep K8)
  obtain ⟨fs, hr, hrun, hended, hW, hsame⟩ := X8.leave (v := some (.ref b2)) (fun h => by rw [Bd.returns] at h; cases h)
  refine ⟨_, _, pre0 _ ?_, hrun, hended, _, _, rfl, ?_, ⟨_, rfl⟩, hW, hsame.mono (by decide) (by decide)⟩
  · show Steps p.tables e below (s₁.setTop (mkF m 0 #[rv lo, iv 16, .unset] [])) _
    refine XS.iloadN X0.here hx rfl (hb hby own_d12_0) rfl ?_
    show Steps p.tables e below (s₁.setTop (mkF m 1 #[rv lo, iv 16, .unset] [(.int 16)])) _
    refine XS.aloadN X0.here hx rfl (hb hby own_d12_1) rfl rfl ?_
    show Steps p.tables e below (s₁.setTop (mkF m 2 #[rv lo, iv 16, .unset] [(.ref lo), (.int 16)])) _
    refine X0.arraylength hx (by rw [e0]; exact c1A.1) (State.isArrayOf_alike hZ.alike c1A.2.1) (g := (mkF m 2 #[rv lo, iv 16, .unset] [(.ref lo), (.int 16)])) rfl rfl (hb hby own_d12_2) _ ?_
    rw [len_of c1S c1N]
    show Steps p.tables e below (s₁.setTop (mkF m 3 #[rv lo, iv 16, .unset] [(.int 0), (.int 16)])) _
    refine XS.icmpYes X0.here hx rfl (pc0 := 3) (pc' := 14) rfl (hb hby own_d12_3) rfl (feq (by decide)).2 (by decide) (by decide) ?_
    show Steps p.tables e below (s₁.setTop (mkF m 14 #[rv lo, iv 16, .unset] [])) _
    refine XS.iloadN X0.here hx rfl (hb hby own_d12_14) rfl ?_
    show Steps p.tables e below (s₁.setTop (mkF m 15 #[rv lo, iv 16, .unset] [(.int 16)])) _
    refine st2 _ ?_
    show Steps p.tables e below (T2.setTop (mkF m 17 #[rv lo, iv 16, .unset] [(.ref b2)])) _
    refine XS.astoreN X2.here hx rfl (hb hby own_d12_17) rfl rfl (l' := #[rv lo, iv 16, rv b2]) rfl ?_
    show Steps p.tables e below (T2.setTop (mkF m 18 #[rv lo, iv 16, rv b2] [])) _
    refine XS.aloadN X2.here hx rfl (hb hby own_d12_18) rfl rfl ?_
    show Steps p.tables e below (T2.setTop (mkF m 19 #[rv lo, iv 16, rv b2] [(.ref lo)])) _
    refine XS.iconst X2.here hx rfl (hb hby own_d12_19) ?_
    show Steps p.tables e below (T2.setTop (mkF m 20 #[rv lo, iv 16, rv b2] [(.int 0), (.ref lo)])) _
    refine XS.aloadN X2.here hx rfl (hb hby own_d12_20) rfl rfl ?_
    show Steps p.tables e below (T2.setTop (mkF m 21 #[rv lo, iv 16, rv b2] [(.ref b2), (.int 0), (.ref lo)])) _
    refine XS.iconst X2.here hx rfl (hb hby own_d12_21) ?_
    show Steps p.tables e below (T2.setTop (mkF m 22 #[rv lo, iv 16, rv b2] [(.int 0), (.ref b2), (.int 0), (.ref lo)])) _
    refine XS.aloadN X2.here hx rfl (hb hby own_d12_22) rfl rfl ?_
    show Steps p.tables e below (T2.setTop (mkF m 23 #[rv lo, iv 16, rv b2] [(.ref lo), (.int 0), (.ref b2), (.int 0), (.ref lo)])) _
    refine X2.arraylength hx (by rw [e2]; exact c6A.1) (State.isArrayOf_alike hZ.alike c6A.2.1) (g := (mkF m 23 #[rv lo, iv 16, rv b2] [(.ref lo), (.int 0), (.ref b2), (.int 0), (.ref lo)])) rfl rfl (hb hby own_d12_23) _ ?_
    rw [len_of c6S c6N]
    show Steps p.tables e below (T2.setTop (mkF m 24 #[rv lo, iv 16, rv b2] [(.int 0), (.int 0), (.ref b2), (.int 0), (.ref lo)])) _
    refine XS.iloadN X2.here hx rfl (hb hby own_d12_24) rfl ?_
    show Steps p.tables e below (T2.setTop (mkF m 25 #[rv lo, iv 16, rv b2] [(.int 16), (.int 0), (.int 0), (.ref b2), (.int 0), (.ref lo)])) _
    refine st7 _ ?_
    show Steps p.tables e below (T7.setTop (mkF m 28 #[rv lo, iv 16, rv b2] [(.int 0), (.int 0), (.ref b2), (.int 0), (.ref lo)])) _
    refine st8 _ ?_
    show Steps p.tables e below (T8.setTop (mkF m 31 #[rv lo, iv 16, rv b2] [])) _
    refine XS.aloadN X8.here hx rfl (hb hby own_d12_31) rfl rfl ?_
    show Steps p.tables e below (T8.setTop (mkF m 32 #[rv lo, iv 16, rv b2] [(.ref b2)])) _
    jvm_step X8.here [X8.here.top, hx, (hb hby own_d12_32), X8.method', Bd.returns, Value.isRef, FieldType.isReference]
    first | (intro acts; rw [hr _ acts rfl rfl rfl]) | rw [hr _ _ rfl rfl rfl]
    exact Steps.refl _
  · show own_cpl_Q Z w_CA mr y1 y2 y3 lo k_lo h0 n0 _ T8.heap _
    rw [e8]
    exact ⟨b2, k2, rfl, N8, kp10, (own_ndc all0 own_nd0), (allS sz_b2 all0), f11, Va8⟩
theorem own_cpi_ef (m : MethodId) (li : Addr) : entryFrame m #[(.ref li), (.int 64)] 3 = mkF m 0 #[rv li, iv 64, .unset] [] := by first | (simp [entryFrame, mkF, argsToLocals, Value.category]; done) | rfl
def own_cpi_Q (Z : State) (w_CA : Addr) (mr : Addr) (y1 : Addr) (y2 : Addr) (y3 : Addr) (li : Addr) (k_li : ClassId) (h0 : Heap) (n0 : Nat) (v : Option Value) (h : Heap) (L : List Loc) : Prop := ∃ (b : Addr) (k_b : ClassId), v = some (.ref b) ∧ Fr n0 L ∧ Keep h0 h [] ∧ own_Nd [b] ∧ (∀ x ∈ ([b] : List Addr), h0.size ≤ x) ∧ Exa Z h b "[I" ∧ Arv Z h b k_b .int (64 : Int32) [(.int 0), (.int 0), (.int 0), (.int 0), (.int 0), (.int 0), (.int 0), (.int 0), (.int 0), (.int 0), (.int 0), (.int 0), (.int 0), (.int 0), (.int 0), (.int 0), (.int 0), (.int 0), (.int 0), (.int 0), (.int 0), (.int 0), (.int 0), (.int 0), (.int 0), (.int 0), (.int 0), (.int 0), (.int 0), (.int 0), (.int 0), (.int 0), (.int 0), (.int 0), (.int 0), (.int 0), (.int 0), (.int 0), (.int 0), (.int 0), (.int 0), (.int 0), (.int 0), (.int 0), (.int 0), (.int 0), (.int 0), (.int 0), (.int 0), (.int 0), (.int 0), (.int 0), (.int 0), (.int 0), (.int 0), (.int 0), (.int 0), (.int 0), (.int 0), (.int 0), (.int 0), (.int 0), (.int 0), (.int 0)] (.int 0)
set_option maxRecDepth 65536 in
set_option maxHeartbeats 40000000 in
theorem own_cpi (l : Launch) (Z : State) (a0 : Array Value) (hw : ∀ d ∈ tables_1, d.before a0 Z = true) (ws : List Jvm.Cond) (w_CA : Addr) (mr : Addr) (y1 : Addr) (y2 : Addr) (y3 : Addr) (li : Addr) (k_li : ClassId) (h0 : Heap) (n0 : Nat) (O0 : Old Z n0 h0) (S_HI : Sta Z Z.heap "java/lang/Integer$IntegerCache" "high" "I" (.int 127)) (S_CA : Sta Z Z.heap "java/lang/Integer$IntegerCache" "cache" "[Ljava/lang/Integer;" (.ref w_CA)) (M_OA : own_Mir Z "[Ljava/lang/Object;" mr) (H_y1 : own_At Z w_CA (129 : Int32) y1) (H_y2 : own_At Z w_CA (130 : Int32) y2) (H_y3 : own_At Z w_CA (131 : Int32) y3) (E_y1 : Exa Z Z.heap y1 "java/lang/Integer") (E_y2 : Exa Z Z.heap y2 "java/lang/Integer") (E_y3 : Exa Z Z.heap y3 "java/lang/Integer") (pV_li : Arv Z h0 li k_li .int (0 : Int32) [] (.int 0)) :
    MetFree l (⟨"java/util/Arrays", "copyOf", "([II)[I"⟩ : MethodName) (head1 (Jvm.Cond.code (⟨"java/util/Arrays", "copyOf", "([II)[I"⟩ : MethodName) jdk_65_method_123_code 3 (some (.array .int)) :: ws) ({ frames := 1, cells := 1, slots := 64, locals := 18 } : Room)) (fun ar U => ar = #[(.ref li), (.int 64)] ∧ Z.Warmed39 U.vm ∧ U.heap = h0) (fun _ _ _ _ _ => True) (fun _ U oc U' => ∃ v L, oc = .returned v ∧ own_cpi_Q Z w_CA mr y1 y2 y3 li k_li h0 n0 v U'.heap L ∧ FrameEnd U oc U' L ({ frames := 1, cells := 1, slots := 64, locals := 18 } : Room).cells ({ frames := 1, cells := 1, slots := 64, locals := 18 } : Room).slots) := by
  refine MetFree.of_bodySF (plainFor_of_name own_pn4) hisR ?_
  intro p e s m args below meth c s₁ Bd hml0 hP hK
  obtain ⟨rfl, hZ, hh⟩ := hP
  have hx := Bd.exec
  have hby := Bd.bytes
  have hml : c.maxLocals = 3 := hml0
  have hown : s.vm.findClass "java/util/Arrays" = some m.cls := findClass_of_methodNamed Bd.named
  have hnm := (name_of_methodNamed Bd.named Bd.method).1
  have X0 : Stand p l e ({ frames := 1, cells := 1, slots := 64, locals := 18 } : Room) s m #[(.ref li), (.int 64)] below meth c s₁ [] 0 0 := Stand.of_body Bd
  have e0 : s₁.heap = h0 := by rw [← hh, Bd.state]; rfl
  have N0 := Fr.nil n0
  have pre0 : ∀ t, Steps p.tables e below (s₁.setTop (mkF m 0 #[rv li, iv 64, .unset] [])) t → Steps p.tables e below (s₁.setTop (entryFrame m #[(.ref li), (.int 64)] 3)) t := fun t k => castTop (own_cpi_ef m li) k
  have kp0 := Keep.refl h0 ([] : List Addr)
  obtain ⟨c1, c1A, c1q, c1S, c1N, c1H, c1G⟩ := id pV_li
  obtain ⟨T2, h2, k2, X2, e2, E2, A2, B2, st2⟩ := newPE X0 hx hZ (hw _ (own_m 24 rfl)) e0 (g := (mkF m 15 #[rv li, iv 64, .unset] [(.int 64)])) rfl (hb hby own_d13_15) rfl (by decide) (cap := 64) (by decide) (by decide) (by decide) (by decide) (ad := "[I") (by first | decide +kernel | rfl)
  obtain ⟨b2, g2⟩ : ∃ z, z = h0.size := ⟨_, rfl⟩
  rw [← g2] at A2 B2 st2
  have ne_li_b2 : li ≠ b2 := Nat.ne_of_lt (g2 ▸ pV_li.lt)
  have gg_b2 : n0 ≤ b2 := g2 ▸ own_le O0
  have sz_b2 : h0.size ≤ b2 := g2 ▸ kp0.1
  have O3 := O0.ext E2
  have kp4 := kp0.ext E2
  have V_b2 : Arv Z h2 b2 k2 .int (64 : Int32) [(.int 0), (.int 0), (.int 0), (.int 0), (.int 0), (.int 0), (.int 0), (.int 0), (.int 0), (.int 0), (.int 0), (.int 0), (.int 0), (.int 0), (.int 0), (.int 0), (.int 0), (.int 0), (.int 0), (.int 0), (.int 0), (.int 0), (.int 0), (.int 0), (.int 0), (.int 0), (.int 0), (.int 0), (.int 0), (.int 0), (.int 0), (.int 0), (.int 0), (.int 0), (.int 0), (.int 0), (.int 0), (.int 0), (.int 0), (.int 0), (.int 0), (.int 0), (.int 0), (.int 0), (.int 0), (.int 0), (.int 0), (.int 0), (.int 0), (.int 0), (.int 0), (.int 0), (.int 0), (.int 0), (.int 0), (.int 0), (.int 0), (.int 0), (.int 0), (.int 0), (.int 0), (.int 0), (.int 0), (.int 0)] (.int 0) := (Arv.new A2 (by decide)).pad (pad_rep [] (.int 0) 64)
  have f5 := (pV_li.ext E2)
  obtain ⟨c6, c6A, c6q, c6S, c6N, c6H, c6G⟩ := id f5
  obtain ⟨_, _, ⟨T7, L7, k7, n7⟩, -, X7, ⟨Lc7, hQ7, l7, y7, z7⟩, st7⟩ := Jvm.LawKit.callS X2 hx (y := (⟨"java/lang/Math", "min", "(II)I"⟩ : MethodName)) hown (mvT hZ (hw _ (own_m 90 rfl))) (mvT hZ (hw _ (own_m 91 rfl))) (mvT hZ (hw _ (own_m 74 rfl))) (mvT hZ (hw _ (own_m 92 rfl))) (by decide) (backOf (W := 4) (own_min64 l Z a0 hw [] w_CA mr y1 y2 y3  h2 n0 O3 S_HI S_CA M_OA H_y1 H_y2 H_y3 E_y1 E_y2 E_y3 ) hZ (hw _ (own_m 92 rfl)) (hw _ (own_m 74 rfl)) (by decide) (by decide)) (g := (mkF m 25 #[rv li, iv 64, rv b2] [(.int 64), (.int 0), (.int 0), (.ref b2), (.int 0), (.ref li)])) rfl (by rw [hml]; rfl) (argsL := [(.int 0), (.int 64)]) (rest := [(.int 0), (.ref b2), (.int 0), (.ref li)]) (lenOf own_pd3 rfl) rfl (by show 2 * 0 + _ ≤ _; exact Nat.le_of_eq rfl) (hb hby own_d13_25) (fun _ _ => ⟨rfl, e2, (by decide : 1 + 0 ≤ _), (by decide : 64 + 0 ≤ _)⟩)
  dsimp only [Pt.U, Pt.locs, Pt.cells, Pt.slots] at X7 l7 y7 z7 st7 hQ7
  subst l7 y7 z7
  obtain ⟨rfl, N7q, e7⟩ := hQ7
  have N7 := Fr.app N0 N7q
  obtain ⟨T8, h8, L8, X8, e8, N8, K8, V8, st8⟩ := cpA X7 hx hZ hown (hw _ (own_m 93 rfl)) (hw _ (own_m 96 rfl)) (hw _ (own_m 94 rfl)) (hw _ (own_m 95 rfl)) e7 f5 V_b2 (us := []) (Or.inl ⟨rfl, rfl⟩) (by decide) (by decide) (by decide) (by decide) (by decide) rfl (by decide) N7 gg_b2 (g := (mkF m 28 #[rv li, iv 64, rv b2] [(.int 0), (.int 0), (.ref b2), (.int 0), (.ref li)])) rfl (by rw [hml]; rfl) rfl (hb hby own_d13_28) (by decide) (W := 0) (by show 2 * 0 + _ ≤ _; exact Nat.le_of_eq rfl) (by decide)
  have O9 := O3.keep K8 (allS gg_b2 all0)
  have kp10 := kp4.trans K8 ((allS (P := fun x => x ∈ ([] : List Addr) ∨ h0.size ≤ x) (Or.inr sz_b2) all0))
  have Va8 : Arv Z h8 b2 k2 .int (64 : Int32) [(.int 0), (.int 0), (.int 0), (.int 0), (.int 0), (.int 0), (.int 0), (.int 0), (.int 0), (.int 0), (.int 0), (.int 0), (.int 0), (.int 0), (.int 0), (.int 0), (.int 0), (.int 0), (.int 0), (.int 0), (.int 0), (.int 0), (.int 0), (.int 0), (.int 0), (.int 0), (.int 0), (.int 0), (.int 0), (.int 0), (.int 0), (.int 0), (.int 0), (.int 0), (.int 0), (.int 0), (.int 0), (.int 0), (.int 0), (.int 0), (.int 0), (.int 0), (.int 0), (.int 0), (.int 0), (.int 0), (.int 0), (.int 0), (.int 0), (.int 0), (.int 0), (.int 0), (.int 0), (.int 0), (.int 0), (.int 0), (.int 0), (.int 0), (.int 0), (.int 0), (.int 0), (.int 0), (.int 0), (.int 0)] (.int 0) := V8
  have f11 := (B2.keep K8)
  obtain ⟨fs, hr, hrun, hended, hW, hsame⟩ := X8.leave (v := some (.ref b2)) (fun h => by rw [Bd.returns] at h; cases h)
  refine ⟨_, _, pre0 _ ?_, hrun, hended, _, _, rfl, ?_, ⟨_, rfl⟩, hW, hsame.mono (by decide) (by decide)⟩
  · show Steps p.tables e below (s₁.setTop (mkF m 0 #[rv li, iv 64, .unset] [])) _
    refine XS.iloadN X0.here hx rfl (hb hby own_d13_0) rfl ?_
    show Steps p.tables e below (s₁.setTop (mkF m 1 #[rv li, iv 64, .unset] [(.int 64)])) _
    refine XS.aloadN X0.here hx rfl (hb hby own_d13_1) rfl rfl ?_
    show Steps p.tables e below (s₁.setTop (mkF m 2 #[rv li, iv 64, .unset] [(.ref li), (.int 64)])) _
    refine X0.arraylength hx (by rw [e0]; exact c1A.1) (State.isArrayOf_alike hZ.alike c1A.2.1) (g := (mkF m 2 #[rv li, iv 64, .unset] [(.ref li), (.int 64)])) rfl rfl (hb hby own_d13_2) _ ?_
    rw [len_of c1S c1N]
    show Steps p.tables e below (s₁.setTop (mkF m 3 #[rv li, iv 64, .unset] [(.int 0), (.int 64)])) _
    refine XS.icmpYes X0.here hx rfl (pc0 := 3) (pc' := 14) rfl (hb hby own_d13_3) rfl (feq (by decide)).2 (by decide) (by decide) ?_
    show Steps p.tables e below (s₁.setTop (mkF m 14 #[rv li, iv 64, .unset] [])) _
    refine XS.iloadN X0.here hx rfl (hb hby own_d13_14) rfl ?_
    show Steps p.tables e below (s₁.setTop (mkF m 15 #[rv li, iv 64, .unset] [(.int 64)])) _
    refine st2 _ ?_
    show Steps p.tables e below (T2.setTop (mkF m 17 #[rv li, iv 64, .unset] [(.ref b2)])) _
    refine XS.astoreN X2.here hx rfl (hb hby own_d13_17) rfl rfl (l' := #[rv li, iv 64, rv b2]) rfl ?_
    show Steps p.tables e below (T2.setTop (mkF m 18 #[rv li, iv 64, rv b2] [])) _
    refine XS.aloadN X2.here hx rfl (hb hby own_d13_18) rfl rfl ?_
    show Steps p.tables e below (T2.setTop (mkF m 19 #[rv li, iv 64, rv b2] [(.ref li)])) _
    refine XS.iconst X2.here hx rfl (hb hby own_d13_19) ?_
    show Steps p.tables e below (T2.setTop (mkF m 20 #[rv li, iv 64, rv b2] [(.int 0), (.ref li)])) _
    refine XS.aloadN X2.here hx rfl (hb hby own_d13_20) rfl rfl ?_
    show Steps p.tables e below (T2.setTop (mkF m 21 #[rv li, iv 64, rv b2] [(.ref b2), (.int 0), (.ref li)])) _
    refine XS.iconst X2.here hx rfl (hb hby own_d13_21) ?_
    show Steps p.tables e below (T2.setTop (mkF m 22 #[rv li, iv 64, rv b2] [(.int 0), (.ref b2), (.int 0), (.ref li)])) _
    refine XS.aloadN X2.here hx rfl (hb hby own_d13_22) rfl rfl ?_
    show Steps p.tables e below (T2.setTop (mkF m 23 #[rv li, iv 64, rv b2] [(.ref li), (.int 0), (.ref b2), (.int 0), (.ref li)])) _
    refine X2.arraylength hx (by rw [e2]; exact c6A.1) (State.isArrayOf_alike hZ.alike c6A.2.1) (g := (mkF m 23 #[rv li, iv 64, rv b2] [(.ref li), (.int 0), (.ref b2), (.int 0), (.ref li)])) rfl rfl (hb hby own_d13_23) _ ?_
    rw [len_of c6S c6N]
    show Steps p.tables e below (T2.setTop (mkF m 24 #[rv li, iv 64, rv b2] [(.int 0), (.int 0), (.ref b2), (.int 0), (.ref li)])) _
    refine XS.iloadN X2.here hx rfl (hb hby own_d13_24) rfl ?_
    show Steps p.tables e below (T2.setTop (mkF m 25 #[rv li, iv 64, rv b2] [(.int 64), (.int 0), (.int 0), (.ref b2), (.int 0), (.ref li)])) _
    refine st7 _ ?_
    show Steps p.tables e below (T7.setTop (mkF m 28 #[rv li, iv 64, rv b2] [(.int 0), (.int 0), (.ref b2), (.int 0), (.ref li)])) _
    refine st8 _ ?_
    show Steps p.tables e below (T8.setTop (mkF m 31 #[rv li, iv 64, rv b2] [])) _
    refine XS.aloadN X8.here hx rfl (hb hby own_d13_31) rfl rfl ?_
    show Steps p.tables e below (T8.setTop (mkF m 32 #[rv li, iv 64, rv b2] [(.ref b2)])) _
    jvm_step X8.here [X8.here.top, hx, (hb hby own_d13_32), X8.method', Bd.returns, Value.isRef, FieldType.isReference]
    first | (intro acts; rw [hr _ acts rfl rfl rfl]) | rw [hr _ _ rfl rfl rfl]
    exact Steps.refl _
  · show own_cpi_Q Z w_CA mr y1 y2 y3 li k_li h0 n0 _ T8.heap _
    rw [e8]
    exact ⟨b2, k2, rfl, N8, kp10, (own_ndc all0 own_nd0), (allS sz_b2 all0), f11, Va8⟩
set_option maxRecDepth 65536 in
set_option maxHeartbeats 40000000 in
theorem own_turn {p : Program} {l : Launch} {e : Env} {s : State} {m : MethodId} {args : Array Value} {below : List Frame} {meth : Method} {c : Code} {T0 : State} {locs : List Loc} {Z : State} {a0 : Array Value} {h0 : Heap} {n0 : Nat} (w_CA : Addr) (mr : Addr) (y1 : Addr) (y2 : Addr) (y3 : Addr) (a : Addr) (li : Addr) (pf : Addr) (k_li : ClassId) (k_pf : ClassId) (vs : List Value) (j : Int32) (j1 : Int32) (k0 : Int32) (k3 : Int32) (z : Int32) (i0 : Nat) (i3 : Nat)
    (X0 : Stand p l e ({ frames := 1, cells := 0, slots := 0, locals := 14 } : Room) s m args below meth c T0 locs 0 0) (hx : p.tables.exec = Jvm.exec) (hZ : Z.Warmed39 s.vm) (hw : ∀ d ∈ tables_1, d.before a0 Z = true) (hby : c.code = prog_18_method_20_code) (hml : c.maxLocals = 7) (hown : s.vm.findClass "com/example/libspoke/libspoke/wheel/EntryTable" = some m.cls) (e0 : T0.heap = h0) (N0 : Fr n0 locs) (O0 : Old Z n0 h0) (S_HI : Sta Z Z.heap "java/lang/Integer$IntegerCache" "high" "I" (.int 127)) (S_CA : Sta Z Z.heap "java/lang/Integer$IntegerCache" "cache" "[Ljava/lang/Integer;" (.ref w_CA)) (M_OA : own_Mir Z "[Ljava/lang/Object;" mr) (H_y1 : own_At Z w_CA (129 : Int32) y1) (H_y2 : own_At Z w_CA (130 : Int32) y2) (H_y3 : own_At Z w_CA (131 : Int32) y3) (E_y1 : Exa Z Z.heap y1 "java/lang/Integer") (E_y2 : Exa Z Z.heap y2 "java/lang/Integer") (E_y3 : Exa Z Z.heap y3 "java/lang/Integer") (g_li : n0 ≤ li) (g_pf : n0 ≤ pf) (na : a ≠ li) (nb : a ≠ pf) (nc : pf ≠ li) (pF : Fld Z h0 a "com/example/libspoke/libspoke/wheel/EntryTable" "pageFirstFree" "[I" (.ref pf)) (pL : Arv Z h0 li k_li .int (64 : Int32) vs (.int 0)) (pP : Arv Z h0 pf k_pf .int (1 : Int32) [(.int z)] (.int 0)) (q0 : ¬ j < (0 : Int32)) (q1 : (((j &&& (4095 : Int32)) <<< ((2 : Int32) &&& 31)) + (0 : Int32)) = k0) (q3 : (((j &&& (4095 : Int32)) <<< ((2 : Int32) &&& 31)) + (3 : Int32)) = k3) (r0 : ¬ k0 < 0 ∧ k0 < (64 : Int32)) (r3 : ¬ k3 < 0 ∧ k3 < (64 : Int32)) (t0 : k0.toNatClampNeg = i0) (t3 : k3.toNatClampNeg = i3) (u0 : i0 < vs.length) (u3 : i3 < vs.length) (q2 : (j + (-1 : Int32)) = j1) :
    ∃ (T' : State) (L' : List Loc) (h' : Heap), Stand p l e ({ frames := 1, cells := 0, slots := 0, locals := 14 } : Room) s m args below meth c T' L' 0 0 ∧ Fr n0 L' ∧ T'.heap = h' ∧ Keep h0 h' [li, pf] ∧ Arv Z h' li k_li .int (64 : Int32) ((vs.set i3 (.int 0)).set i0 (.int z)) (.int 0) ∧ Arv Z h' pf k_pf .int (1 : Int32) [(.int j)] (.int 0) ∧ ∀ target, Steps p.tables e below (T'.setTop (mkF m 21 #[rv a, iv 0, iv 0, iv 16, rv li, iv 0, iv j1] [])) target → Steps p.tables e below (T0.setTop (mkF m 21 #[rv a, iv 0, iv 0, iv 16, rv li, iv 0, iv j] [])) target := by
  have kp0 := Keep.refl h0 ([li, pf] : List Addr)
  obtain ⟨_, _, ⟨T1, L1, k1, n1⟩, -, X1, ⟨Lc1, hQ1, l1, y1, z1⟩, st1⟩ := Jvm.LawKit.callS X0 hx (y := (⟨"com/example/libspoke/libspoke/wheel/EntryTable", "link", "(II)I"⟩ : MethodName)) hown (mvT hZ (hw _ (own_m 107 rfl))) (mvT hZ (hw _ (own_m 108 rfl))) (mvT hZ (hw _ (own_m 2 rfl))) (mvT hZ (hw _ (own_m 109 rfl))) (by decide) (backOf (W := 1) (own_lk l Z a0 hw [] w_CA mr y1 y2 y3 j (3 : Int32) h0 n0 O0 S_HI S_CA M_OA H_y1 H_y2 H_y3 E_y1 E_y2 E_y3 ) hZ (hw _ (own_m 109 rfl)) (hw _ (own_m 2 rfl)) (by decide) (by decide)) (g := (mkF m 32 #[rv a, iv 0, iv 0, iv 16, rv li, iv 0, iv j] [(.int 3), (.int j), (.ref li)])) rfl (by rw [hml]; rfl) (argsL := [(.int j), (.int 3)]) (rest := [(.ref li)]) (lenOf own_pd3 rfl) rfl (by show 2 * 0 + _ ≤ _; exact Nat.le_of_eq rfl) (hb hby own_d14_32) (fun _ _ => ⟨rfl, e0, (by decide : 0 + 0 ≤ _), (by decide : 0 + 0 ≤ _)⟩)
  dsimp only [Pt.U, Pt.locs, Pt.cells, Pt.slots] at X1 l1 y1 z1 st1 hQ1
  subst l1 y1 z1
  obtain ⟨rfl, N1q, e1⟩ := hQ1
  have N1 := Fr.app N0 N1q
  obtain ⟨c2, c2A, c2q, c2S, c2N, c2H, c2G⟩ := id pL
  have c2in : ¬ (k3 < 0 ∨ c2.slots.size ≤ (k3).toNatClampNeg) := inb_of c2S r3
  obtain ⟨T3, h3, X3, e3, W3, st3⟩ := stI X1 hx hZ e1 c2A (j := k3) c2in (g := (mkF m 37 #[rv a, iv 0, iv 0, iv 16, rv li, iv 0, iv j] [(.int 0), (.int k3), (.ref li)])) rfl rfl (hb hby own_d14_37)
  have V3 : Arv Z h3 li k_li .int (64 : Int32) (vs.set i3 (.int 0)) (.int 0) := Arv.set c2A c2q c2S c2N c2H c2G rfl W3 i3 t3 u3
  have O4 := O0.wr W3 g_li
  have kp5 := kp0.wr W3 (Or.inl (own_m 0 rfl))
  have N3 := Fr.snoc X3 N1 g_li
  obtain ⟨_, _, ⟨T6, L6, k6, n6⟩, -, X6, ⟨Lc6, hQ6, l6, y6, z6⟩, st6⟩ := Jvm.LawKit.callS X3 hx (y := (⟨"com/example/libspoke/libspoke/wheel/EntryTable", "link", "(II)I"⟩ : MethodName)) hown (mvT hZ (hw _ (own_m 107 rfl))) (mvT hZ (hw _ (own_m 108 rfl))) (mvT hZ (hw _ (own_m 2 rfl))) (mvT hZ (hw _ (own_m 109 rfl))) (by decide) (backOf (W := 1) (own_lk l Z a0 hw [] w_CA mr y1 y2 y3 j (0 : Int32) h3 n0 O4 S_HI S_CA M_OA H_y1 H_y2 H_y3 E_y1 E_y2 E_y3 ) hZ (hw _ (own_m 109 rfl)) (hw _ (own_m 2 rfl)) (by decide) (by decide)) (g := (mkF m 43 #[rv a, iv 0, iv 0, iv 16, rv li, iv 0, iv j] [(.int 0), (.int j), (.ref li)])) rfl (by rw [hml]; rfl) (argsL := [(.int j), (.int 0)]) (rest := [(.ref li)]) (lenOf own_pd3 rfl) rfl (by show 2 * 0 + _ ≤ _; exact Nat.le_of_eq rfl) (hb hby own_d14_43) (fun _ _ => ⟨rfl, e3, (by decide : 0 + 0 ≤ _), (by decide : 0 + 0 ≤ _)⟩)
  dsimp only [Pt.U, Pt.locs, Pt.cells, Pt.slots] at X6 l6 y6 z6 st6 hQ6
  subst l6 y6 z6
  obtain ⟨rfl, N6q, e6⟩ := hQ6
  have N6 := Fr.app N3 N6q
  have f7 := (pF.other W3 (Or.inl na))
  obtain ⟨T8, X8, e8, st8⟩ := getF X6 hx hZ hown (host := "") (Or.inl (hw _ (own_m 30 rfl))) Via.refl e6 f7 (g := (mkF m 47 #[rv a, iv 0, iv 0, iv 16, rv li, iv 0, iv j] [(.ref a), (.int k0), (.ref li)])) rfl rfl (hb hby own_d14_47)
  have f9 := (pP.other W3 nc)
  obtain ⟨c10, c10A, c10q, c10S, c10N, c10H, c10G⟩ := id f9
  have c10in : ¬ ((0 : Int32) < 0 ∨ c10.slots.size ≤ ((0 : Int32)).toNatClampNeg) := inb_of c10S ⟨by decide, by decide⟩
  have c10at : c10.slots[((0 : Int32)).toNatClampNeg]? = some (.int z) := Has.at c10H c10in rfl
  obtain ⟨c11, c11A, c11q, c11S, c11N, c11H, c11G⟩ := id V3
  have c11in : ¬ (k0 < 0 ∨ c11.slots.size ≤ (k0).toNatClampNeg) := inb_of c11S r0
  obtain ⟨T12, h12, X12, e12, W12, st12⟩ := stI X8 hx hZ e8 c11A (j := k0) c11in (g := (mkF m 52 #[rv a, iv 0, iv 0, iv 16, rv li, iv 0, iv j] [(.int z), (.int k0), (.ref li)])) rfl rfl (hb hby own_d14_52)
  have V12 : Arv Z h12 li k_li .int (64 : Int32) ((vs.set i3 (.int 0)).set i0 (.int z)) (.int 0) := Arv.set c11A c11q c11S c11N c11H c11G rfl W12 i0 t0 (by rw [List.length_set]; exact u0)
  have O13 := O4.wr W12 g_li
  have kp14 := kp5.wr W12 (Or.inl (own_m 0 rfl))
  have N12 := Fr.snoc X12 N6 g_li
  have f15 := (f7.other W12 (Or.inl na))
  obtain ⟨T16, X16, e16, st16⟩ := getF X12 hx hZ hown (host := "") (Or.inl (hw _ (own_m 30 rfl))) Via.refl e12 f15 (g := (mkF m 54 #[rv a, iv 0, iv 0, iv 16, rv li, iv 0, iv j] [(.ref a)])) rfl rfl (hb hby own_d14_54)
  have f17 := (f9.other W12 nc)
  obtain ⟨c18, c18A, c18q, c18S, c18N, c18H, c18G⟩ := id f17
  have c18in : ¬ ((0 : Int32) < 0 ∨ c18.slots.size ≤ ((0 : Int32)).toNatClampNeg) := inb_of c18S ⟨by decide, by decide⟩
  obtain ⟨T19, h19, X19, e19, W19, st19⟩ := stI X16 hx hZ e16 c18A (j := (0 : Int32)) c18in (g := (mkF m 60 #[rv a, iv 0, iv 0, iv 16, rv li, iv 0, iv j] [(.int j), (.int 0), (.ref pf)])) rfl rfl (hb hby own_d14_60)
  have V19 : Arv Z h19 pf k_pf .int (1 : Int32) [(.int j)] (.int 0) := Arv.set c18A c18q c18S c18N c18H c18G rfl W19 0 rfl (Nat.le_of_ble_eq_true rfl)
  have O20 := O13.wr W19 g_pf
  have kp21 := kp14.wr W19 (Or.inl (own_m 1 rfl))
  have N19 := Fr.snoc X19 N12 g_pf
  have f22 := (V12.other W19 (Ne.symm nc))
  refine ⟨T19, _, h19, X19, N19, e19, kp21, f22, V19, fun target kt => ?_⟩
  show Steps p.tables e below (T0.setTop (mkF m 21 #[rv a, iv 0, iv 0, iv 16, rv li, iv 0, iv j] [])) _
  refine XS.iload X0.here hx rfl (hb hby own_d14_21) rfl ?_
  show Steps p.tables e below (T0.setTop (mkF m 23 #[rv a, iv 0, iv 0, iv 16, rv li, iv 0, iv j] [(.int j)])) _
  refine XS.iloadN X0.here hx rfl (hb hby own_d14_23) rfl ?_
  show Steps p.tables e below (T0.setTop (mkF m 24 #[rv a, iv 0, iv 0, iv 16, rv li, iv 0, iv j] [(.int 0), (.int j)])) _
  refine XS.icmpNo X0.here hx rfl (hb hby own_d14_24) rfl (flt q0).1 ?_
  show Steps p.tables e below (T0.setTop (mkF m 27 #[rv a, iv 0, iv 0, iv 16, rv li, iv 0, iv j] [])) _
  refine XS.aload X0.here hx rfl (hb hby own_d14_27) rfl rfl ?_
  show Steps p.tables e below (T0.setTop (mkF m 29 #[rv a, iv 0, iv 0, iv 16, rv li, iv 0, iv j] [(.ref li)])) _
  refine XS.iload X0.here hx rfl (hb hby own_d14_29) rfl ?_
  show Steps p.tables e below (T0.setTop (mkF m 31 #[rv a, iv 0, iv 0, iv 16, rv li, iv 0, iv j] [(.int j), (.ref li)])) _
  refine XS.iconst X0.here hx rfl (hb hby own_d14_31) ?_
  show Steps p.tables e below (T0.setTop (mkF m 32 #[rv a, iv 0, iv 0, iv 16, rv li, iv 0, iv j] [(.int 3), (.int j), (.ref li)])) _
  refine st1 _ ?_
  show Steps p.tables e below (T1.setTop (mkF m 35 #[rv a, iv 0, iv 0, iv 16, rv li, iv 0, iv j] [(.int (((j &&& (4095 : Int32)) <<< ((2 : Int32) &&& 31)) + (3 : Int32))), (.ref li)])) _
  refine own_top (v' := (.int k3)) (congrArg Value.int q3) ?_
  show Steps p.tables e below (T1.setTop (mkF m 35 #[rv a, iv 0, iv 0, iv 16, rv li, iv 0, iv j] [(.int k3), (.ref li)])) _
  refine XS.iload X1.here hx rfl (hb hby own_d14_35) rfl ?_
  show Steps p.tables e below (T1.setTop (mkF m 37 #[rv a, iv 0, iv 0, iv 16, rv li, iv 0, iv j] [(.int 0), (.int k3), (.ref li)])) _
  refine st3 _ ?_
  show Steps p.tables e below (T3.setTop (mkF m 38 #[rv a, iv 0, iv 0, iv 16, rv li, iv 0, iv j] [])) _
  refine XS.aload X3.here hx rfl (hb hby own_d14_38) rfl rfl ?_
  show Steps p.tables e below (T3.setTop (mkF m 40 #[rv a, iv 0, iv 0, iv 16, rv li, iv 0, iv j] [(.ref li)])) _
  refine XS.iload X3.here hx rfl (hb hby own_d14_40) rfl ?_
  show Steps p.tables e below (T3.setTop (mkF m 42 #[rv a, iv 0, iv 0, iv 16, rv li, iv 0, iv j] [(.int j), (.ref li)])) _
  refine XS.iconst X3.here hx rfl (hb hby own_d14_42) ?_
  show Steps p.tables e below (T3.setTop (mkF m 43 #[rv a, iv 0, iv 0, iv 16, rv li, iv 0, iv j] [(.int 0), (.int j), (.ref li)])) _
  refine st6 _ ?_
  show Steps p.tables e below (T6.setTop (mkF m 46 #[rv a, iv 0, iv 0, iv 16, rv li, iv 0, iv j] [(.int (((j &&& (4095 : Int32)) <<< ((2 : Int32) &&& 31)) + (0 : Int32))), (.ref li)])) _
  refine own_top (v' := (.int k0)) (congrArg Value.int q1) ?_
  show Steps p.tables e below (T6.setTop (mkF m 46 #[rv a, iv 0, iv 0, iv 16, rv li, iv 0, iv j] [(.int k0), (.ref li)])) _
  refine XS.aloadN X6.here hx rfl (hb hby own_d14_46) rfl rfl ?_
  show Steps p.tables e below (T6.setTop (mkF m 47 #[rv a, iv 0, iv 0, iv 16, rv li, iv 0, iv j] [(.ref a), (.int k0), (.ref li)])) _
  refine st8 _ ?_
  show Steps p.tables e below (T8.setTop (mkF m 50 #[rv a, iv 0, iv 0, iv 16, rv li, iv 0, iv j] [(.ref pf), (.int k0), (.ref li)])) _
  refine XS.iloadN X8.here hx rfl (hb hby own_d14_50) rfl ?_
  show Steps p.tables e below (T8.setTop (mkF m 51 #[rv a, iv 0, iv 0, iv 16, rv li, iv 0, iv j] [(.int 0), (.ref pf), (.int k0), (.ref li)])) _
  refine X8.iaload hx (j := (0 : Int32)) (v := (.int z)) (by rw [e8]; exact c10A.1) (State.isArrayOf_alike hZ.alike c10A.2.1) c10A.2.2 c10in c10at (g := (mkF m 51 #[rv a, iv 0, iv 0, iv 16, rv li, iv 0, iv j] [(.int 0), (.ref pf), (.int k0), (.ref li)])) rfl rfl (hb hby own_d14_51) _ ?_
  show Steps p.tables e below (T8.setTop (mkF m 52 #[rv a, iv 0, iv 0, iv 16, rv li, iv 0, iv j] [(.int z), (.int k0), (.ref li)])) _
  refine st12 _ ?_
  show Steps p.tables e below (T12.setTop (mkF m 53 #[rv a, iv 0, iv 0, iv 16, rv li, iv 0, iv j] [])) _
  refine XS.aloadN X12.here hx rfl (hb hby own_d14_53) rfl rfl ?_
  show Steps p.tables e below (T12.setTop (mkF m 54 #[rv a, iv 0, iv 0, iv 16, rv li, iv 0, iv j] [(.ref a)])) _
  refine st16 _ ?_
  show Steps p.tables e below (T16.setTop (mkF m 57 #[rv a, iv 0, iv 0, iv 16, rv li, iv 0, iv j] [(.ref pf)])) _
  refine XS.iloadN X16.here hx rfl (hb hby own_d14_57) rfl ?_
  show Steps p.tables e below (T16.setTop (mkF m 58 #[rv a, iv 0, iv 0, iv 16, rv li, iv 0, iv j] [(.int 0), (.ref pf)])) _
  refine XS.iload X16.here hx rfl (hb hby own_d14_58) rfl ?_
  show Steps p.tables e below (T16.setTop (mkF m 60 #[rv a, iv 0, iv 0, iv 16, rv li, iv 0, iv j] [(.int j), (.int 0), (.ref pf)])) _
  refine st19 _ ?_
  show Steps p.tables e below (T19.setTop (mkF m 61 #[rv a, iv 0, iv 0, iv 16, rv li, iv 0, iv j] [])) _
  refine XS.iinc X19.here hx rfl (hb hby own_d14_61) rfl (l' := #[rv a, iv 0, iv 0, iv 16, rv li, iv 0, .val (.int (j + (-1 : Int32)))]) rfl ?_
  show Steps p.tables e below (T19.setTop (mkF m 64 #[rv a, iv 0, iv 0, iv 16, rv li, iv 0, .val (.int (j + (-1 : Int32)))] [])) _
  refine castTop (congrArg (fun zz : Int32 => (mkF m 64 #[rv a, iv 0, iv 0, iv 16, rv li, iv 0, iv zz] [])) q2) ?_
  show Steps p.tables e below (T19.setTop (mkF m 64 #[rv a, iv 0, iv 0, iv 16, rv li, iv 0, iv j1] [])) _
  refine XS.goto X19.here hx rfl (pc0 := 64) (pc' := 21) rfl (hb hby own_d14_64) (by decide) (by decide) ?_
  show Steps p.tables e below (T19.setTop (mkF m 21 #[rv a, iv 0, iv 0, iv 16, rv li, iv 0, iv j1] [])) _
  exact kt
theorem own_ff_ef (m : MethodId) (a : Addr) : entryFrame m #[(.ref a), (.int 0), (.int 0), (.int 16)] 7 = mkF m 0 #[rv a, iv 0, iv 0, iv 16, .unset, .unset, .unset] [] := by first | (simp [entryFrame, mkF, argsToLocals, Value.category]; done) | rfl
def own_ff_Q (Z : State) (w_CA : Addr) (mr : Addr) (y1 : Addr) (y2 : Addr) (y3 : Addr) (a : Addr) (ip : Addr) (dp : Addr) (lp : Addr) (ps : Addr) (pf : Addr) (pg : Addr) (pt : Addr) (li : Addr) (pb : Addr) (wb : Addr) (k_lp : ClassId) (k_li : ClassId) (k_pf : ClassId) (k_pg : ClassId) (k_pb : ClassId) (k_wb : ClassId) (h0 : Heap) (n0 : Nat) (v : Option Value) (h : Heap) (L : List Loc) : Prop := v = none ∧ Fr n0 L ∧ Keep h0 h [a, li, pf, pb, wb] ∧ Exa Z h a "com/example/libspoke/libspoke/wheel/EntryTable" ∧ Fld Z h a "com/example/libspoke/libspoke/wheel/EntryTable" "itemPages" "[[Ljava/lang/Object;" (.ref ip) ∧ Fld Z h a "com/example/libspoke/libspoke/wheel/EntryTable" "deadlinePages" "[[J" (.ref dp) ∧ Fld Z h a "com/example/libspoke/libspoke/wheel/EntryTable" "linkPages" "[[I" (.ref lp) ∧ Fld Z h a "com/example/libspoke/libspoke/wheel/EntryTable" "pageSizes" "[I" (.ref ps) ∧ Fld Z h a "com/example/libspoke/libspoke/wheel/EntryTable" "pageFirstFree" "[I" (.ref pf) ∧ Fld Z h a "com/example/libspoke/libspoke/wheel/EntryTable" "pageGenerations" "[I" (.ref pg) ∧ Fld Z h a "com/example/libspoke/libspoke/wheel/EntryTable" "pagesWithRoom" "Lcom/example/libspoke/libspoke/wheel/EntryTable$PageSet;" (.ref pt) ∧ Fld Z h a "com/example/libspoke/libspoke/wheel/EntryTable" "sparePage" "I" (.int (-1)) ∧ Fld Z h a "com/example/libspoke/libspoke/wheel/EntryTable" "size" "I" (.int 0) ∧ Fld Z h a "com/example/libspoke/libspoke/wheel/EntryTable" "capacity" "I" (.int 16) ∧ Arv Z h li k_li .int (64 : Int32) [(.int 1), (.int 0), (.int 0), (.int 0), (.int 2), (.int 0), (.int 0), (.int 0), (.int 3), (.int 0), (.int 0), (.int 0), (.int 4), (.int 0), (.int 0), (.int 0), (.int 5), (.int 0), (.int 0), (.int 0), (.int 6), (.int 0), (.int 0), (.int 0), (.int 7), (.int 0), (.int 0), (.int 0), (.int 8), (.int 0), (.int 0), (.int 0), (.int 9), (.int 0), (.int 0), (.int 0), (.int 10), (.int 0), (.int 0), (.int 0), (.int 11), (.int 0), (.int 0), (.int 0), (.int 12), (.int 0), (.int 0), (.int 0), (.int 13), (.int 0), (.int 0), (.int 0), (.int 14), (.int 0), (.int 0), (.int 0), (.int 15), (.int 0), (.int 0), (.int 0), (.int (-1)), (.int 0), (.int 0), (.int 0)] (.int 0) ∧ Arv Z h pf k_pf .int (1 : Int32) [(.int 0)] (.int 0) ∧ Arv Z h pb k_pb .long (1 : Int32) [(.long 1)] (.long 0) ∧ Arv Z h wb k_wb .long (1 : Int32) [(.long 1)] (.long 0)
set_option maxRecDepth 65536 in
set_option maxHeartbeats 40000000 in
theorem own_ff (l : Launch) (Z : State) (a0 : Array Value) (hw : ∀ d ∈ tables_1, d.before a0 Z = true) (ws : List Jvm.Cond) (w_CA : Addr) (mr : Addr) (y1 : Addr) (y2 : Addr) (y3 : Addr) (a : Addr) (ip : Addr) (dp : Addr) (lp : Addr) (ps : Addr) (pf : Addr) (pg : Addr) (pt : Addr) (li : Addr) (pb : Addr) (wb : Addr) (k_lp : ClassId) (k_li : ClassId) (k_pf : ClassId) (k_pg : ClassId) (k_pb : ClassId) (k_wb : ClassId) (h0 : Heap) (n0 : Nat) (O0 : Old Z n0 h0) (S_HI : Sta Z Z.heap "java/lang/Integer$IntegerCache" "high" "I" (.int 127)) (S_CA : Sta Z Z.heap "java/lang/Integer$IntegerCache" "cache" "[Ljava/lang/Integer;" (.ref w_CA)) (M_OA : own_Mir Z "[Ljava/lang/Object;" mr) (H_y1 : own_At Z w_CA (129 : Int32) y1) (H_y2 : own_At Z w_CA (130 : Int32) y2) (H_y3 : own_At Z w_CA (131 : Int32) y3) (E_y1 : Exa Z Z.heap y1 "java/lang/Integer") (E_y2 : Exa Z Z.heap y2 "java/lang/Integer") (E_y3 : Exa Z Z.heap y3 "java/lang/Integer") (hG : ∀ x ∈ ([a, lp, li, pf, pg, pt, pb, wb] : List Addr), n0 ≤ x) (hN : own_Nd [a, lp, li, pf, pg, pt, pb, wb]) (pE_a : Exa Z h0 a "com/example/libspoke/libspoke/wheel/EntryTable") (pF_a_itemPages : Fld Z h0 a "com/example/libspoke/libspoke/wheel/EntryTable" "itemPages" "[[Ljava/lang/Object;" (.ref ip)) (pF_a_deadlinePages : Fld Z h0 a "com/example/libspoke/libspoke/wheel/EntryTable" "deadlinePages" "[[J" (.ref dp)) (pF_a_linkPages : Fld Z h0 a "com/example/libspoke/libspoke/wheel/EntryTable" "linkPages" "[[I" (.ref lp)) (pF_a_pageSizes : Fld Z h0 a "com/example/libspoke/libspoke/wheel/EntryTable" "pageSizes" "[I" (.ref ps)) (pF_a_pageFirstFree : Fld Z h0 a "com/example/libspoke/libspoke/wheel/EntryTable" "pageFirstFree" "[I" (.ref pf)) (pF_a_pageGenerations : Fld Z h0 a "com/example/libspoke/libspoke/wheel/EntryTable" "pageGenerations" "[I" (.ref pg)) (pF_a_pagesWithRoom : Fld Z h0 a "com/example/libspoke/libspoke/wheel/EntryTable" "pagesWithRoom" "Lcom/example/libspoke/libspoke/wheel/EntryTable$PageSet;" (.ref pt)) (pF_a_sparePage : Fld Z h0 a "com/example/libspoke/libspoke/wheel/EntryTable" "sparePage" "I" (.int (-1))) (pF_a_size : Fld Z h0 a "com/example/libspoke/libspoke/wheel/EntryTable" "size" "I" (.int 0)) (pF_a_capacity : Fld Z h0 a "com/example/libspoke/libspoke/wheel/EntryTable" "capacity" "I" (.int 0)) (pV_lp : Arv Z h0 lp k_lp (.array .int) (1 : Int32) [(.ref li)] .null) (pV_li : Arv Z h0 li k_li .int (64 : Int32) [(.int 0), (.int 0), (.int 0), (.int 0), (.int 0), (.int 0), (.int 0), (.int 0), (.int 0), (.int 0), (.int 0), (.int 0), (.int 0), (.int 0), (.int 0), (.int 0), (.int 0), (.int 0), (.int 0), (.int 0), (.int 0), (.int 0), (.int 0), (.int 0), (.int 0), (.int 0), (.int 0), (.int 0), (.int 0), (.int 0), (.int 0), (.int 0), (.int 0), (.int 0), (.int 0), (.int 0), (.int 0), (.int 0), (.int 0), (.int 0), (.int 0), (.int 0), (.int 0), (.int 0), (.int 0), (.int 0), (.int 0), (.int 0), (.int 0), (.int 0), (.int 0), (.int 0), (.int 0), (.int 0), (.int 0), (.int 0), (.int 0), (.int 0), (.int 0), (.int 0), (.int 0), (.int 0), (.int 0), (.int 0)] (.int 0)) (pV_pf : Arv Z h0 pf k_pf .int (1 : Int32) [(.int (-1))] (.int 0)) (pV_pg : Arv Z h0 pg k_pg .int (1 : Int32) [(.int 0)] (.int 0)) (pE_pt : Exa Z h0 pt "com/example/libspoke/libspoke/wheel/EntryTable$PageSet") (pF_pt_pageBits : Fld Z h0 pt "com/example/libspoke/libspoke/wheel/EntryTable$PageSet" "pageBits" "[J" (.ref pb)) (pF_pt_wordBits : Fld Z h0 pt "com/example/libspoke/libspoke/wheel/EntryTable$PageSet" "wordBits" "[J" (.ref wb)) (pV_pb : Arv Z h0 pb k_pb .long (1 : Int32) [(.long 0)] (.long 0)) (pV_wb : Arv Z h0 wb k_wb .long (1 : Int32) [(.long 0)] (.long 0)) (O_lp : OvrA Z k_lp .int "[I") :
    MetFree l (⟨"com/example/libspoke/libspoke/wheel/EntryTable", "freeNewNumbers", "(III)V"⟩ : MethodName) (head1 (Jvm.Cond.code (⟨"com/example/libspoke/libspoke/wheel/EntryTable", "freeNewNumbers", "(III)V"⟩ : MethodName) prog_18_method_20_code 7 none :: ws) ({ frames := 1, cells := 0, slots := 0, locals := 14 } : Room)) (fun ar U => ar = #[(.ref a), (.int 0), (.int 0), (.int 16)] ∧ Z.Warmed39 U.vm ∧ U.heap = h0) (fun _ _ _ _ _ => True) (fun _ U oc U' => ∃ v L, oc = .returned v ∧ own_ff_Q Z w_CA mr y1 y2 y3 a ip dp lp ps pf pg pt li pb wb k_lp k_li k_pf k_pg k_pb k_wb h0 n0 v U'.heap L ∧ FrameEnd U oc U' L ({ frames := 1, cells := 0, slots := 0, locals := 14 } : Room).cells ({ frames := 1, cells := 0, slots := 0, locals := 14 } : Room).slots) := by
  refine MetFree.of_bodySF (plainFor_of_name own_pn0) hisR ?_
  intro p e s m args below meth c s₁ Bd hml0 hP hK
  obtain ⟨rfl, hZ, hh⟩ := hP
  have hx := Bd.exec
  have hby := Bd.bytes
  have hml : c.maxLocals = 7 := hml0
  have hown : s.vm.findClass "com/example/libspoke/libspoke/wheel/EntryTable" = some m.cls := findClass_of_methodNamed Bd.named
  have hnm := (name_of_methodNamed Bd.named Bd.method).1
  have X0 : Stand p l e ({ frames := 1, cells := 0, slots := 0, locals := 14 } : Room) s m #[(.ref a), (.int 0), (.int 0), (.int 16)] below meth c s₁ [] 0 0 := Stand.of_body Bd
  have e0 : s₁.heap = h0 := by rw [← hh, Bd.state]; rfl
  have N0 := Fr.nil n0
  have pre0 : ∀ t, Steps p.tables e below (s₁.setTop (mkF m 0 #[rv a, iv 0, iv 0, iv 16, .unset, .unset, .unset] [])) t → Steps p.tables e below (s₁.setTop (entryFrame m #[(.ref a), (.int 0), (.int 0), (.int 16)] 7)) t := fun t k => castTop (own_ff_ef m a) k
  have kp0 := Keep.refl h0 ([a, li, pf, pb, wb] : List Addr)
  have g_a : n0 ≤ a := hG _ (own_m 0 rfl)
  have g_lp : n0 ≤ lp := hG _ (own_m 1 rfl)
  have g_li : n0 ≤ li := hG _ (own_m 2 rfl)
  have g_pf : n0 ≤ pf := hG _ (own_m 3 rfl)
  have g_pg : n0 ≤ pg := hG _ (own_m 4 rfl)
  have g_pt : n0 ≤ pt := hG _ (own_m 5 rfl)
  have g_pb : n0 ≤ pb := hG _ (own_m 6 rfl)
  have g_wb : n0 ≤ wb := hG _ (own_m 7 rfl)
  obtain ⟨T1, X1, e1, st1⟩ := getF X0 hx hZ hown (host := "") (Or.inl (hw _ (own_m 26 rfl))) Via.refl e0 pF_a_linkPages (g := (mkF m 1 #[rv a, iv 0, iv 0, iv 16, .unset, .unset, .unset] [(.ref a)])) rfl rfl (hb hby own_d14_1)
  obtain ⟨c2, c2A, c2q, c2S, c2N, c2H, c2G⟩ := id pV_lp
  have c2in : ¬ ((0 : Int32) < 0 ∨ c2.slots.size ≤ ((0 : Int32)).toNatClampNeg) := inb_of c2S ⟨by decide, by decide⟩
  have c2at : c2.slots[((0 : Int32)).toNatClampNeg]? = some (.ref li) := Has.at c2H c2in rfl
  obtain ⟨T3, X3, e3, st3⟩ := getF X1 hx hZ hown (host := "") (Or.inl (hw _ (own_m 32 rfl))) Via.refl e1 pF_a_pageGenerations (g := (mkF m 9 #[rv a, iv 0, iv 0, iv 16, rv li, .unset, .unset] [(.ref a)])) rfl rfl (hb hby own_d14_9)
  obtain ⟨c4, c4A, c4q, c4S, c4N, c4H, c4G⟩ := id pV_pg
  have c4in : ¬ ((0 : Int32) < 0 ∨ c4.slots.size ≤ ((0 : Int32)).toNatClampNeg) := inb_of c4S ⟨by decide, by decide⟩
  have c4at : c4.slots[((0 : Int32)).toNatClampNeg]? = some (.int 0) := Has.at c4H c4in rfl
  have n6 : a ≠ li := (own_ne hN (i := 0) (j := 2) rfl rfl (by decide))
  have n7 : a ≠ pf := (own_ne hN (i := 0) (j := 3) rfl rfl (by decide))
  have n8 : pf ≠ li := (Ne.symm (own_ne hN (i := 2) (j := 3) rfl rfl (by decide)))
  obtain ⟨T5, L5, h5, X5, N5, e5, K5, Vl5, Vp5, st5⟩ := own_turn w_CA mr y1 y2 y3 a li pf k_li k_pf _ (15 : Int32) (14 : Int32) (60 : Int32) (63 : Int32) (-1 : Int32) 60 63 X3 hx hZ hw hby hml hown e3 N0 O0 S_HI S_CA M_OA H_y1 H_y2 H_y3 E_y1 E_y2 E_y3 g_li g_pf n6 n7 n8 pF_a_pageFirstFree pV_li pV_pf (by decide) (by decide) (by decide) ⟨by decide, by decide⟩ ⟨by decide, by decide⟩ (by decide) (by decide) (by decide) (by decide) (by decide)
  have O9 := O0.keep K5 (allS g_li (allS g_pf all0))
  have kp10 := kp0.trans K5 ((allS (P := fun x => x ∈ ([a, li, pf, pb, wb] : List Addr) ∨ h0.size ≤ x) (Or.inl (own_m 1 rfl)) (allS (P := fun x => x ∈ ([a, li, pf, pb, wb] : List Addr) ∨ h0.size ≤ x) (Or.inl (own_m 2 rfl)) all0)))
  have Va5 : Arv Z h5 li k_li .int (64 : Int32) [(.int 0), (.int 0), (.int 0), (.int 0), (.int 0), (.int 0), (.int 0), (.int 0), (.int 0), (.int 0), (.int 0), (.int 0), (.int 0), (.int 0), (.int 0), (.int 0), (.int 0), (.int 0), (.int 0), (.int 0), (.int 0), (.int 0), (.int 0), (.int 0), (.int 0), (.int 0), (.int 0), (.int 0), (.int 0), (.int 0), (.int 0), (.int 0), (.int 0), (.int 0), (.int 0), (.int 0), (.int 0), (.int 0), (.int 0), (.int 0), (.int 0), (.int 0), (.int 0), (.int 0), (.int 0), (.int 0), (.int 0), (.int 0), (.int 0), (.int 0), (.int 0), (.int 0), (.int 0), (.int 0), (.int 0), (.int 0), (.int 0), (.int 0), (.int 0), (.int 0), (.int (-1)), (.int 0), (.int 0), (.int 0)] (.int 0) := Vl5
  have f12 := (pF_a_pageFirstFree.keep K5 (ninS n6 (ninS n7 nin0)))
  obtain ⟨T11, L11, h11, X11, N11, e11, K11, Vl11, Vp11, st11⟩ := own_turn w_CA mr y1 y2 y3 a li pf k_li k_pf _ (14 : Int32) (13 : Int32) (56 : Int32) (59 : Int32) (15 : Int32) 56 59 X5 hx hZ hw hby hml hown e5 N5 O9 S_HI S_CA M_OA H_y1 H_y2 H_y3 E_y1 E_y2 E_y3 g_li g_pf n6 n7 n8 f12 Va5 Vp5 (by decide) (by decide) (by decide) ⟨by decide, by decide⟩ ⟨by decide, by decide⟩ (by decide) (by decide) (by decide) (by decide) (by decide)
  have O13 := O9.keep K11 (allS g_li (allS g_pf all0))
  have kp14 := kp10.trans K11 ((allS (P := fun x => x ∈ ([a, li, pf, pb, wb] : List Addr) ∨ h0.size ≤ x) (Or.inl (own_m 1 rfl)) (allS (P := fun x => x ∈ ([a, li, pf, pb, wb] : List Addr) ∨ h0.size ≤ x) (Or.inl (own_m 2 rfl)) all0)))
  have Va11 : Arv Z h11 li k_li .int (64 : Int32) [(.int 0), (.int 0), (.int 0), (.int 0), (.int 0), (.int 0), (.int 0), (.int 0), (.int 0), (.int 0), (.int 0), (.int 0), (.int 0), (.int 0), (.int 0), (.int 0), (.int 0), (.int 0), (.int 0), (.int 0), (.int 0), (.int 0), (.int 0), (.int 0), (.int 0), (.int 0), (.int 0), (.int 0), (.int 0), (.int 0), (.int 0), (.int 0), (.int 0), (.int 0), (.int 0), (.int 0), (.int 0), (.int 0), (.int 0), (.int 0), (.int 0), (.int 0), (.int 0), (.int 0), (.int 0), (.int 0), (.int 0), (.int 0), (.int 0), (.int 0), (.int 0), (.int 0), (.int 0), (.int 0), (.int 0), (.int 0), (.int 15), (.int 0), (.int 0), (.int 0), (.int (-1)), (.int 0), (.int 0), (.int 0)] (.int 0) := Vl11
  have f16 := (f12.keep K11 (ninS n6 (ninS n7 nin0)))
  obtain ⟨T15, L15, h15, X15, N15, e15, K15, Vl15, Vp15, st15⟩ := own_turn w_CA mr y1 y2 y3 a li pf k_li k_pf _ (13 : Int32) (12 : Int32) (52 : Int32) (55 : Int32) (14 : Int32) 52 55 X11 hx hZ hw hby hml hown e11 N11 O13 S_HI S_CA M_OA H_y1 H_y2 H_y3 E_y1 E_y2 E_y3 g_li g_pf n6 n7 n8 f16 Va11 Vp11 (by decide) (by decide) (by decide) ⟨by decide, by decide⟩ ⟨by decide, by decide⟩ (by decide) (by decide) (by decide) (by decide) (by decide)
  have O17 := O13.keep K15 (allS g_li (allS g_pf all0))
  have kp18 := kp14.trans K15 ((allS (P := fun x => x ∈ ([a, li, pf, pb, wb] : List Addr) ∨ h0.size ≤ x) (Or.inl (own_m 1 rfl)) (allS (P := fun x => x ∈ ([a, li, pf, pb, wb] : List Addr) ∨ h0.size ≤ x) (Or.inl (own_m 2 rfl)) all0)))
  have Va15 : Arv Z h15 li k_li .int (64 : Int32) [(.int 0), (.int 0), (.int 0), (.int 0), (.int 0), (.int 0), (.int 0), (.int 0), (.int 0), (.int 0), (.int 0), (.int 0), (.int 0), (.int 0), (.int 0), (.int 0), (.int 0), (.int 0), (.int 0), (.int 0), (.int 0), (.int 0), (.int 0), (.int 0), (.int 0), (.int 0), (.int 0), (.int 0), (.int 0), (.int 0), (.int 0), (.int 0), (.int 0), (.int 0), (.int 0), (.int 0), (.int 0), (.int 0), (.int 0), (.int 0), (.int 0), (.int 0), (.int 0), (.int 0), (.int 0), (.int 0), (.int 0), (.int 0), (.int 0), (.int 0), (.int 0), (.int 0), (.int 14), (.int 0), (.int 0), (.int 0), (.int 15), (.int 0), (.int 0), (.int 0), (.int (-1)), (.int 0), (.int 0), (.int 0)] (.int 0) := Vl15
  have f20 := (f16.keep K15 (ninS n6 (ninS n7 nin0)))
  obtain ⟨T19, L19, h19, X19, N19, e19, K19, Vl19, Vp19, st19⟩ := own_turn w_CA mr y1 y2 y3 a li pf k_li k_pf _ (12 : Int32) (11 : Int32) (48 : Int32) (51 : Int32) (13 : Int32) 48 51 X15 hx hZ hw hby hml hown e15 N15 O17 S_HI S_CA M_OA H_y1 H_y2 H_y3 E_y1 E_y2 E_y3 g_li g_pf n6 n7 n8 f20 Va15 Vp15 (by decide) (by decide) (by decide) ⟨by decide, by decide⟩ ⟨by decide, by decide⟩ (by decide) (by decide) (by decide) (by decide) (by decide)
  have O21 := O17.keep K19 (allS g_li (allS g_pf all0))
  have kp22 := kp18.trans K19 ((allS (P := fun x => x ∈ ([a, li, pf, pb, wb] : List Addr) ∨ h0.size ≤ x) (Or.inl (own_m 1 rfl)) (allS (P := fun x => x ∈ ([a, li, pf, pb, wb] : List Addr) ∨ h0.size ≤ x) (Or.inl (own_m 2 rfl)) all0)))
  have Va19 : Arv Z h19 li k_li .int (64 : Int32) [(.int 0), (.int 0), (.int 0), (.int 0), (.int 0), (.int 0), (.int 0), (.int 0), (.int 0), (.int 0), (.int 0), (.int 0), (.int 0), (.int 0), (.int 0), (.int 0), (.int 0), (.int 0), (.int 0), (.int 0), (.int 0), (.int 0), (.int 0), (.int 0), (.int 0), (.int 0), (.int 0), (.int 0), (.int 0), (.int 0), (.int 0), (.int 0), (.int 0), (.int 0), (.int 0), (.int 0), (.int 0), (.int 0), (.int 0), (.int 0), (.int 0), (.int 0), (.int 0), (.int 0), (.int 0), (.int 0), (.int 0), (.int 0), (.int 13), (.int 0), (.int 0), (.int 0), (.int 14), (.int 0), (.int 0), (.int 0), (.int 15), (.int 0), (.int 0), (.int 0), (.int (-1)), (.int 0), (.int 0), (.int 0)] (.int 0) := Vl19
  have f24 := (f20.keep K19 (ninS n6 (ninS n7 nin0)))
  obtain ⟨T23, L23, h23, X23, N23, e23, K23, Vl23, Vp23, st23⟩ := own_turn w_CA mr y1 y2 y3 a li pf k_li k_pf _ (11 : Int32) (10 : Int32) (44 : Int32) (47 : Int32) (12 : Int32) 44 47 X19 hx hZ hw hby hml hown e19 N19 O21 S_HI S_CA M_OA H_y1 H_y2 H_y3 E_y1 E_y2 E_y3 g_li g_pf n6 n7 n8 f24 Va19 Vp19 (by decide) (by decide) (by decide) ⟨by decide, by decide⟩ ⟨by decide, by decide⟩ (by decide) (by decide) (by decide) (by decide) (by decide)
  have O25 := O21.keep K23 (allS g_li (allS g_pf all0))
  have kp26 := kp22.trans K23 ((allS (P := fun x => x ∈ ([a, li, pf, pb, wb] : List Addr) ∨ h0.size ≤ x) (Or.inl (own_m 1 rfl)) (allS (P := fun x => x ∈ ([a, li, pf, pb, wb] : List Addr) ∨ h0.size ≤ x) (Or.inl (own_m 2 rfl)) all0)))
  have Va23 : Arv Z h23 li k_li .int (64 : Int32) [(.int 0), (.int 0), (.int 0), (.int 0), (.int 0), (.int 0), (.int 0), (.int 0), (.int 0), (.int 0), (.int 0), (.int 0), (.int 0), (.int 0), (.int 0), (.int 0), (.int 0), (.int 0), (.int 0), (.int 0), (.int 0), (.int 0), (.int 0), (.int 0), (.int 0), (.int 0), (.int 0), (.int 0), (.int 0), (.int 0), (.int 0), (.int 0), (.int 0), (.int 0), (.int 0), (.int 0), (.int 0), (.int 0), (.int 0), (.int 0), (.int 0), (.int 0), (.int 0), (.int 0), (.int 12), (.int 0), (.int 0), (.int 0), (.int 13), (.int 0), (.int 0), (.int 0), (.int 14), (.int 0), (.int 0), (.int 0), (.int 15), (.int 0), (.int 0), (.int 0), (.int (-1)), (.int 0), (.int 0), (.int 0)] (.int 0) := Vl23
  have f28 := (f24.keep K23 (ninS n6 (ninS n7 nin0)))
  obtain ⟨T27, L27, h27, X27, N27, e27, K27, Vl27, Vp27, st27⟩ := own_turn w_CA mr y1 y2 y3 a li pf k_li k_pf _ (10 : Int32) (9 : Int32) (40 : Int32) (43 : Int32) (11 : Int32) 40 43 X23 hx hZ hw hby hml hown e23 N23 O25 S_HI S_CA M_OA H_y1 H_y2 H_y3 E_y1 E_y2 E_y3 g_li g_pf n6 n7 n8 f28 Va23 Vp23 (by decide) (by decide) (by decide) ⟨by decide, by decide⟩ ⟨by decide, by decide⟩ (by decide) (by decide) (by decide) (by decide) (by decide)
  have O29 := O25.keep K27 (allS g_li (allS g_pf all0))
  have kp30 := kp26.trans K27 ((allS (P := fun x => x ∈ ([a, li, pf, pb, wb] : List Addr) ∨ h0.size ≤ x) (Or.inl (own_m 1 rfl)) (allS (P := fun x => x ∈ ([a, li, pf, pb, wb] : List Addr) ∨ h0.size ≤ x) (Or.inl (own_m 2 rfl)) all0)))
  have Va27 : Arv Z h27 li k_li .int (64 : Int32) [(.int 0), (.int 0), (.int 0), (.int 0), (.int 0), (.int 0), (.int 0), (.int 0), (.int 0), (.int 0), (.int 0), (.int 0), (.int 0), (.int 0), (.int 0), (.int 0), (.int 0), (.int 0), (.int 0), (.int 0), (.int 0), (.int 0), (.int 0), (.int 0), (.int 0), (.int 0), (.int 0), (.int 0), (.int 0), (.int 0), (.int 0), (.int 0), (.int 0), (.int 0), (.int 0), (.int 0), (.int 0), (.int 0), (.int 0), (.int 0), (.int 11), (.int 0), (.int 0), (.int 0), (.int 12), (.int 0), (.int 0), (.int 0), (.int 13), (.int 0), (.int 0), (.int 0), (.int 14), (.int 0), (.int 0), (.int 0), (.int 15), (.int 0), (.int 0), (.int 0), (.int (-1)), (.int 0), (.int 0), (.int 0)] (.int 0) := Vl27
  have f32 := (f28.keep K27 (ninS n6 (ninS n7 nin0)))
  obtain ⟨T31, L31, h31, X31, N31, e31, K31, Vl31, Vp31, st31⟩ := own_turn w_CA mr y1 y2 y3 a li pf k_li k_pf _ (9 : Int32) (8 : Int32) (36 : Int32) (39 : Int32) (10 : Int32) 36 39 X27 hx hZ hw hby hml hown e27 N27 O29 S_HI S_CA M_OA H_y1 H_y2 H_y3 E_y1 E_y2 E_y3 g_li g_pf n6 n7 n8 f32 Va27 Vp27 (by decide) (by decide) (by decide) ⟨by decide, by decide⟩ ⟨by decide, by decide⟩ (by decide) (by decide) (by decide) (by decide) (by decide)
  have O33 := O29.keep K31 (allS g_li (allS g_pf all0))
  have kp34 := kp30.trans K31 ((allS (P := fun x => x ∈ ([a, li, pf, pb, wb] : List Addr) ∨ h0.size ≤ x) (Or.inl (own_m 1 rfl)) (allS (P := fun x => x ∈ ([a, li, pf, pb, wb] : List Addr) ∨ h0.size ≤ x) (Or.inl (own_m 2 rfl)) all0)))
  have Va31 : Arv Z h31 li k_li .int (64 : Int32) [(.int 0), (.int 0), (.int 0), (.int 0), (.int 0), (.int 0), (.int 0), (.int 0), (.int 0), (.int 0), (.int 0), (.int 0), (.int 0), (.int 0), (.int 0), (.int 0), (.int 0), (.int 0), (.int 0), (.int 0), (.int 0), (.int 0), (.int 0), (.int 0), (.int 0), (.int 0), (.int 0), (.int 0), (.int 0), (.int 0), (.int 0), (.int 0), (.int 0), (.int 0), (.int 0), (.int 0), (.int 10), (.int 0), (.int 0), (.int 0), (.int 11), (.int 0), (.int 0), (.int 0), (.int 12), (.int 0), (.int 0), (.int 0), (.int 13), (.int 0), (.int 0), (.int 0), (.int 14), (.int 0), (.int 0), (.int 0), (.int 15), (.int 0), (.int 0), (.int 0), (.int (-1)), (.int 0), (.int 0), (.int 0)] (.int 0) := Vl31
  have f36 := (f32.keep K31 (ninS n6 (ninS n7 nin0)))
  obtain ⟨T35, L35, h35, X35, N35, e35, K35, Vl35, Vp35, st35⟩ := own_turn w_CA mr y1 y2 y3 a li pf k_li k_pf _ (8 : Int32) (7 : Int32) (32 : Int32) (35 : Int32) (9 : Int32) 32 35 X31 hx hZ hw hby hml hown e31 N31 O33 S_HI S_CA M_OA H_y1 H_y2 H_y3 E_y1 E_y2 E_y3 g_li g_pf n6 n7 n8 f36 Va31 Vp31 (by decide) (by decide) (by decide) ⟨by decide, by decide⟩ ⟨by decide, by decide⟩ (by decide) (by decide) (by decide) (by decide) (by decide)
  have O37 := O33.keep K35 (allS g_li (allS g_pf all0))
  have kp38 := kp34.trans K35 ((allS (P := fun x => x ∈ ([a, li, pf, pb, wb] : List Addr) ∨ h0.size ≤ x) (Or.inl (own_m 1 rfl)) (allS (P := fun x => x ∈ ([a, li, pf, pb, wb] : List Addr) ∨ h0.size ≤ x) (Or.inl (own_m 2 rfl)) all0)))
  have Va35 : Arv Z h35 li k_li .int (64 : Int32) [(.int 0), (.int 0), (.int 0), (.int 0), (.int 0), (.int 0), (.int 0), (.int 0), (.int 0), (.int 0), (.int 0), (.int 0), (.int 0), (.int 0), (.int 0), (.int 0), (.int 0), (.int 0), (.int 0), (.int 0), (.int 0), (.int 0), (.int 0), (.int 0), (.int 0), (.int 0), (.int 0), (.int 0), (.int 0), (.int 0), (.int 0), (.int 0), (.int 9), (.int 0), (.int 0), (.int 0), (.int 10), (.int 0), (.int 0), (.int 0), (.int 11), (.int 0), (.int 0), (.int 0), (.int 12), (.int 0), (.int 0), (.int 0), (.int 13), (.int 0), (.int 0), (.int 0), (.int 14), (.int 0), (.int 0), (.int 0), (.int 15), (.int 0), (.int 0), (.int 0), (.int (-1)), (.int 0), (.int 0), (.int 0)] (.int 0) := Vl35
  have f40 := (f36.keep K35 (ninS n6 (ninS n7 nin0)))
  obtain ⟨T39, L39, h39, X39, N39, e39, K39, Vl39, Vp39, st39⟩ := own_turn w_CA mr y1 y2 y3 a li pf k_li k_pf _ (7 : Int32) (6 : Int32) (28 : Int32) (31 : Int32) (8 : Int32) 28 31 X35 hx hZ hw hby hml hown e35 N35 O37 S_HI S_CA M_OA H_y1 H_y2 H_y3 E_y1 E_y2 E_y3 g_li g_pf n6 n7 n8 f40 Va35 Vp35 (by decide) (by decide) (by decide) ⟨by decide, by decide⟩ ⟨by decide, by decide⟩ (by decide) (by decide) (by decide) (by decide) (by decide)
  have O41 := O37.keep K39 (allS g_li (allS g_pf all0))
  have kp42 := kp38.trans K39 ((allS (P := fun x => x ∈ ([a, li, pf, pb, wb] : List Addr) ∨ h0.size ≤ x) (Or.inl (own_m 1 rfl)) (allS (P := fun x => x ∈ ([a, li, pf, pb, wb] : List Addr) ∨ h0.size ≤ x) (Or.inl (own_m 2 rfl)) all0)))
  have Va39 : Arv Z h39 li k_li .int (64 : Int32) [(.int 0), (.int 0), (.int 0), (.int 0), (.int 0), (.int 0), (.int 0), (.int 0), (.int 0), (.int 0), (.int 0), (.int 0), (.int 0), (.int 0), (.int 0), (.int 0), (.int 0), (.int 0), (.int 0), (.int 0), (.int 0), (.int 0), (.int 0), (.int 0), (.int 0), (.int 0), (.int 0), (.int 0), (.int 8), (.int 0), (.int 0), (.int 0), (.int 9), (.int 0), (.int 0), (.int 0), (.int 10), (.int 0), (.int 0), (.int 0), (.int 11), (.int 0), (.int 0), (.int 0), (.int 12), (.int 0), (.int 0), (.int 0), (.int 13), (.int 0), (.int 0), (.int 0), (.int 14), (.int 0), (.int 0), (.int 0), (.int 15), (.int 0), (.int 0), (.int 0), (.int (-1)), (.int 0), (.int 0), (.int 0)] (.int 0) := Vl39
  have f44 := (f40.keep K39 (ninS n6 (ninS n7 nin0)))
  obtain ⟨T43, L43, h43, X43, N43, e43, K43, Vl43, Vp43, st43⟩ := own_turn w_CA mr y1 y2 y3 a li pf k_li k_pf _ (6 : Int32) (5 : Int32) (24 : Int32) (27 : Int32) (7 : Int32) 24 27 X39 hx hZ hw hby hml hown e39 N39 O41 S_HI S_CA M_OA H_y1 H_y2 H_y3 E_y1 E_y2 E_y3 g_li g_pf n6 n7 n8 f44 Va39 Vp39 (by decide) (by decide) (by decide) ⟨by decide, by decide⟩ ⟨by decide, by decide⟩ (by decide) (by decide) (by decide) (by decide) (by decide)
  have O45 := O41.keep K43 (allS g_li (allS g_pf all0))
  have kp46 := kp42.trans K43 ((allS (P := fun x => x ∈ ([a, li, pf, pb, wb] : List Addr) ∨ h0.size ≤ x) (Or.inl (own_m 1 rfl)) (allS (P := fun x => x ∈ ([a, li, pf, pb, wb] : List Addr) ∨ h0.size ≤ x) (Or.inl (own_m 2 rfl)) all0)))
  have Va43 : Arv Z h43 li k_li .int (64 : Int32) [(.int 0), (.int 0), (.int 0), (.int 0), (.int 0), (.int 0), (.int 0), (.int 0), (.int 0), (.int 0), (.int 0), (.int 0), (.int 0), (.int 0), (.int 0), (.int 0), (.int 0), (.int 0), (.int 0), (.int 0), (.int 0), (.int 0), (.int 0), (.int 0), (.int 7), (.int 0), (.int 0), (.int 0), (.int 8), (.int 0), (.int 0), (.int 0), (.int 9), (.int 0), (.int 0), (.int 0), (.int 10), (.int 0), (.int 0), (.int 0), (.int 11), (.int 0), (.int 0), (.int 0), (.int 12), (.int 0), (.int 0), (.int 0), (.int 13), (.int 0), (.int 0), (.int 0), (.int 14), (.int 0), (.int 0), (.int 0), (.int 15), (.int 0), (.int 0), (.int 0), (.int (-1)), (.int 0), (.int 0), (.int 0)] (.int 0) := Vl43
  have f48 := (f44.keep K43 (ninS n6 (ninS n7 nin0)))
  obtain ⟨T47, L47, h47, X47, N47, e47, K47, Vl47, Vp47, st47⟩ := own_turn w_CA mr y1 y2 y3 a li pf k_li k_pf _ (5 : Int32) (4 : Int32) (20 : Int32) (23 : Int32) (6 : Int32) 20 23 X43 hx hZ hw hby hml hown e43 N43 O45 S_HI S_CA M_OA H_y1 H_y2 H_y3 E_y1 E_y2 E_y3 g_li g_pf n6 n7 n8 f48 Va43 Vp43 (by decide) (by decide) (by decide) ⟨by decide, by decide⟩ ⟨by decide, by decide⟩ (by decide) (by decide) (by decide) (by decide) (by decide)
  have O49 := O45.keep K47 (allS g_li (allS g_pf all0))
  have kp50 := kp46.trans K47 ((allS (P := fun x => x ∈ ([a, li, pf, pb, wb] : List Addr) ∨ h0.size ≤ x) (Or.inl (own_m 1 rfl)) (allS (P := fun x => x ∈ ([a, li, pf, pb, wb] : List Addr) ∨ h0.size ≤ x) (Or.inl (own_m 2 rfl)) all0)))
  have Va47 : Arv Z h47 li k_li .int (64 : Int32) [(.int 0), (.int 0), (.int 0), (.int 0), (.int 0), (.int 0), (.int 0), (.int 0), (.int 0), (.int 0), (.int 0), (.int 0), (.int 0), (.int 0), (.int 0), (.int 0), (.int 0), (.int 0), (.int 0), (.int 0), (.int 6), (.int 0), (.int 0), (.int 0), (.int 7), (.int 0), (.int 0), (.int 0), (.int 8), (.int 0), (.int 0), (.int 0), (.int 9), (.int 0), (.int 0), (.int 0), (.int 10), (.int 0), (.int 0), (.int 0), (.int 11), (.int 0), (.int 0), (.int 0), (.int 12), (.int 0), (.int 0), (.int 0), (.int 13), (.int 0), (.int 0), (.int 0), (.int 14), (.int 0), (.int 0), (.int 0), (.int 15), (.int 0), (.int 0), (.int 0), (.int (-1)), (.int 0), (.int 0), (.int 0)] (.int 0) := Vl47
  have f52 := (f48.keep K47 (ninS n6 (ninS n7 nin0)))
  obtain ⟨T51, L51, h51, X51, N51, e51, K51, Vl51, Vp51, st51⟩ := own_turn w_CA mr y1 y2 y3 a li pf k_li k_pf _ (4 : Int32) (3 : Int32) (16 : Int32) (19 : Int32) (5 : Int32) 16 19 X47 hx hZ hw hby hml hown e47 N47 O49 S_HI S_CA M_OA H_y1 H_y2 H_y3 E_y1 E_y2 E_y3 g_li g_pf n6 n7 n8 f52 Va47 Vp47 (by decide) (by decide) (by decide) ⟨by decide, by decide⟩ ⟨by decide, by decide⟩ (by decide) (by decide) (by decide) (by decide) (by decide)
  have O53 := O49.keep K51 (allS g_li (allS g_pf all0))
  have kp54 := kp50.trans K51 ((allS (P := fun x => x ∈ ([a, li, pf, pb, wb] : List Addr) ∨ h0.size ≤ x) (Or.inl (own_m 1 rfl)) (allS (P := fun x => x ∈ ([a, li, pf, pb, wb] : List Addr) ∨ h0.size ≤ x) (Or.inl (own_m 2 rfl)) all0)))
  have Va51 : Arv Z h51 li k_li .int (64 : Int32) [(.int 0), (.int 0), (.int 0), (.int 0), (.int 0), (.int 0), (.int 0), (.int 0), (.int 0), (.int 0), (.int 0), (.int 0), (.int 0), (.int 0), (.int 0), (.int 0), (.int 5), (.int 0), (.int 0), (.int 0), (.int 6), (.int 0), (.int 0), (.int 0), (.int 7), (.int 0), (.int 0), (.int 0), (.int 8), (.int 0), (.int 0), (.int 0), (.int 9), (.int 0), (.int 0), (.int 0), (.int 10), (.int 0), (.int 0), (.int 0), (.int 11), (.int 0), (.int 0), (.int 0), (.int 12), (.int 0), (.int 0), (.int 0), (.int 13), (.int 0), (.int 0), (.int 0), (.int 14), (.int 0), (.int 0), (.int 0), (.int 15), (.int 0), (.int 0), (.int 0), (.int (-1)), (.int 0), (.int 0), (.int 0)] (.int 0) := Vl51
  have f56 := (f52.keep K51 (ninS n6 (ninS n7 nin0)))
  obtain ⟨T55, L55, h55, X55, N55, e55, K55, Vl55, Vp55, st55⟩ := own_turn w_CA mr y1 y2 y3 a li pf k_li k_pf _ (3 : Int32) (2 : Int32) (12 : Int32) (15 : Int32) (4 : Int32) 12 15 X51 hx hZ hw hby hml hown e51 N51 O53 S_HI S_CA M_OA H_y1 H_y2 H_y3 E_y1 E_y2 E_y3 g_li g_pf n6 n7 n8 f56 Va51 Vp51 (by decide) (by decide) (by decide) ⟨by decide, by decide⟩ ⟨by decide, by decide⟩ (by decide) (by decide) (by decide) (by decide) (by decide)
  have O57 := O53.keep K55 (allS g_li (allS g_pf all0))
  have kp58 := kp54.trans K55 ((allS (P := fun x => x ∈ ([a, li, pf, pb, wb] : List Addr) ∨ h0.size ≤ x) (Or.inl (own_m 1 rfl)) (allS (P := fun x => x ∈ ([a, li, pf, pb, wb] : List Addr) ∨ h0.size ≤ x) (Or.inl (own_m 2 rfl)) all0)))
  have Va55 : Arv Z h55 li k_li .int (64 : Int32) [(.int 0), (.int 0), (.int 0), (.int 0), (.int 0), (.int 0), (.int 0), (.int 0), (.int 0), (.int 0), (.int 0), (.int 0), (.int 4), (.int 0), (.int 0), (.int 0), (.int 5), (.int 0), (.int 0), (.int 0), (.int 6), (.int 0), (.int 0), (.int 0), (.int 7), (.int 0), (.int 0), (.int 0), (.int 8), (.int 0), (.int 0), (.int 0), (.int 9), (.int 0), (.int 0), (.int 0), (.int 10), (.int 0), (.int 0), (.int 0), (.int 11), (.int 0), (.int 0), (.int 0), (.int 12), (.int 0), (.int 0), (.int 0), (.int 13), (.int 0), (.int 0), (.int 0), (.int 14), (.int 0), (.int 0), (.int 0), (.int 15), (.int 0), (.int 0), (.int 0), (.int (-1)), (.int 0), (.int 0), (.int 0)] (.int 0) := Vl55
  have f60 := (f56.keep K55 (ninS n6 (ninS n7 nin0)))
  obtain ⟨T59, L59, h59, X59, N59, e59, K59, Vl59, Vp59, st59⟩ := own_turn w_CA mr y1 y2 y3 a li pf k_li k_pf _ (2 : Int32) (1 : Int32) (8 : Int32) (11 : Int32) (3 : Int32) 8 11 X55 hx hZ hw hby hml hown e55 N55 O57 S_HI S_CA M_OA H_y1 H_y2 H_y3 E_y1 E_y2 E_y3 g_li g_pf n6 n7 n8 f60 Va55 Vp55 (by decide) (by decide) (by decide) ⟨by decide, by decide⟩ ⟨by decide, by decide⟩ (by decide) (by decide) (by decide) (by decide) (by decide)
  have O61 := O57.keep K59 (allS g_li (allS g_pf all0))
  have kp62 := kp58.trans K59 ((allS (P := fun x => x ∈ ([a, li, pf, pb, wb] : List Addr) ∨ h0.size ≤ x) (Or.inl (own_m 1 rfl)) (allS (P := fun x => x ∈ ([a, li, pf, pb, wb] : List Addr) ∨ h0.size ≤ x) (Or.inl (own_m 2 rfl)) all0)))
  have Va59 : Arv Z h59 li k_li .int (64 : Int32) [(.int 0), (.int 0), (.int 0), (.int 0), (.int 0), (.int 0), (.int 0), (.int 0), (.int 3), (.int 0), (.int 0), (.int 0), (.int 4), (.int 0), (.int 0), (.int 0), (.int 5), (.int 0), (.int 0), (.int 0), (.int 6), (.int 0), (.int 0), (.int 0), (.int 7), (.int 0), (.int 0), (.int 0), (.int 8), (.int 0), (.int 0), (.int 0), (.int 9), (.int 0), (.int 0), (.int 0), (.int 10), (.int 0), (.int 0), (.int 0), (.int 11), (.int 0), (.int 0), (.int 0), (.int 12), (.int 0), (.int 0), (.int 0), (.int 13), (.int 0), (.int 0), (.int 0), (.int 14), (.int 0), (.int 0), (.int 0), (.int 15), (.int 0), (.int 0), (.int 0), (.int (-1)), (.int 0), (.int 0), (.int 0)] (.int 0) := Vl59
  have f64 := (f60.keep K59 (ninS n6 (ninS n7 nin0)))
  obtain ⟨T63, L63, h63, X63, N63, e63, K63, Vl63, Vp63, st63⟩ := own_turn w_CA mr y1 y2 y3 a li pf k_li k_pf _ (1 : Int32) (0 : Int32) (4 : Int32) (7 : Int32) (2 : Int32) 4 7 X59 hx hZ hw hby hml hown e59 N59 O61 S_HI S_CA M_OA H_y1 H_y2 H_y3 E_y1 E_y2 E_y3 g_li g_pf n6 n7 n8 f64 Va59 Vp59 (by decide) (by decide) (by decide) ⟨by decide, by decide⟩ ⟨by decide, by decide⟩ (by decide) (by decide) (by decide) (by decide) (by decide)
  have O65 := O61.keep K63 (allS g_li (allS g_pf all0))
  have kp66 := kp62.trans K63 ((allS (P := fun x => x ∈ ([a, li, pf, pb, wb] : List Addr) ∨ h0.size ≤ x) (Or.inl (own_m 1 rfl)) (allS (P := fun x => x ∈ ([a, li, pf, pb, wb] : List Addr) ∨ h0.size ≤ x) (Or.inl (own_m 2 rfl)) all0)))
  have Va63 : Arv Z h63 li k_li .int (64 : Int32) [(.int 0), (.int 0), (.int 0), (.int 0), (.int 2), (.int 0), (.int 0), (.int 0), (.int 3), (.int 0), (.int 0), (.int 0), (.int 4), (.int 0), (.int 0), (.int 0), (.int 5), (.int 0), (.int 0), (.int 0), (.int 6), (.int 0), (.int 0), (.int 0), (.int 7), (.int 0), (.int 0), (.int 0), (.int 8), (.int 0), (.int 0), (.int 0), (.int 9), (.int 0), (.int 0), (.int 0), (.int 10), (.int 0), (.int 0), (.int 0), (.int 11), (.int 0), (.int 0), (.int 0), (.int 12), (.int 0), (.int 0), (.int 0), (.int 13), (.int 0), (.int 0), (.int 0), (.int 14), (.int 0), (.int 0), (.int 0), (.int 15), (.int 0), (.int 0), (.int 0), (.int (-1)), (.int 0), (.int 0), (.int 0)] (.int 0) := Vl63
  have f68 := (f64.keep K63 (ninS n6 (ninS n7 nin0)))
  obtain ⟨T67, L67, h67, X67, N67, e67, K67, Vl67, Vp67, st67⟩ := own_turn w_CA mr y1 y2 y3 a li pf k_li k_pf _ (0 : Int32) (-1 : Int32) (0 : Int32) (3 : Int32) (1 : Int32) 0 3 X63 hx hZ hw hby hml hown e63 N63 O65 S_HI S_CA M_OA H_y1 H_y2 H_y3 E_y1 E_y2 E_y3 g_li g_pf n6 n7 n8 f68 Va63 Vp63 (by decide) (by decide) (by decide) ⟨by decide, by decide⟩ ⟨by decide, by decide⟩ (by decide) (by decide) (by decide) (by decide) (by decide)
  have O69 := O65.keep K67 (allS g_li (allS g_pf all0))
  have kp70 := kp66.trans K67 ((allS (P := fun x => x ∈ ([a, li, pf, pb, wb] : List Addr) ∨ h0.size ≤ x) (Or.inl (own_m 1 rfl)) (allS (P := fun x => x ∈ ([a, li, pf, pb, wb] : List Addr) ∨ h0.size ≤ x) (Or.inl (own_m 2 rfl)) all0)))
  have Va67 : Arv Z h67 li k_li .int (64 : Int32) [(.int 1), (.int 0), (.int 0), (.int 0), (.int 2), (.int 0), (.int 0), (.int 0), (.int 3), (.int 0), (.int 0), (.int 0), (.int 4), (.int 0), (.int 0), (.int 0), (.int 5), (.int 0), (.int 0), (.int 0), (.int 6), (.int 0), (.int 0), (.int 0), (.int 7), (.int 0), (.int 0), (.int 0), (.int 8), (.int 0), (.int 0), (.int 0), (.int 9), (.int 0), (.int 0), (.int 0), (.int 10), (.int 0), (.int 0), (.int 0), (.int 11), (.int 0), (.int 0), (.int 0), (.int 12), (.int 0), (.int 0), (.int 0), (.int 13), (.int 0), (.int 0), (.int 0), (.int 14), (.int 0), (.int 0), (.int 0), (.int 15), (.int 0), (.int 0), (.int 0), (.int (-1)), (.int 0), (.int 0), (.int 0)] (.int 0) := Vl67
  have f71 := ((((((((((((((((pF_a_pagesWithRoom.keep K5 (ninS n6 (ninS n7 nin0))).keep K11 (ninS n6 (ninS n7 nin0))).keep K15 (ninS n6 (ninS n7 nin0))).keep K19 (ninS n6 (ninS n7 nin0))).keep K23 (ninS n6 (ninS n7 nin0))).keep K27 (ninS n6 (ninS n7 nin0))).keep K31 (ninS n6 (ninS n7 nin0))).keep K35 (ninS n6 (ninS n7 nin0))).keep K39 (ninS n6 (ninS n7 nin0))).keep K43 (ninS n6 (ninS n7 nin0))).keep K47 (ninS n6 (ninS n7 nin0))).keep K51 (ninS n6 (ninS n7 nin0))).keep K55 (ninS n6 (ninS n7 nin0))).keep K59 (ninS n6 (ninS n7 nin0))).keep K63 (ninS n6 (ninS n7 nin0))).keep K67 (ninS n6 (ninS n7 nin0)))
  obtain ⟨T72, X72, e72, st72⟩ := getF X67 hx hZ hown (host := "") (Or.inl (hw _ (own_m 45 rfl))) Via.refl e67 f71 (g := (mkF m 68 #[rv a, iv 0, iv 0, iv 16, rv li, iv 0, .val (.int (-1))] [(.ref a)])) rfl rfl (hb hby own_d14_68)
  have n73 : pb ≠ wb := (own_ne hN (i := 6) (j := 7) rfl rfl (by decide))
  have n74 : pt ≠ wb := (own_ne hN (i := 5) (j := 7) rfl rfl (by decide))
  have n75 : pt ≠ pb := (own_ne hN (i := 5) (j := 6) rfl rfl (by decide))
  have f76 := ((((((((((((((((pE_pt.keep K5).keep K11).keep K15).keep K19).keep K23).keep K27).keep K31).keep K35).keep K39).keep K43).keep K47).keep K51).keep K55).keep K59).keep K63).keep K67)
  have n77 : pt ≠ pf := (Ne.symm (own_ne hN (i := 3) (j := 5) rfl rfl (by decide)))
  have n78 : pt ≠ li := (Ne.symm (own_ne hN (i := 2) (j := 5) rfl rfl (by decide)))
  have f79 := ((((((((((((((((pF_pt_pageBits.keep K5 (ninS n78 (ninS n77 nin0))).keep K11 (ninS n78 (ninS n77 nin0))).keep K15 (ninS n78 (ninS n77 nin0))).keep K19 (ninS n78 (ninS n77 nin0))).keep K23 (ninS n78 (ninS n77 nin0))).keep K27 (ninS n78 (ninS n77 nin0))).keep K31 (ninS n78 (ninS n77 nin0))).keep K35 (ninS n78 (ninS n77 nin0))).keep K39 (ninS n78 (ninS n77 nin0))).keep K43 (ninS n78 (ninS n77 nin0))).keep K47 (ninS n78 (ninS n77 nin0))).keep K51 (ninS n78 (ninS n77 nin0))).keep K55 (ninS n78 (ninS n77 nin0))).keep K59 (ninS n78 (ninS n77 nin0))).keep K63 (ninS n78 (ninS n77 nin0))).keep K67 (ninS n78 (ninS n77 nin0)))
  have f80 := ((((((((((((((((pF_pt_wordBits.keep K5 (ninS n78 (ninS n77 nin0))).keep K11 (ninS n78 (ninS n77 nin0))).keep K15 (ninS n78 (ninS n77 nin0))).keep K19 (ninS n78 (ninS n77 nin0))).keep K23 (ninS n78 (ninS n77 nin0))).keep K27 (ninS n78 (ninS n77 nin0))).keep K31 (ninS n78 (ninS n77 nin0))).keep K35 (ninS n78 (ninS n77 nin0))).keep K39 (ninS n78 (ninS n77 nin0))).keep K43 (ninS n78 (ninS n77 nin0))).keep K47 (ninS n78 (ninS n77 nin0))).keep K51 (ninS n78 (ninS n77 nin0))).keep K55 (ninS n78 (ninS n77 nin0))).keep K59 (ninS n78 (ninS n77 nin0))).keep K63 (ninS n78 (ninS n77 nin0))).keep K67 (ninS n78 (ninS n77 nin0)))
  have n81 : pb ≠ pf := (Ne.symm (own_ne hN (i := 3) (j := 6) rfl rfl (by decide)))
  have n82 : pb ≠ li := (Ne.symm (own_ne hN (i := 2) (j := 6) rfl rfl (by decide)))
  have f83 := ((((((((((((((((pV_pb.keep K5 (ninS n82 (ninS n81 nin0))).keep K11 (ninS n82 (ninS n81 nin0))).keep K15 (ninS n82 (ninS n81 nin0))).keep K19 (ninS n82 (ninS n81 nin0))).keep K23 (ninS n82 (ninS n81 nin0))).keep K27 (ninS n82 (ninS n81 nin0))).keep K31 (ninS n82 (ninS n81 nin0))).keep K35 (ninS n82 (ninS n81 nin0))).keep K39 (ninS n82 (ninS n81 nin0))).keep K43 (ninS n82 (ninS n81 nin0))).keep K47 (ninS n82 (ninS n81 nin0))).keep K51 (ninS n82 (ninS n81 nin0))).keep K55 (ninS n82 (ninS n81 nin0))).keep K59 (ninS n82 (ninS n81 nin0))).keep K63 (ninS n82 (ninS n81 nin0))).keep K67 (ninS n82 (ninS n81 nin0)))
  have n84 : wb ≠ pf := (Ne.symm (own_ne hN (i := 3) (j := 7) rfl rfl (by decide)))
  have n85 : wb ≠ li := (Ne.symm (own_ne hN (i := 2) (j := 7) rfl rfl (by decide)))
  have f86 := ((((((((((((((((pV_wb.keep K5 (ninS n85 (ninS n84 nin0))).keep K11 (ninS n85 (ninS n84 nin0))).keep K15 (ninS n85 (ninS n84 nin0))).keep K19 (ninS n85 (ninS n84 nin0))).keep K23 (ninS n85 (ninS n84 nin0))).keep K27 (ninS n85 (ninS n84 nin0))).keep K31 (ninS n85 (ninS n84 nin0))).keep K35 (ninS n85 (ninS n84 nin0))).keep K39 (ninS n85 (ninS n84 nin0))).keep K43 (ninS n85 (ninS n84 nin0))).keep K47 (ninS n85 (ninS n84 nin0))).keep K51 (ninS n85 (ninS n84 nin0))).keep K55 (ninS n85 (ninS n84 nin0))).keep K59 (ninS n85 (ninS n84 nin0))).keep K63 (ninS n85 (ninS n84 nin0))).keep K67 (ninS n85 (ninS n84 nin0)))
  obtain ⟨cq87, kq87, q87a, q87b, q87c⟩ := isOf hZ e72 f76
  obtain ⟨_, _, ⟨T87, L87, k87, n87⟩, -, X87, ⟨Lc87, hQ87, l87, y87, z87⟩, st87⟩ := X72.virtualBack hx (y := (⟨"com/example/libspoke/libspoke/wheel/EntryTable$PageSet", "add", "(I)V"⟩ : MethodName)) (z := (⟨"com/example/libspoke/libspoke/wheel/EntryTable$PageSet", "add", "(I)V"⟩ : MethodName)) hown (mvT hZ (hw _ (own_m 110 rfl))) (mvT hZ (hw _ (own_m 111 rfl))) (notFace_of_selects (args := #[]) (mvT hZ (hw _ (own_m 113 rfl)))) (mvT hZ (hw _ (own_m 113 rfl))) (mvT hZ (hw _ (own_m 112 rfl))) (by decide) (backOf (W := 0) (own_pa l Z a0 hw [] w_CA mr y1 y2 y3 pt pb wb k_pb k_wb h67 n0 O69 S_HI S_CA M_OA H_y1 H_y2 H_y3 E_y1 E_y2 E_y3 (allS g_pt (allS g_pb (allS g_wb all0))) (own_ndc (allS n75 (allS n74 all0)) (own_ndc (allS n73 all0) (own_ndc all0 own_nd0))) f76 f79 f80 f83 f86) hZ (hw _ (own_m 114 rfl)) (hw _ (own_m 36 rfl)) (by decide) (by decide)) q87a q87c (g := (mkF m 72 #[rv a, iv 0, iv 0, iv 16, rv li, iv 0, .val (.int (-1))] [(.int 0), (.ref pt)])) rfl (by rw [hml]; rfl) (Steps.refl _) (argsL := [(.int 0)]) (rest := []) (lenOf own_pd5 rfl) rfl (by show 2 * 0 + _ ≤ _; exact Nat.le_of_eq rfl) (hb hby own_d14_72) (fun _ _ => ⟨rfl, e72, (by decide : 0 + 0 ≤ _), (by decide : 0 + 0 ≤ _)⟩)
  dsimp only [Pt.U, Pt.locs, Pt.cells, Pt.slots] at X87 l87 y87 z87 st87 hQ87
  subst l87 y87 z87
  obtain ⟨rfl, N87q, K87, q88, q89⟩ := hQ87
  have N87 := Fr.app N67 N87q
  have O90 := O69.keep K87 (allS g_pb (allS g_wb all0))
  have kp91 := kp70.trans K87 ((allS (P := fun x => x ∈ ([a, li, pf, pb, wb] : List Addr) ∨ h0.size ≤ x) (Or.inl (own_m 3 rfl)) (allS (P := fun x => x ∈ ([a, li, pf, pb, wb] : List Addr) ∨ h0.size ≤ x) (Or.inl (own_m 4 rfl)) all0)))
  have n92 : a ≠ wb := (own_ne hN (i := 0) (j := 7) rfl rfl (by decide))
  have n93 : a ≠ pb := (own_ne hN (i := 0) (j := 6) rfl rfl (by decide))
  have f94 := (((((((((((((((((pF_a_capacity.keep K5 (ninS n6 (ninS n7 nin0))).keep K11 (ninS n6 (ninS n7 nin0))).keep K15 (ninS n6 (ninS n7 nin0))).keep K19 (ninS n6 (ninS n7 nin0))).keep K23 (ninS n6 (ninS n7 nin0))).keep K27 (ninS n6 (ninS n7 nin0))).keep K31 (ninS n6 (ninS n7 nin0))).keep K35 (ninS n6 (ninS n7 nin0))).keep K39 (ninS n6 (ninS n7 nin0))).keep K43 (ninS n6 (ninS n7 nin0))).keep K47 (ninS n6 (ninS n7 nin0))).keep K51 (ninS n6 (ninS n7 nin0))).keep K55 (ninS n6 (ninS n7 nin0))).keep K59 (ninS n6 (ninS n7 nin0))).keep K63 (ninS n6 (ninS n7 nin0))).keep K67 (ninS n6 (ninS n7 nin0))).keep K87 (ninS n93 (ninS n92 nin0)))
  obtain ⟨T95, X95, e95, st95⟩ := getF X87 hx hZ hown (host := "") (Or.inl (hw _ (own_m 70 rfl))) Via.refl rfl f94 (g := (mkF m 77 #[rv a, iv 0, iv 0, iv 16, rv li, iv 0, .val (.int (-1))] [(.ref a), (.ref a)])) rfl rfl (hb hby own_d14_77)
  have f96 := (((((((((((((((((pE_a.keep K5).keep K11).keep K15).keep K19).keep K23).keep K27).keep K31).keep K35).keep K39).keep K43).keep K47).keep K51).keep K55).keep K59).keep K63).keep K67).keep K87)
  obtain ⟨T97, h97, X97, e97, W97, st97⟩ := putF X95 hx hZ hown (host := "") (Or.inl (hw _ (own_m 70 rfl))) Via.refl e95 f94 f96 (Or.inl (hw _ (own_m 71 rfl))) (hw _ (own_m 1 rfl)) (ty := .int) (by decide) rfl rfl (g := (mkF m 84 #[rv a, iv 0, iv 0, iv 16, rv li, iv 0, .val (.int (-1))] [(.int 16), (.ref a)])) rfl rfl (hb hby own_d14_84)
  have Fw97 := f94.same W97
  have O98 := O90.wr W97 g_a
  have kp99 := kp91.wr W97 (Or.inl (own_m 0 rfl))
  have N97 := Fr.snoc X97 N87 g_a
  have f100 := (f96.wr W97)
  have f101 := ((((((((((((((((((pF_a_itemPages.keep K5 (ninS n6 (ninS n7 nin0))).keep K11 (ninS n6 (ninS n7 nin0))).keep K15 (ninS n6 (ninS n7 nin0))).keep K19 (ninS n6 (ninS n7 nin0))).keep K23 (ninS n6 (ninS n7 nin0))).keep K27 (ninS n6 (ninS n7 nin0))).keep K31 (ninS n6 (ninS n7 nin0))).keep K35 (ninS n6 (ninS n7 nin0))).keep K39 (ninS n6 (ninS n7 nin0))).keep K43 (ninS n6 (ninS n7 nin0))).keep K47 (ninS n6 (ninS n7 nin0))).keep K51 (ninS n6 (ninS n7 nin0))).keep K55 (ninS n6 (ninS n7 nin0))).keep K59 (ninS n6 (ninS n7 nin0))).keep K63 (ninS n6 (ninS n7 nin0))).keep K67 (ninS n6 (ninS n7 nin0))).keep K87 (ninS n93 (ninS n92 nin0))).other W97 (Or.inr (slot_ne (Or.inl (hw _ (own_m 15 rfl))) (Or.inl (hw _ (own_m 71 rfl))) (by decide) (t := (.array (.array (.object "java/lang/Object")))) (t' := .int) (by decide) (by decide))))
  have f102 := ((((((((((((((((((pF_a_deadlinePages.keep K5 (ninS n6 (ninS n7 nin0))).keep K11 (ninS n6 (ninS n7 nin0))).keep K15 (ninS n6 (ninS n7 nin0))).keep K19 (ninS n6 (ninS n7 nin0))).keep K23 (ninS n6 (ninS n7 nin0))).keep K27 (ninS n6 (ninS n7 nin0))).keep K31 (ninS n6 (ninS n7 nin0))).keep K35 (ninS n6 (ninS n7 nin0))).keep K39 (ninS n6 (ninS n7 nin0))).keep K43 (ninS n6 (ninS n7 nin0))).keep K47 (ninS n6 (ninS n7 nin0))).keep K51 (ninS n6 (ninS n7 nin0))).keep K55 (ninS n6 (ninS n7 nin0))).keep K59 (ninS n6 (ninS n7 nin0))).keep K63 (ninS n6 (ninS n7 nin0))).keep K67 (ninS n6 (ninS n7 nin0))).keep K87 (ninS n93 (ninS n92 nin0))).other W97 (Or.inr (slot_ne (Or.inl (hw _ (own_m 21 rfl))) (Or.inl (hw _ (own_m 71 rfl))) (by decide) (t := (.array (.array .long))) (t' := .int) (by decide) (by decide))))
  have f103 := ((((((((((((((((((pF_a_linkPages.keep K5 (ninS n6 (ninS n7 nin0))).keep K11 (ninS n6 (ninS n7 nin0))).keep K15 (ninS n6 (ninS n7 nin0))).keep K19 (ninS n6 (ninS n7 nin0))).keep K23 (ninS n6 (ninS n7 nin0))).keep K27 (ninS n6 (ninS n7 nin0))).keep K31 (ninS n6 (ninS n7 nin0))).keep K35 (ninS n6 (ninS n7 nin0))).keep K39 (ninS n6 (ninS n7 nin0))).keep K43 (ninS n6 (ninS n7 nin0))).keep K47 (ninS n6 (ninS n7 nin0))).keep K51 (ninS n6 (ninS n7 nin0))).keep K55 (ninS n6 (ninS n7 nin0))).keep K59 (ninS n6 (ninS n7 nin0))).keep K63 (ninS n6 (ninS n7 nin0))).keep K67 (ninS n6 (ninS n7 nin0))).keep K87 (ninS n93 (ninS n92 nin0))).other W97 (Or.inr (slot_ne (Or.inl (hw _ (own_m 27 rfl))) (Or.inl (hw _ (own_m 71 rfl))) (by decide) (t := (.array (.array .int))) (t' := .int) (by decide) (by decide))))
  have f104 := ((((((((((((((((((pF_a_pageSizes.keep K5 (ninS n6 (ninS n7 nin0))).keep K11 (ninS n6 (ninS n7 nin0))).keep K15 (ninS n6 (ninS n7 nin0))).keep K19 (ninS n6 (ninS n7 nin0))).keep K23 (ninS n6 (ninS n7 nin0))).keep K27 (ninS n6 (ninS n7 nin0))).keep K31 (ninS n6 (ninS n7 nin0))).keep K35 (ninS n6 (ninS n7 nin0))).keep K39 (ninS n6 (ninS n7 nin0))).keep K43 (ninS n6 (ninS n7 nin0))).keep K47 (ninS n6 (ninS n7 nin0))).keep K51 (ninS n6 (ninS n7 nin0))).keep K55 (ninS n6 (ninS n7 nin0))).keep K59 (ninS n6 (ninS n7 nin0))).keep K63 (ninS n6 (ninS n7 nin0))).keep K67 (ninS n6 (ninS n7 nin0))).keep K87 (ninS n93 (ninS n92 nin0))).other W97 (Or.inr (slot_ne (Or.inl (hw _ (own_m 29 rfl))) (Or.inl (hw _ (own_m 71 rfl))) (by decide) (t := (.array .int)) (t' := .int) (by decide) (by decide))))
  have f105 := (((f68.keep K67 (ninS n6 (ninS n7 nin0))).keep K87 (ninS n93 (ninS n92 nin0))).other W97 (Or.inr (slot_ne (Or.inl (hw _ (own_m 31 rfl))) (Or.inl (hw _ (own_m 71 rfl))) (by decide) (t := (.array .int)) (t' := .int) (by decide) (by decide))))
  have f106 := ((((((((((((((((((pF_a_pageGenerations.keep K5 (ninS n6 (ninS n7 nin0))).keep K11 (ninS n6 (ninS n7 nin0))).keep K15 (ninS n6 (ninS n7 nin0))).keep K19 (ninS n6 (ninS n7 nin0))).keep K23 (ninS n6 (ninS n7 nin0))).keep K27 (ninS n6 (ninS n7 nin0))).keep K31 (ninS n6 (ninS n7 nin0))).keep K35 (ninS n6 (ninS n7 nin0))).keep K39 (ninS n6 (ninS n7 nin0))).keep K43 (ninS n6 (ninS n7 nin0))).keep K47 (ninS n6 (ninS n7 nin0))).keep K51 (ninS n6 (ninS n7 nin0))).keep K55 (ninS n6 (ninS n7 nin0))).keep K59 (ninS n6 (ninS n7 nin0))).keep K63 (ninS n6 (ninS n7 nin0))).keep K67 (ninS n6 (ninS n7 nin0))).keep K87 (ninS n93 (ninS n92 nin0))).other W97 (Or.inr (slot_ne (Or.inl (hw _ (own_m 33 rfl))) (Or.inl (hw _ (own_m 71 rfl))) (by decide) (t := (.array .int)) (t' := .int) (by decide) (by decide))))
  have f107 := ((f71.keep K87 (ninS n93 (ninS n92 nin0))).other W97 (Or.inr (slot_ne (Or.inr (hw _ (own_m 46 rfl))) (Or.inl (hw _ (own_m 71 rfl))) (by decide) (t := (.object "com/example/libspoke/libspoke/wheel/EntryTable$PageSet")) (t' := .int) (by decide) (by decide))))
  have f108 := ((((((((((((((((((pF_a_sparePage.keep K5 (ninS n6 (ninS n7 nin0))).keep K11 (ninS n6 (ninS n7 nin0))).keep K15 (ninS n6 (ninS n7 nin0))).keep K19 (ninS n6 (ninS n7 nin0))).keep K23 (ninS n6 (ninS n7 nin0))).keep K27 (ninS n6 (ninS n7 nin0))).keep K31 (ninS n6 (ninS n7 nin0))).keep K35 (ninS n6 (ninS n7 nin0))).keep K39 (ninS n6 (ninS n7 nin0))).keep K43 (ninS n6 (ninS n7 nin0))).keep K47 (ninS n6 (ninS n7 nin0))).keep K51 (ninS n6 (ninS n7 nin0))).keep K55 (ninS n6 (ninS n7 nin0))).keep K59 (ninS n6 (ninS n7 nin0))).keep K63 (ninS n6 (ninS n7 nin0))).keep K67 (ninS n6 (ninS n7 nin0))).keep K87 (ninS n93 (ninS n92 nin0))).other W97 (Or.inr (slot_ne (Or.inl (hw _ (own_m 48 rfl))) (Or.inl (hw _ (own_m 71 rfl))) (by decide) (t := .int) (t' := .int) (by decide) (by decide))))
  have f109 := ((((((((((((((((((pF_a_size.keep K5 (ninS n6 (ninS n7 nin0))).keep K11 (ninS n6 (ninS n7 nin0))).keep K15 (ninS n6 (ninS n7 nin0))).keep K19 (ninS n6 (ninS n7 nin0))).keep K23 (ninS n6 (ninS n7 nin0))).keep K27 (ninS n6 (ninS n7 nin0))).keep K31 (ninS n6 (ninS n7 nin0))).keep K35 (ninS n6 (ninS n7 nin0))).keep K39 (ninS n6 (ninS n7 nin0))).keep K43 (ninS n6 (ninS n7 nin0))).keep K47 (ninS n6 (ninS n7 nin0))).keep K51 (ninS n6 (ninS n7 nin0))).keep K55 (ninS n6 (ninS n7 nin0))).keep K59 (ninS n6 (ninS n7 nin0))).keep K63 (ninS n6 (ninS n7 nin0))).keep K67 (ninS n6 (ninS n7 nin0))).keep K87 (ninS n93 (ninS n92 nin0))).other W97 (Or.inr (slot_ne (Or.inl (hw _ (own_m 127 rfl))) (Or.inl (hw _ (own_m 71 rfl))) (by decide) (t := .int) (t' := .int) (by decide) (by decide))))
  have n110 : li ≠ wb := (own_ne hN (i := 2) (j := 7) rfl rfl (by decide))
  have n111 : li ≠ pb := (own_ne hN (i := 2) (j := 6) rfl rfl (by decide))
  have f112 := ((Va67.keep K87 (ninS n111 (ninS n110 nin0))).other W97 (Ne.symm n6))
  have n113 : pf ≠ wb := (own_ne hN (i := 3) (j := 7) rfl rfl (by decide))
  have n114 : pf ≠ pb := (own_ne hN (i := 3) (j := 6) rfl rfl (by decide))
  have f115 := ((Vp67.keep K87 (ninS n114 (ninS n113 nin0))).other W97 (Ne.symm n7))
  have f116 := (q88.other W97 (Ne.symm n93))
  have f117 := (q89.other W97 (Ne.symm n92))
  obtain ⟨fs, hr, hrun, hended, hW, hsame⟩ := X97.leave (v := none) (fun _ => rfl)
  refine ⟨_, _, pre0 _ ?_, hrun, hended, _, _, rfl, ?_, ⟨_, rfl⟩, hW, hsame.mono (by decide) (by decide)⟩
  · show Steps p.tables e below (s₁.setTop (mkF m 0 #[rv a, iv 0, iv 0, iv 16, .unset, .unset, .unset] [])) _
    refine XS.aloadN X0.here hx rfl (hb hby own_d14_0) rfl rfl ?_
    show Steps p.tables e below (s₁.setTop (mkF m 1 #[rv a, iv 0, iv 0, iv 16, .unset, .unset, .unset] [(.ref a)])) _
    refine st1 _ ?_
    show Steps p.tables e below (T1.setTop (mkF m 4 #[rv a, iv 0, iv 0, iv 16, .unset, .unset, .unset] [(.ref lp)])) _
    refine XS.iloadN X1.here hx rfl (hb hby own_d14_4) rfl ?_
    show Steps p.tables e below (T1.setTop (mkF m 5 #[rv a, iv 0, iv 0, iv 16, .unset, .unset, .unset] [(.int 0), (.ref lp)])) _
    refine X1.aaload hx (j := (0 : Int32)) (v := (.ref li)) (by rw [e1]; exact c2A.1) (State.isArrayOf_alike hZ.alike c2A.2.1) rfl c2A.2.2 c2in c2at (g := (mkF m 5 #[rv a, iv 0, iv 0, iv 16, .unset, .unset, .unset] [(.int 0), (.ref lp)])) rfl rfl (hb hby own_d14_5) _ ?_
    show Steps p.tables e below (T1.setTop (mkF m 6 #[rv a, iv 0, iv 0, iv 16, .unset, .unset, .unset] [(.ref li)])) _
    refine XS.astore X1.here hx rfl (hb hby own_d14_6) rfl rfl (l' := #[rv a, iv 0, iv 0, iv 16, rv li, .unset, .unset]) rfl ?_
    show Steps p.tables e below (T1.setTop (mkF m 8 #[rv a, iv 0, iv 0, iv 16, rv li, .unset, .unset] [])) _
    refine XS.aloadN X1.here hx rfl (hb hby own_d14_8) rfl rfl ?_
    show Steps p.tables e below (T1.setTop (mkF m 9 #[rv a, iv 0, iv 0, iv 16, rv li, .unset, .unset] [(.ref a)])) _
    refine st3 _ ?_
    show Steps p.tables e below (T3.setTop (mkF m 12 #[rv a, iv 0, iv 0, iv 16, rv li, .unset, .unset] [(.ref pg)])) _
    refine XS.iloadN X3.here hx rfl (hb hby own_d14_12) rfl ?_
    show Steps p.tables e below (T3.setTop (mkF m 13 #[rv a, iv 0, iv 0, iv 16, rv li, .unset, .unset] [(.int 0), (.ref pg)])) _
    refine X3.iaload hx (j := (0 : Int32)) (v := (.int 0)) (by rw [e3]; exact c4A.1) (State.isArrayOf_alike hZ.alike c4A.2.1) c4A.2.2 c4in c4at (g := (mkF m 13 #[rv a, iv 0, iv 0, iv 16, rv li, .unset, .unset] [(.int 0), (.ref pg)])) rfl rfl (hb hby own_d14_13) _ ?_
    show Steps p.tables e below (T3.setTop (mkF m 14 #[rv a, iv 0, iv 0, iv 16, rv li, .unset, .unset] [(.int 0)])) _
    refine XS.istore X3.here hx rfl (hb hby own_d14_14) rfl (l' := #[rv a, iv 0, iv 0, iv 16, rv li, iv 0, .unset]) rfl ?_
    show Steps p.tables e below (T3.setTop (mkF m 16 #[rv a, iv 0, iv 0, iv 16, rv li, iv 0, .unset] [])) _
    refine XS.iloadN X3.here hx rfl (hb hby own_d14_16) rfl ?_
    show Steps p.tables e below (T3.setTop (mkF m 17 #[rv a, iv 0, iv 0, iv 16, rv li, iv 0, .unset] [(.int 16)])) _
    refine XS.iconst X3.here hx rfl (hb hby own_d14_17) ?_
    show Steps p.tables e below (T3.setTop (mkF m 18 #[rv a, iv 0, iv 0, iv 16, rv li, iv 0, .unset] [(.int 1), (.int 16)])) _
    refine XS.isub X3.here hx rfl (hb hby own_d14_18) rfl ?_
    show Steps p.tables e below (T3.setTop (mkF m 19 #[rv a, iv 0, iv 0, iv 16, rv li, iv 0, .unset] [(.int ((16 : Int32) - (1 : Int32)))])) _
    refine own_top (v' := (.int 15)) (congrArg Value.int (by decide)) ?_
    show Steps p.tables e below (T3.setTop (mkF m 19 #[rv a, iv 0, iv 0, iv 16, rv li, iv 0, .unset] [(.int 15)])) _
    refine XS.istore X3.here hx rfl (hb hby own_d14_19) rfl (l' := #[rv a, iv 0, iv 0, iv 16, rv li, iv 0, iv 15]) rfl ?_
    show Steps p.tables e below (T3.setTop (mkF m 21 #[rv a, iv 0, iv 0, iv 16, rv li, iv 0, iv 15] [])) _
    refine st5 _ ?_
    show Steps p.tables e below (T5.setTop (mkF m 21 #[rv a, iv 0, iv 0, iv 16, rv li, iv 0, iv 14] [])) _
    refine st11 _ ?_
    show Steps p.tables e below (T11.setTop (mkF m 21 #[rv a, iv 0, iv 0, iv 16, rv li, iv 0, iv 13] [])) _
    refine st15 _ ?_
    show Steps p.tables e below (T15.setTop (mkF m 21 #[rv a, iv 0, iv 0, iv 16, rv li, iv 0, iv 12] [])) _
    refine st19 _ ?_
    show Steps p.tables e below (T19.setTop (mkF m 21 #[rv a, iv 0, iv 0, iv 16, rv li, iv 0, iv 11] [])) _
    refine st23 _ ?_
    show Steps p.tables e below (T23.setTop (mkF m 21 #[rv a, iv 0, iv 0, iv 16, rv li, iv 0, iv 10] [])) _
    refine st27 _ ?_
    show Steps p.tables e below (T27.setTop (mkF m 21 #[rv a, iv 0, iv 0, iv 16, rv li, iv 0, iv 9] [])) _
    refine st31 _ ?_
    show Steps p.tables e below (T31.setTop (mkF m 21 #[rv a, iv 0, iv 0, iv 16, rv li, iv 0, iv 8] [])) _
    refine st35 _ ?_
    show Steps p.tables e below (T35.setTop (mkF m 21 #[rv a, iv 0, iv 0, iv 16, rv li, iv 0, iv 7] [])) _
    refine st39 _ ?_
    show Steps p.tables e below (T39.setTop (mkF m 21 #[rv a, iv 0, iv 0, iv 16, rv li, iv 0, iv 6] [])) _
    refine st43 _ ?_
    show Steps p.tables e below (T43.setTop (mkF m 21 #[rv a, iv 0, iv 0, iv 16, rv li, iv 0, iv 5] [])) _
    refine st47 _ ?_
    show Steps p.tables e below (T47.setTop (mkF m 21 #[rv a, iv 0, iv 0, iv 16, rv li, iv 0, iv 4] [])) _
    refine st51 _ ?_
    show Steps p.tables e below (T51.setTop (mkF m 21 #[rv a, iv 0, iv 0, iv 16, rv li, iv 0, iv 3] [])) _
    refine st55 _ ?_
    show Steps p.tables e below (T55.setTop (mkF m 21 #[rv a, iv 0, iv 0, iv 16, rv li, iv 0, iv 2] [])) _
    refine st59 _ ?_
    show Steps p.tables e below (T59.setTop (mkF m 21 #[rv a, iv 0, iv 0, iv 16, rv li, iv 0, iv 1] [])) _
    refine st63 _ ?_
    show Steps p.tables e below (T63.setTop (mkF m 21 #[rv a, iv 0, iv 0, iv 16, rv li, iv 0, iv 0] [])) _
    refine st67 _ ?_
    show Steps p.tables e below (T67.setTop (mkF m 21 #[rv a, iv 0, iv 0, iv 16, rv li, iv 0, .val (.int (-1))] [])) _
    refine XS.iload X67.here hx rfl (hb hby own_d14_21) rfl ?_
    show Steps p.tables e below (T67.setTop (mkF m 23 #[rv a, iv 0, iv 0, iv 16, rv li, iv 0, .val (.int (-1))] [(.int (-1))])) _
    refine XS.iloadN X67.here hx rfl (hb hby own_d14_23) rfl ?_
    show Steps p.tables e below (T67.setTop (mkF m 24 #[rv a, iv 0, iv 0, iv 16, rv li, iv 0, .val (.int (-1))] [(.int 0), (.int (-1))])) _
    refine XS.icmpYes X67.here hx rfl (pc0 := 24) (pc' := 67) rfl (hb hby own_d14_24) rfl (tlt (by decide)).1 (by decide) (by decide) ?_
    show Steps p.tables e below (T67.setTop (mkF m 67 #[rv a, iv 0, iv 0, iv 16, rv li, iv 0, .val (.int (-1))] [])) _
    refine XS.aloadN X67.here hx rfl (hb hby own_d14_67) rfl rfl ?_
    show Steps p.tables e below (T67.setTop (mkF m 68 #[rv a, iv 0, iv 0, iv 16, rv li, iv 0, .val (.int (-1))] [(.ref a)])) _
    refine st72 _ ?_
    show Steps p.tables e below (T72.setTop (mkF m 71 #[rv a, iv 0, iv 0, iv 16, rv li, iv 0, .val (.int (-1))] [(.ref pt)])) _
    refine XS.iloadN X72.here hx rfl (hb hby own_d14_71) rfl ?_
    show Steps p.tables e below (T72.setTop (mkF m 72 #[rv a, iv 0, iv 0, iv 16, rv li, iv 0, .val (.int (-1))] [(.int 0), (.ref pt)])) _
    refine st87.trans ?_
    show Steps p.tables e below (T87.setTop (mkF m 75 #[rv a, iv 0, iv 0, iv 16, rv li, iv 0, .val (.int (-1))] [])) _
    refine XS.aloadN X87.here hx rfl (hb hby own_d14_75) rfl rfl ?_
    show Steps p.tables e below (T87.setTop (mkF m 76 #[rv a, iv 0, iv 0, iv 16, rv li, iv 0, .val (.int (-1))] [(.ref a)])) _
    refine XS.dup X87.here hx rfl (hb hby own_d14_76) rfl rfl ?_
    show Steps p.tables e below (T87.setTop (mkF m 77 #[rv a, iv 0, iv 0, iv 16, rv li, iv 0, .val (.int (-1))] [(.ref a), (.ref a)])) _
    refine st95 _ ?_
    show Steps p.tables e below (T95.setTop (mkF m 80 #[rv a, iv 0, iv 0, iv 16, rv li, iv 0, .val (.int (-1))] [(.int 0), (.ref a)])) _
    refine XS.iloadN X95.here hx rfl (hb hby own_d14_80) rfl ?_
    show Steps p.tables e below (T95.setTop (mkF m 81 #[rv a, iv 0, iv 0, iv 16, rv li, iv 0, .val (.int (-1))] [(.int 16), (.int 0), (.ref a)])) _
    refine XS.iloadN X95.here hx rfl (hb hby own_d14_81) rfl ?_
    show Steps p.tables e below (T95.setTop (mkF m 82 #[rv a, iv 0, iv 0, iv 16, rv li, iv 0, .val (.int (-1))] [(.int 0), (.int 16), (.int 0), (.ref a)])) _
    refine XS.isub X95.here hx rfl (hb hby own_d14_82) rfl ?_
    show Steps p.tables e below (T95.setTop (mkF m 83 #[rv a, iv 0, iv 0, iv 16, rv li, iv 0, .val (.int (-1))] [(.int ((16 : Int32) - (0 : Int32))), (.int 0), (.ref a)])) _
    refine own_top (v' := (.int 16)) (congrArg Value.int (by decide)) ?_
    show Steps p.tables e below (T95.setTop (mkF m 83 #[rv a, iv 0, iv 0, iv 16, rv li, iv 0, .val (.int (-1))] [(.int 16), (.int 0), (.ref a)])) _
    refine XS.iadd X95.here hx rfl (hb hby own_d14_83) rfl ?_
    show Steps p.tables e below (T95.setTop (mkF m 84 #[rv a, iv 0, iv 0, iv 16, rv li, iv 0, .val (.int (-1))] [(.int ((0 : Int32) + (16 : Int32))), (.ref a)])) _
    refine own_top (v' := (.int 16)) (congrArg Value.int (by decide)) ?_
    show Steps p.tables e below (T95.setTop (mkF m 84 #[rv a, iv 0, iv 0, iv 16, rv li, iv 0, .val (.int (-1))] [(.int 16), (.ref a)])) _
    refine st97 _ ?_
    show Steps p.tables e below (T97.setTop (mkF m 87 #[rv a, iv 0, iv 0, iv 16, rv li, iv 0, .val (.int (-1))] [])) _
    exact X97.returnOut hx Bd.returns (hb hby own_d14_87) hr
  · show own_ff_Q Z w_CA mr y1 y2 y3 a ip dp lp ps pf pg pt li pb wb k_lp k_li k_pf k_pg k_pb k_wb h0 n0 _ T97.heap _
    rw [e97]
    exact ⟨rfl, N97, kp99, f100, f101, f102, f103, f104, f105, f106, f107, f108, f109, Fw97, f112, f115, f116, f117⟩
theorem own_mr_ef (m : MethodId) (a : Addr) : entryFrame m #[(.ref a)] 3 = mkF m 0 #[rv a, .unset, .unset] [] := by first | (simp [entryFrame, mkF, argsToLocals, Value.category]; done) | rfl
def own_mr_Q (Z : State) (w_CA : Addr) (mr : Addr) (y1 : Addr) (y2 : Addr) (y3 : Addr) (a : Addr) (ip : Addr) (dp : Addr) (lp : Addr) (ps : Addr) (pf : Addr) (pg : Addr) (pt : Addr) (io : Addr) (lo : Addr) (li : Addr) (pb : Addr) (wb : Addr) (k_ip : ClassId) (k_io : ClassId) (k_dp : ClassId) (k_lo : ClassId) (k_lp : ClassId) (k_li : ClassId) (k_pf : ClassId) (k_pg : ClassId) (k_pb : ClassId) (k_wb : ClassId) (h0 : Heap) (n0 : Nat) (v : Option Value) (h : Heap) (L : List Loc) : Prop := ∃ (io2 lo2 li2 : Addr) (k_io2 k_lo2 k_li2 : ClassId), v = some (.int 0) ∧ Fr n0 L ∧ Keep h0 h [a, ip, dp, lp, pf, pb, wb] ∧ own_Nd [a, ip, io2, dp, lo2, lp, li2, pf, pg, pt, pb, wb] ∧ (∀ x ∈ ([io2, lo2, li2] : List Addr), h0.size ≤ x) ∧ Ovr Z k_io2 "java/lang/Object" ∧ Exa Z h a "com/example/libspoke/libspoke/wheel/EntryTable" ∧ Fld Z h a "com/example/libspoke/libspoke/wheel/EntryTable" "itemPages" "[[Ljava/lang/Object;" (.ref ip) ∧ Fld Z h a "com/example/libspoke/libspoke/wheel/EntryTable" "deadlinePages" "[[J" (.ref dp) ∧ Fld Z h a "com/example/libspoke/libspoke/wheel/EntryTable" "linkPages" "[[I" (.ref lp) ∧ Fld Z h a "com/example/libspoke/libspoke/wheel/EntryTable" "pageSizes" "[I" (.ref ps) ∧ Fld Z h a "com/example/libspoke/libspoke/wheel/EntryTable" "pageFirstFree" "[I" (.ref pf) ∧ Fld Z h a "com/example/libspoke/libspoke/wheel/EntryTable" "pageGenerations" "[I" (.ref pg) ∧ Fld Z h a "com/example/libspoke/libspoke/wheel/EntryTable" "pagesWithRoom" "Lcom/example/libspoke/libspoke/wheel/EntryTable$PageSet;" (.ref pt) ∧ Fld Z h a "com/example/libspoke/libspoke/wheel/EntryTable" "sparePage" "I" (.int (-1)) ∧ Fld Z h a "com/example/libspoke/libspoke/wheel/EntryTable" "size" "I" (.int 0) ∧ Fld Z h a "com/example/libspoke/libspoke/wheel/EntryTable" "capacity" "I" (.int 16) ∧ Arv Z h ip k_ip (.array (.object "java/lang/Object")) (1 : Int32) [(.ref io2)] .null ∧ Arv Z h io2 k_io2 (.object "java/lang/Object") (16 : Int32) [.null, .null, .null, .null, .null, .null, .null, .null, .null, .null, .null, .null, .null, .null, .null, .null] .null ∧ Arv Z h dp k_dp (.array .long) (1 : Int32) [(.ref lo2)] .null ∧ Arv Z h lo2 k_lo2 .long (16 : Int32) [(.long 0), (.long 0), (.long 0), (.long 0), (.long 0), (.long 0), (.long 0), (.long 0), (.long 0), (.long 0), (.long 0), (.long 0), (.long 0), (.long 0), (.long 0), (.long 0)] (.long 0) ∧ Arv Z h lp k_lp (.array .int) (1 : Int32) [(.ref li2)] .null ∧ Arv Z h li2 k_li2 .int (64 : Int32) [(.int 1), (.int 0), (.int 0), (.int 0), (.int 2), (.int 0), (.int 0), (.int 0), (.int 3), (.int 0), (.int 0), (.int 0), (.int 4), (.int 0), (.int 0), (.int 0), (.int 5), (.int 0), (.int 0), (.int 0), (.int 6), (.int 0), (.int 0), (.int 0), (.int 7), (.int 0), (.int 0), (.int 0), (.int 8), (.int 0), (.int 0), (.int 0), (.int 9), (.int 0), (.int 0), (.int 0), (.int 10), (.int 0), (.int 0), (.int 0), (.int 11), (.int 0), (.int 0), (.int 0), (.int 12), (.int 0), (.int 0), (.int 0), (.int 13), (.int 0), (.int 0), (.int 0), (.int 14), (.int 0), (.int 0), (.int 0), (.int 15), (.int 0), (.int 0), (.int 0), (.int (-1)), (.int 0), (.int 0), (.int 0)] (.int 0) ∧ Arv Z h pf k_pf .int (1 : Int32) [(.int 0)] (.int 0) ∧ Arv Z h pb k_pb .long (1 : Int32) [(.long 1)] (.long 0) ∧ Arv Z h wb k_wb .long (1 : Int32) [(.long 1)] (.long 0)
set_option maxRecDepth 65536 in
set_option maxHeartbeats 40000000 in
theorem own_mr (l : Launch) (Z : State) (a0 : Array Value) (hw : ∀ d ∈ tables_1, d.before a0 Z = true) (ws : List Jvm.Cond) (w_CA : Addr) (mr : Addr) (y1 : Addr) (y2 : Addr) (y3 : Addr) (a : Addr) (ip : Addr) (dp : Addr) (lp : Addr) (ps : Addr) (pf : Addr) (pg : Addr) (pt : Addr) (io : Addr) (lo : Addr) (li : Addr) (pb : Addr) (wb : Addr) (k_ip : ClassId) (k_io : ClassId) (k_dp : ClassId) (k_lo : ClassId) (k_lp : ClassId) (k_li : ClassId) (k_pf : ClassId) (k_pg : ClassId) (k_pb : ClassId) (k_wb : ClassId) (h0 : Heap) (n0 : Nat) (O0 : Old Z n0 h0) (S_HI : Sta Z Z.heap "java/lang/Integer$IntegerCache" "high" "I" (.int 127)) (S_CA : Sta Z Z.heap "java/lang/Integer$IntegerCache" "cache" "[Ljava/lang/Integer;" (.ref w_CA)) (M_OA : own_Mir Z "[Ljava/lang/Object;" mr) (H_y1 : own_At Z w_CA (129 : Int32) y1) (H_y2 : own_At Z w_CA (130 : Int32) y2) (H_y3 : own_At Z w_CA (131 : Int32) y3) (E_y1 : Exa Z Z.heap y1 "java/lang/Integer") (E_y2 : Exa Z Z.heap y2 "java/lang/Integer") (E_y3 : Exa Z Z.heap y3 "java/lang/Integer") (hG : ∀ x ∈ ([a, ip, io, dp, lo, lp, li, pf, pg, pt, pb, wb] : List Addr), n0 ≤ x) (hN : own_Nd [a, ip, io, dp, lo, lp, li, pf, pg, pt, pb, wb]) (pE_a : Exa Z h0 a "com/example/libspoke/libspoke/wheel/EntryTable") (pF_a_itemPages : Fld Z h0 a "com/example/libspoke/libspoke/wheel/EntryTable" "itemPages" "[[Ljava/lang/Object;" (.ref ip)) (pF_a_deadlinePages : Fld Z h0 a "com/example/libspoke/libspoke/wheel/EntryTable" "deadlinePages" "[[J" (.ref dp)) (pF_a_linkPages : Fld Z h0 a "com/example/libspoke/libspoke/wheel/EntryTable" "linkPages" "[[I" (.ref lp)) (pF_a_pageSizes : Fld Z h0 a "com/example/libspoke/libspoke/wheel/EntryTable" "pageSizes" "[I" (.ref ps)) (pF_a_pageFirstFree : Fld Z h0 a "com/example/libspoke/libspoke/wheel/EntryTable" "pageFirstFree" "[I" (.ref pf)) (pF_a_pageGenerations : Fld Z h0 a "com/example/libspoke/libspoke/wheel/EntryTable" "pageGenerations" "[I" (.ref pg)) (pF_a_pagesWithRoom : Fld Z h0 a "com/example/libspoke/libspoke/wheel/EntryTable" "pagesWithRoom" "Lcom/example/libspoke/libspoke/wheel/EntryTable$PageSet;" (.ref pt)) (pF_a_sparePage : Fld Z h0 a "com/example/libspoke/libspoke/wheel/EntryTable" "sparePage" "I" (.int (-1))) (pF_a_size : Fld Z h0 a "com/example/libspoke/libspoke/wheel/EntryTable" "size" "I" (.int 0)) (pF_a_capacity : Fld Z h0 a "com/example/libspoke/libspoke/wheel/EntryTable" "capacity" "I" (.int 0)) (pV_ip : Arv Z h0 ip k_ip (.array (.object "java/lang/Object")) (1 : Int32) [(.ref io)] .null) (pE_io : Exa Z h0 io "[Ljava/lang/Object;") (pV_io : Arv Z h0 io k_io (.object "java/lang/Object") (0 : Int32) [] .null) (pV_dp : Arv Z h0 dp k_dp (.array .long) (1 : Int32) [(.ref lo)] .null) (pV_lo : Arv Z h0 lo k_lo .long (0 : Int32) [] (.long 0)) (pV_lp : Arv Z h0 lp k_lp (.array .int) (1 : Int32) [(.ref li)] .null) (pV_li : Arv Z h0 li k_li .int (0 : Int32) [] (.int 0)) (pV_pf : Arv Z h0 pf k_pf .int (1 : Int32) [(.int (-1))] (.int 0)) (pV_pg : Arv Z h0 pg k_pg .int (1 : Int32) [(.int 0)] (.int 0)) (pE_pt : Exa Z h0 pt "com/example/libspoke/libspoke/wheel/EntryTable$PageSet") (pF_pt_pageBits : Fld Z h0 pt "com/example/libspoke/libspoke/wheel/EntryTable$PageSet" "pageBits" "[J" (.ref pb)) (pF_pt_wordBits : Fld Z h0 pt "com/example/libspoke/libspoke/wheel/EntryTable$PageSet" "wordBits" "[J" (.ref wb)) (pV_pb : Arv Z h0 pb k_pb .long (1 : Int32) [(.long 0)] (.long 0)) (pV_wb : Arv Z h0 wb k_wb .long (1 : Int32) [(.long 0)] (.long 0)) (O_ip : OvrA Z k_ip (.object "java/lang/Object") "[Ljava/lang/Object;") (O_dp : OvrA Z k_dp .long "[J") (O_lp : OvrA Z k_lp .int "[I") :
    MetFree l (⟨"com/example/libspoke/libspoke/wheel/EntryTable", "makeRoom", "()I"⟩ : MethodName) (head1 (Jvm.Cond.code (⟨"com/example/libspoke/libspoke/wheel/EntryTable", "makeRoom", "()I"⟩ : MethodName) prog_18_method_19_code 3 (some .int) :: ws) ({ frames := 3, cells := 3, slots := 96, locals := 48 } : Room)) (fun ar U => ar = #[(.ref a)] ∧ Z.Warmed39 U.vm ∧ U.heap = h0) (fun _ _ _ _ _ => True) (fun _ U oc U' => ∃ v L, oc = .returned v ∧ own_mr_Q Z w_CA mr y1 y2 y3 a ip dp lp ps pf pg pt io lo li pb wb k_ip k_io k_dp k_lo k_lp k_li k_pf k_pg k_pb k_wb h0 n0 v U'.heap L ∧ FrameEnd U oc U' L ({ frames := 3, cells := 3, slots := 96, locals := 48 } : Room).cells ({ frames := 3, cells := 3, slots := 96, locals := 48 } : Room).slots) := by
  refine MetFree.of_bodySF (plainFor_of_name own_pn0) hisR ?_
  intro p e s m args below meth c s₁ Bd hml0 hP hK
  obtain ⟨rfl, hZ, hh⟩ := hP
  have hx := Bd.exec
  have hby := Bd.bytes
  have hml : c.maxLocals = 3 := hml0
  have hown : s.vm.findClass "com/example/libspoke/libspoke/wheel/EntryTable" = some m.cls := findClass_of_methodNamed Bd.named
  have hnm := (name_of_methodNamed Bd.named Bd.method).1
  have X0 : Stand p l e ({ frames := 3, cells := 3, slots := 96, locals := 48 } : Room) s m #[(.ref a)] below meth c s₁ [] 0 0 := Stand.of_body Bd
  have e0 : s₁.heap = h0 := by rw [← hh, Bd.state]; rfl
  have N0 := Fr.nil n0
  have pre0 : ∀ t, Steps p.tables e below (s₁.setTop (mkF m 0 #[rv a, .unset, .unset] [])) t → Steps p.tables e below (s₁.setTop (entryFrame m #[(.ref a)] 3)) t := fun t k => castTop (own_mr_ef m a) k
  have kp0 := Keep.refl h0 ([a, ip, dp, lp, pf, pb, wb] : List Addr)
  have g_a : n0 ≤ a := hG _ (own_m 0 rfl)
  have g_ip : n0 ≤ ip := hG _ (own_m 1 rfl)
  have g_io : n0 ≤ io := hG _ (own_m 2 rfl)
  have g_dp : n0 ≤ dp := hG _ (own_m 3 rfl)
  have g_lo : n0 ≤ lo := hG _ (own_m 4 rfl)
  have g_lp : n0 ≤ lp := hG _ (own_m 5 rfl)
  have g_li : n0 ≤ li := hG _ (own_m 6 rfl)
  have g_pf : n0 ≤ pf := hG _ (own_m 7 rfl)
  have g_pg : n0 ≤ pg := hG _ (own_m 8 rfl)
  have g_pt : n0 ≤ pt := hG _ (own_m 9 rfl)
  have g_pb : n0 ≤ pb := hG _ (own_m 10 rfl)
  have g_wb : n0 ≤ wb := hG _ (own_m 11 rfl)
  obtain ⟨T1, X1, e1, st1⟩ := getF X0 hx hZ hown (host := "") (Or.inl (hw _ (own_m 70 rfl))) Via.refl e0 pF_a_capacity (g := (mkF m 1 #[rv a, .unset, .unset] [(.ref a)])) rfl rfl (hb hby own_d7_1)
  obtain ⟨T2, X2, e2, st2⟩ := getF X1 hx hZ hown (host := "") (Or.inl (hw _ (own_m 70 rfl))) Via.refl e1 pF_a_capacity (g := (mkF m 13 #[rv a, .unset, .unset] [(.ref a), (.int 16)])) rfl rfl (hb hby own_d7_13)
  obtain ⟨_, _, ⟨T3, L3, k3, n3⟩, -, X3, ⟨Lc3, hQ3, l3, y3, z3⟩, st3⟩ := Jvm.LawKit.callS X2 hx (y := (⟨"java/lang/Math", "max", "(II)I"⟩ : MethodName)) hown (mvT hZ (hw _ (own_m 72 rfl))) (mvT hZ (hw _ (own_m 73 rfl))) (mvT hZ (hw _ (own_m 74 rfl))) (mvT hZ (hw _ (own_m 75 rfl))) (by decide) (backOf (W := 0) (own_max l Z a0 hw [] w_CA mr y1 y2 y3  h0 n0 O0 S_HI S_CA M_OA H_y1 H_y2 H_y3 E_y1 E_y2 E_y3 ) hZ (hw _ (own_m 75 rfl)) (hw _ (own_m 74 rfl)) (by decide) (by decide)) (g := (mkF m 18 #[rv a, .unset, .unset] [(.int 0), (.int 16)])) rfl (by rw [hml]; rfl) (argsL := [(.int 16), (.int 0)]) (rest := []) (lenOf own_pd3 rfl) rfl (by show 2 * 0 + _ ≤ _; exact Nat.le_of_eq rfl) (hb hby own_d7_18) (fun _ _ => ⟨rfl, e2, (by decide : 0 + 0 ≤ _), (by decide : 0 + 0 ≤ _)⟩)
  dsimp only [Pt.U, Pt.locs, Pt.cells, Pt.slots] at X3 l3 y3 z3 st3 hQ3
  subst l3 y3 z3
  obtain ⟨rfl, N3q, e3⟩ := hQ3
  have N3 := Fr.app N0 N3q
  obtain ⟨T4, X4, e4, st4⟩ := getF X3 hx hZ hown (host := "") (Or.inl (hw _ (own_m 14 rfl))) Via.refl e3 pF_a_itemPages (g := (mkF m 23 #[rv a, iv 16, .unset] [(.ref a)])) rfl rfl (hb hby own_d7_23)
  obtain ⟨T5, X5, e5, st5⟩ := getF X4 hx hZ hown (host := "") (Or.inl (hw _ (own_m 14 rfl))) Via.refl e4 pF_a_itemPages (g := (mkF m 28 #[rv a, iv 16, .unset] [(.ref a), (.int 0), (.ref ip)])) rfl rfl (hb hby own_d7_28)
  obtain ⟨c6, c6A, c6q, c6S, c6N, c6H, c6G⟩ := id pV_ip
  have c6in : ¬ ((0 : Int32) < 0 ∨ c6.slots.size ≤ ((0 : Int32)).toNatClampNeg) := inb_of c6S ⟨by decide, by decide⟩
  have c6at : c6.slots[((0 : Int32)).toNatClampNeg]? = some (.ref io) := Has.at c6H c6in rfl
  obtain ⟨_, _, ⟨T7, L7, k7, n7⟩, -, X7, ⟨Lc7, hQ7, l7, y7, z7⟩, st7⟩ := Jvm.LawKit.callS X5 hx (y := (⟨"java/util/Arrays", "copyOf", "([Ljava/lang/Object;I)[Ljava/lang/Object;"⟩ : MethodName)) hown (mvT hZ (hw _ (own_m 76 rfl))) (mvT hZ (hw _ (own_m 77 rfl))) (mvT hZ (hw _ (own_m 78 rfl))) (mvT hZ (hw _ (own_m 79 rfl))) (by decide) (backOf (W := 2) (own_cp2 l Z a0 hw [] w_CA mr y1 y2 y3 io k_io h0 n0 O0 S_HI S_CA M_OA H_y1 H_y2 H_y3 E_y1 E_y2 E_y3 pE_io pV_io) hZ (hw _ (own_m 79 rfl)) (hw _ (own_m 78 rfl)) (by decide) (by decide)) (g := (mkF m 34 #[rv a, iv 16, .unset] [(.int 16), (.ref io), (.int 0), (.ref ip)])) rfl (by rw [hml]; rfl) (argsL := [(.ref io), (.int 16)]) (rest := [(.int 0), (.ref ip)]) (lenOf own_pd6 rfl) rfl (by show 2 * 0 + _ ≤ _; exact Nat.le_of_eq rfl) (hb hby own_d7_34) (fun _ _ => ⟨rfl, e5, (by decide : 0 + 1 ≤ _), (by decide : 0 + 16 ≤ _)⟩)
  dsimp only [Pt.U, Pt.locs, Pt.cells, Pt.slots] at X7 l7 y7 z7 st7 hQ7
  subst l7 y7 z7
  obtain ⟨io2, k_io2, rfl, N7q, K7, nd7, sz7, O_io2, q8, q9⟩ := hQ7
  have N7 := Fr.app N3 N7q
  have ne_a_io2 : a ≠ io2 := Nat.ne_of_lt (Nat.lt_of_lt_of_le pE_a.lt (sz7 _ (own_m 0 rfl)))
  have ne_ip_io2 : ip ≠ io2 := Nat.ne_of_lt (Nat.lt_of_lt_of_le pV_ip.lt (sz7 _ (own_m 0 rfl)))
  have ne_io_io2 : io ≠ io2 := Nat.ne_of_lt (Nat.lt_of_lt_of_le pE_io.lt (sz7 _ (own_m 0 rfl)))
  have ne_dp_io2 : dp ≠ io2 := Nat.ne_of_lt (Nat.lt_of_lt_of_le pV_dp.lt (sz7 _ (own_m 0 rfl)))
  have ne_lo_io2 : lo ≠ io2 := Nat.ne_of_lt (Nat.lt_of_lt_of_le pV_lo.lt (sz7 _ (own_m 0 rfl)))
  have ne_lp_io2 : lp ≠ io2 := Nat.ne_of_lt (Nat.lt_of_lt_of_le pV_lp.lt (sz7 _ (own_m 0 rfl)))
  have ne_li_io2 : li ≠ io2 := Nat.ne_of_lt (Nat.lt_of_lt_of_le pV_li.lt (sz7 _ (own_m 0 rfl)))
  have ne_pf_io2 : pf ≠ io2 := Nat.ne_of_lt (Nat.lt_of_lt_of_le pV_pf.lt (sz7 _ (own_m 0 rfl)))
  have ne_pg_io2 : pg ≠ io2 := Nat.ne_of_lt (Nat.lt_of_lt_of_le pV_pg.lt (sz7 _ (own_m 0 rfl)))
  have ne_pt_io2 : pt ≠ io2 := Nat.ne_of_lt (Nat.lt_of_lt_of_le pE_pt.lt (sz7 _ (own_m 0 rfl)))
  have ne_pb_io2 : pb ≠ io2 := Nat.ne_of_lt (Nat.lt_of_lt_of_le pV_pb.lt (sz7 _ (own_m 0 rfl)))
  have ne_wb_io2 : wb ≠ io2 := Nat.ne_of_lt (Nat.lt_of_lt_of_le pV_wb.lt (sz7 _ (own_m 0 rfl)))
  have gg_io2 : n0 ≤ io2 := Nat.le_trans (own_le O0) (sz7 _ (own_m 0 rfl))
  have sz_io2 : h0.size ≤ io2 := Nat.le_trans kp0.1 (sz7 _ (own_m 0 rfl))
  have O10 := O0.keep K7 all0
  have kp11 := kp0.trans K7 (all0)
  have f12 := (pV_ip.keep K7 nin0)
  obtain ⟨c13, c13A, c13q, c13S, c13N, c13H, c13G⟩ := id f12
  have c13in : ¬ ((0 : Int32) < 0 ∨ c13.slots.size ≤ ((0 : Int32)).toNatClampNeg) := inb_of c13S ⟨by decide, by decide⟩
  obtain ⟨T14, h14, X14, e14, W14, st14⟩ := stR X7 hx hZ rfl c13A (j := (0 : Int32)) c13in rfl (Sto.ofVA c13A c13q O_ip (Ins.self q8)) (g := (mkF m 37 #[rv a, iv 16, .unset] [(.ref io2), (.int 0), (.ref ip)])) rfl rfl (hb hby own_d7_37)
  have V14 : Arv Z h14 ip k_ip (.array (.object "java/lang/Object")) (1 : Int32) [(.ref io2)] .null := Arv.set c13A c13q c13S c13N c13H c13G rfl W14 0 rfl (Nat.le_of_ble_eq_true rfl)
  have O15 := O10.wr W14 g_ip
  have kp16 := kp11.wr W14 (Or.inl (own_m 1 rfl))
  have N14 := Fr.snoc X14 N7 g_ip
  have n17 : a ≠ ip := (own_ne hN (i := 0) (j := 1) rfl rfl (by decide))
  have f18 := ((pF_a_deadlinePages.keep K7 nin0).other W14 (Or.inl n17))
  obtain ⟨T19, X19, e19, st19⟩ := getF X14 hx hZ hown (host := "") (Or.inl (hw _ (own_m 20 rfl))) Via.refl e14 f18 (g := (mkF m 39 #[rv a, iv 16, .unset] [(.ref a)])) rfl rfl (hb hby own_d7_39)
  obtain ⟨T20, X20, e20, st20⟩ := getF X19 hx hZ hown (host := "") (Or.inl (hw _ (own_m 20 rfl))) Via.refl e19 f18 (g := (mkF m 44 #[rv a, iv 16, .unset] [(.ref a), (.int 0), (.ref dp)])) rfl rfl (hb hby own_d7_44)
  have n21 : dp ≠ ip := (Ne.symm (own_ne hN (i := 1) (j := 3) rfl rfl (by decide)))
  have f22 := ((pV_dp.keep K7 nin0).other W14 n21)
  obtain ⟨c23, c23A, c23q, c23S, c23N, c23H, c23G⟩ := id f22
  have c23in : ¬ ((0 : Int32) < 0 ∨ c23.slots.size ≤ ((0 : Int32)).toNatClampNeg) := inb_of c23S ⟨by decide, by decide⟩
  have c23at : c23.slots[((0 : Int32)).toNatClampNeg]? = some (.ref lo) := Has.at c23H c23in rfl
  have n24 : lo ≠ ip := (Ne.symm (own_ne hN (i := 1) (j := 4) rfl rfl (by decide)))
  have f25 := ((pV_lo.keep K7 nin0).other W14 n24)
  obtain ⟨_, _, ⟨T26, L26, k26, n26⟩, -, X26, ⟨Lc26, hQ26, l26, y26, z26⟩, st26⟩ := Jvm.LawKit.callS X20 hx (y := (⟨"java/util/Arrays", "copyOf", "([JI)[J"⟩ : MethodName)) hown (mvT hZ (hw _ (own_m 97 rfl))) (mvT hZ (hw _ (own_m 98 rfl))) (mvT hZ (hw _ (own_m 78 rfl))) (mvT hZ (hw _ (own_m 99 rfl))) (by decide) (backOf (W := 2) (own_cpl l Z a0 hw [] w_CA mr y1 y2 y3 lo k_lo h14 n0 O15 S_HI S_CA M_OA H_y1 H_y2 H_y3 E_y1 E_y2 E_y3 f25) hZ (hw _ (own_m 99 rfl)) (hw _ (own_m 78 rfl)) (by decide) (by decide)) (g := (mkF m 50 #[rv a, iv 16, .unset] [(.int 16), (.ref lo), (.int 0), (.ref dp)])) rfl (by rw [hml]; rfl) (argsL := [(.ref lo), (.int 16)]) (rest := [(.int 0), (.ref dp)]) (lenOf own_pd7 rfl) rfl (by show 2 * 0 + _ ≤ _; exact Nat.le_of_eq rfl) (hb hby own_d7_50) (fun _ _ => ⟨rfl, e20, (by decide : 1 + 1 ≤ _), (by decide : 16 + 16 ≤ _)⟩)
  dsimp only [Pt.U, Pt.locs, Pt.cells, Pt.slots] at X26 l26 y26 z26 st26 hQ26
  subst l26 y26 z26
  obtain ⟨lo2, k_lo2, rfl, N26q, K26, nd26, sz26, q27, q28⟩ := hQ26
  have N26 := Fr.app N14 N26q
  have f29 := ((pE_a.keep K7).wr W14)
  have f30 := ((pE_io.keep K7).wr W14)
  have n31 : lp ≠ ip := (Ne.symm (own_ne hN (i := 1) (j := 5) rfl rfl (by decide)))
  have f32 := ((pV_lp.keep K7 nin0).other W14 n31)
  have n33 : li ≠ ip := (Ne.symm (own_ne hN (i := 1) (j := 6) rfl rfl (by decide)))
  have f34 := ((pV_li.keep K7 nin0).other W14 n33)
  have n35 : pf ≠ ip := (Ne.symm (own_ne hN (i := 1) (j := 7) rfl rfl (by decide)))
  have f36 := ((pV_pf.keep K7 nin0).other W14 n35)
  have n37 : pg ≠ ip := (Ne.symm (own_ne hN (i := 1) (j := 8) rfl rfl (by decide)))
  have f38 := ((pV_pg.keep K7 nin0).other W14 n37)
  have f39 := ((pE_pt.keep K7).wr W14)
  have n40 : pb ≠ ip := (Ne.symm (own_ne hN (i := 1) (j := 10) rfl rfl (by decide)))
  have f41 := ((pV_pb.keep K7 nin0).other W14 n40)
  have n42 : wb ≠ ip := (Ne.symm (own_ne hN (i := 1) (j := 11) rfl rfl (by decide)))
  have f43 := ((pV_wb.keep K7 nin0).other W14 n42)
  have f44 := (q8.wr W14)
  have ne_a_lo2 : a ≠ lo2 := Nat.ne_of_lt (Nat.lt_of_lt_of_le f29.lt (sz26 _ (own_m 0 rfl)))
  have ne_ip_lo2 : ip ≠ lo2 := Nat.ne_of_lt (Nat.lt_of_lt_of_le V14.lt (sz26 _ (own_m 0 rfl)))
  have ne_io_lo2 : io ≠ lo2 := Nat.ne_of_lt (Nat.lt_of_lt_of_le f30.lt (sz26 _ (own_m 0 rfl)))
  have ne_dp_lo2 : dp ≠ lo2 := Nat.ne_of_lt (Nat.lt_of_lt_of_le f22.lt (sz26 _ (own_m 0 rfl)))
  have ne_lo_lo2 : lo ≠ lo2 := Nat.ne_of_lt (Nat.lt_of_lt_of_le f25.lt (sz26 _ (own_m 0 rfl)))
  have ne_lp_lo2 : lp ≠ lo2 := Nat.ne_of_lt (Nat.lt_of_lt_of_le f32.lt (sz26 _ (own_m 0 rfl)))
  have ne_li_lo2 : li ≠ lo2 := Nat.ne_of_lt (Nat.lt_of_lt_of_le f34.lt (sz26 _ (own_m 0 rfl)))
  have ne_pf_lo2 : pf ≠ lo2 := Nat.ne_of_lt (Nat.lt_of_lt_of_le f36.lt (sz26 _ (own_m 0 rfl)))
  have ne_pg_lo2 : pg ≠ lo2 := Nat.ne_of_lt (Nat.lt_of_lt_of_le f38.lt (sz26 _ (own_m 0 rfl)))
  have ne_pt_lo2 : pt ≠ lo2 := Nat.ne_of_lt (Nat.lt_of_lt_of_le f39.lt (sz26 _ (own_m 0 rfl)))
  have ne_pb_lo2 : pb ≠ lo2 := Nat.ne_of_lt (Nat.lt_of_lt_of_le f41.lt (sz26 _ (own_m 0 rfl)))
  have ne_wb_lo2 : wb ≠ lo2 := Nat.ne_of_lt (Nat.lt_of_lt_of_le f43.lt (sz26 _ (own_m 0 rfl)))
  have ne_io2_lo2 : io2 ≠ lo2 := Nat.ne_of_lt (Nat.lt_of_lt_of_le f44.lt (sz26 _ (own_m 0 rfl)))
  have gg_lo2 : n0 ≤ lo2 := Nat.le_trans (own_le O15) (sz26 _ (own_m 0 rfl))
  have sz_lo2 : h0.size ≤ lo2 := Nat.le_trans kp16.1 (sz26 _ (own_m 0 rfl))
  have O45 := O15.keep K26 all0
  have kp46 := kp16.trans K26 (all0)
  have f47 := (f22.keep K26 nin0)
  obtain ⟨c48, c48A, c48q, c48S, c48N, c48H, c48G⟩ := id f47
  have c48in : ¬ ((0 : Int32) < 0 ∨ c48.slots.size ≤ ((0 : Int32)).toNatClampNeg) := inb_of c48S ⟨by decide, by decide⟩
  obtain ⟨T49, h49, X49, e49, W49, st49⟩ := stR X26 hx hZ rfl c48A (j := (0 : Int32)) c48in rfl (Sto.ofVA c48A c48q O_dp (Ins.self q27)) (g := (mkF m 53 #[rv a, iv 16, .unset] [(.ref lo2), (.int 0), (.ref dp)])) rfl rfl (hb hby own_d7_53)
  have V49 : Arv Z h49 dp k_dp (.array .long) (1 : Int32) [(.ref lo2)] .null := Arv.set c48A c48q c48S c48N c48H c48G rfl W49 0 rfl (Nat.le_of_ble_eq_true rfl)
  have O50 := O45.wr W49 g_dp
  have kp51 := kp46.wr W49 (Or.inl (own_m 2 rfl))
  have N49 := Fr.snoc X49 N26 g_dp
  have n52 : a ≠ dp := (own_ne hN (i := 0) (j := 3) rfl rfl (by decide))
  have f53 := ((((pF_a_linkPages.keep K7 nin0).other W14 (Or.inl n17)).keep K26 nin0).other W49 (Or.inl n52))
  obtain ⟨T54, X54, e54, st54⟩ := getF X49 hx hZ hown (host := "") (Or.inl (hw _ (own_m 26 rfl))) Via.refl e49 f53 (g := (mkF m 55 #[rv a, iv 16, .unset] [(.ref a)])) rfl rfl (hb hby own_d7_55)
  obtain ⟨T55, X55, e55, st55⟩ := getF X54 hx hZ hown (host := "") (Or.inl (hw _ (own_m 26 rfl))) Via.refl e54 f53 (g := (mkF m 60 #[rv a, iv 16, .unset] [(.ref a), (.int 0), (.ref lp)])) rfl rfl (hb hby own_d7_60)
  have n56 : lp ≠ dp := (Ne.symm (own_ne hN (i := 3) (j := 5) rfl rfl (by decide)))
  have f57 := ((f32.keep K26 nin0).other W49 n56)
  obtain ⟨c58, c58A, c58q, c58S, c58N, c58H, c58G⟩ := id f57
  have c58in : ¬ ((0 : Int32) < 0 ∨ c58.slots.size ≤ ((0 : Int32)).toNatClampNeg) := inb_of c58S ⟨by decide, by decide⟩
  have c58at : c58.slots[((0 : Int32)).toNatClampNeg]? = some (.ref li) := Has.at c58H c58in rfl
  have n59 : li ≠ dp := (Ne.symm (own_ne hN (i := 3) (j := 6) rfl rfl (by decide)))
  have f60 := ((f34.keep K26 nin0).other W49 n59)
  obtain ⟨_, _, ⟨T61, L61, k61, n61⟩, -, X61, ⟨Lc61, hQ61, l61, y61, z61⟩, st61⟩ := Jvm.LawKit.callS X55 hx (y := (⟨"java/util/Arrays", "copyOf", "([II)[I"⟩ : MethodName)) hown (mvT hZ (hw _ (own_m 100 rfl))) (mvT hZ (hw _ (own_m 101 rfl))) (mvT hZ (hw _ (own_m 78 rfl))) (mvT hZ (hw _ (own_m 102 rfl))) (by decide) (backOf (W := 2) (own_cpi l Z a0 hw [] w_CA mr y1 y2 y3 li k_li h49 n0 O50 S_HI S_CA M_OA H_y1 H_y2 H_y3 E_y1 E_y2 E_y3 f60) hZ (hw _ (own_m 102 rfl)) (hw _ (own_m 78 rfl)) (by decide) (by decide)) (g := (mkF m 68 #[rv a, iv 16, .unset] [(.int 64), (.ref li), (.int 0), (.ref lp)])) rfl (by rw [hml]; rfl) (argsL := [(.ref li), (.int 64)]) (rest := [(.int 0), (.ref lp)]) (lenOf own_pd8 rfl) rfl (by show 2 * 0 + _ ≤ _; exact Nat.le_of_eq rfl) (hb hby own_d7_68) (fun _ _ => ⟨rfl, e55, (by decide : 2 + 1 ≤ _), (by decide : 32 + 64 ≤ _)⟩)
  dsimp only [Pt.U, Pt.locs, Pt.cells, Pt.slots] at X61 l61 y61 z61 st61 hQ61
  subst l61 y61 z61
  obtain ⟨li2, k_li2, rfl, N61q, K61, nd61, sz61, q62, q63⟩ := hQ61
  have N61 := Fr.app N49 N61q
  have f64 := ((f29.keep K26).wr W49)
  have n65 : ip ≠ dp := (own_ne hN (i := 1) (j := 3) rfl rfl (by decide))
  have f66 := ((V14.keep K26 nin0).other W49 n65)
  have f67 := ((f30.keep K26).wr W49)
  have n68 : lo ≠ dp := (Ne.symm (own_ne hN (i := 3) (j := 4) rfl rfl (by decide)))
  have f69 := ((f25.keep K26 nin0).other W49 n68)
  have n70 : pf ≠ dp := (Ne.symm (own_ne hN (i := 3) (j := 7) rfl rfl (by decide)))
  have f71 := ((f36.keep K26 nin0).other W49 n70)
  have n72 : pg ≠ dp := (Ne.symm (own_ne hN (i := 3) (j := 8) rfl rfl (by decide)))
  have f73 := ((f38.keep K26 nin0).other W49 n72)
  have f74 := ((f39.keep K26).wr W49)
  have n75 : pb ≠ dp := (Ne.symm (own_ne hN (i := 3) (j := 10) rfl rfl (by decide)))
  have f76 := ((f41.keep K26 nin0).other W49 n75)
  have n77 : wb ≠ dp := (Ne.symm (own_ne hN (i := 3) (j := 11) rfl rfl (by decide)))
  have f78 := ((f43.keep K26 nin0).other W49 n77)
  have f79 := ((f44.keep K26).wr W49)
  have f80 := (q27.wr W49)
  have ne_a_li2 : a ≠ li2 := Nat.ne_of_lt (Nat.lt_of_lt_of_le f64.lt (sz61 _ (own_m 0 rfl)))
  have ne_ip_li2 : ip ≠ li2 := Nat.ne_of_lt (Nat.lt_of_lt_of_le f66.lt (sz61 _ (own_m 0 rfl)))
  have ne_io_li2 : io ≠ li2 := Nat.ne_of_lt (Nat.lt_of_lt_of_le f67.lt (sz61 _ (own_m 0 rfl)))
  have ne_dp_li2 : dp ≠ li2 := Nat.ne_of_lt (Nat.lt_of_lt_of_le V49.lt (sz61 _ (own_m 0 rfl)))
  have ne_lo_li2 : lo ≠ li2 := Nat.ne_of_lt (Nat.lt_of_lt_of_le f69.lt (sz61 _ (own_m 0 rfl)))
  have ne_lp_li2 : lp ≠ li2 := Nat.ne_of_lt (Nat.lt_of_lt_of_le f57.lt (sz61 _ (own_m 0 rfl)))
  have ne_li_li2 : li ≠ li2 := Nat.ne_of_lt (Nat.lt_of_lt_of_le f60.lt (sz61 _ (own_m 0 rfl)))
  have ne_pf_li2 : pf ≠ li2 := Nat.ne_of_lt (Nat.lt_of_lt_of_le f71.lt (sz61 _ (own_m 0 rfl)))
  have ne_pg_li2 : pg ≠ li2 := Nat.ne_of_lt (Nat.lt_of_lt_of_le f73.lt (sz61 _ (own_m 0 rfl)))
  have ne_pt_li2 : pt ≠ li2 := Nat.ne_of_lt (Nat.lt_of_lt_of_le f74.lt (sz61 _ (own_m 0 rfl)))
  have ne_pb_li2 : pb ≠ li2 := Nat.ne_of_lt (Nat.lt_of_lt_of_le f76.lt (sz61 _ (own_m 0 rfl)))
  have ne_wb_li2 : wb ≠ li2 := Nat.ne_of_lt (Nat.lt_of_lt_of_le f78.lt (sz61 _ (own_m 0 rfl)))
  have ne_io2_li2 : io2 ≠ li2 := Nat.ne_of_lt (Nat.lt_of_lt_of_le f79.lt (sz61 _ (own_m 0 rfl)))
  have ne_lo2_li2 : lo2 ≠ li2 := Nat.ne_of_lt (Nat.lt_of_lt_of_le f80.lt (sz61 _ (own_m 0 rfl)))
  have gg_li2 : n0 ≤ li2 := Nat.le_trans (own_le O50) (sz61 _ (own_m 0 rfl))
  have sz_li2 : h0.size ≤ li2 := Nat.le_trans kp51.1 (sz61 _ (own_m 0 rfl))
  have O81 := O50.keep K61 all0
  have kp82 := kp51.trans K61 (all0)
  have f83 := (f57.keep K61 nin0)
  obtain ⟨c84, c84A, c84q, c84S, c84N, c84H, c84G⟩ := id f83
  have c84in : ¬ ((0 : Int32) < 0 ∨ c84.slots.size ≤ ((0 : Int32)).toNatClampNeg) := inb_of c84S ⟨by decide, by decide⟩
  obtain ⟨T85, h85, X85, e85, W85, st85⟩ := stR X61 hx hZ rfl c84A (j := (0 : Int32)) c84in rfl (Sto.ofVA c84A c84q O_lp (Ins.self q62)) (g := (mkF m 71 #[rv a, iv 16, .unset] [(.ref li2), (.int 0), (.ref lp)])) rfl rfl (hb hby own_d7_71)
  have V85 : Arv Z h85 lp k_lp (.array .int) (1 : Int32) [(.ref li2)] .null := Arv.set c84A c84q c84S c84N c84H c84G rfl W85 0 rfl (Nat.le_of_ble_eq_true rfl)
  have O86 := O81.wr W85 g_lp
  have kp87 := kp82.wr W85 (Or.inl (own_m 3 rfl))
  have N85 := Fr.snoc X85 N61 g_lp
  have n88 : a ≠ lp := (own_ne hN (i := 0) (j := 5) rfl rfl (by decide))
  have f89 := ((((((pF_a_capacity.keep K7 nin0).other W14 (Or.inl n17)).keep K26 nin0).other W49 (Or.inl n52)).keep K61 nin0).other W85 (Or.inl n88))
  obtain ⟨T90, X90, e90, st90⟩ := getF X85 hx hZ hown (host := "") (Or.inl (hw _ (own_m 70 rfl))) Via.refl e85 f89 (g := (mkF m 75 #[rv a, iv 16, .unset] [(.ref a), (.int 0), (.ref a)])) rfl rfl (hb hby own_d7_75)
  have n91 : pb ≠ wb := (own_ne hN (i := 10) (j := 11) rfl rfl (by decide))
  have n92 : pt ≠ wb := (own_ne hN (i := 9) (j := 11) rfl rfl (by decide))
  have n93 : pt ≠ pb := (own_ne hN (i := 9) (j := 10) rfl rfl (by decide))
  have n94 : pg ≠ wb := (own_ne hN (i := 8) (j := 11) rfl rfl (by decide))
  have n95 : pg ≠ pb := (own_ne hN (i := 8) (j := 10) rfl rfl (by decide))
  have n96 : pg ≠ pt := (own_ne hN (i := 8) (j := 9) rfl rfl (by decide))
  have n97 : pf ≠ wb := (own_ne hN (i := 7) (j := 11) rfl rfl (by decide))
  have n98 : pf ≠ pb := (own_ne hN (i := 7) (j := 10) rfl rfl (by decide))
  have n99 : pf ≠ pt := (own_ne hN (i := 7) (j := 9) rfl rfl (by decide))
  have n100 : pf ≠ pg := (own_ne hN (i := 7) (j := 8) rfl rfl (by decide))
  have n101 : lp ≠ wb := (own_ne hN (i := 5) (j := 11) rfl rfl (by decide))
  have n102 : lp ≠ pb := (own_ne hN (i := 5) (j := 10) rfl rfl (by decide))
  have n103 : lp ≠ pt := (own_ne hN (i := 5) (j := 9) rfl rfl (by decide))
  have n104 : lp ≠ pg := (own_ne hN (i := 5) (j := 8) rfl rfl (by decide))
  have n105 : lp ≠ pf := (own_ne hN (i := 5) (j := 7) rfl rfl (by decide))
  have n106 : a ≠ wb := (own_ne hN (i := 0) (j := 11) rfl rfl (by decide))
  have n107 : a ≠ pb := (own_ne hN (i := 0) (j := 10) rfl rfl (by decide))
  have n108 : a ≠ pt := (own_ne hN (i := 0) (j := 9) rfl rfl (by decide))
  have n109 : a ≠ pg := (own_ne hN (i := 0) (j := 8) rfl rfl (by decide))
  have n110 : a ≠ pf := (own_ne hN (i := 0) (j := 7) rfl rfl (by decide))
  have f111 := ((f64.keep K61).wr W85)
  have f112 := ((((((pF_a_itemPages.keep K7 nin0).other W14 (Or.inl n17)).keep K26 nin0).other W49 (Or.inl n52)).keep K61 nin0).other W85 (Or.inl n88))
  have f113 := ((((f18.keep K26 nin0).other W49 (Or.inl n52)).keep K61 nin0).other W85 (Or.inl n88))
  have f114 := ((f53.keep K61 nin0).other W85 (Or.inl n88))
  have f115 := ((((((pF_a_pageSizes.keep K7 nin0).other W14 (Or.inl n17)).keep K26 nin0).other W49 (Or.inl n52)).keep K61 nin0).other W85 (Or.inl n88))
  have f116 := ((((((pF_a_pageFirstFree.keep K7 nin0).other W14 (Or.inl n17)).keep K26 nin0).other W49 (Or.inl n52)).keep K61 nin0).other W85 (Or.inl n88))
  have f117 := ((((((pF_a_pageGenerations.keep K7 nin0).other W14 (Or.inl n17)).keep K26 nin0).other W49 (Or.inl n52)).keep K61 nin0).other W85 (Or.inl n88))
  have f118 := ((((((pF_a_pagesWithRoom.keep K7 nin0).other W14 (Or.inl n17)).keep K26 nin0).other W49 (Or.inl n52)).keep K61 nin0).other W85 (Or.inl n88))
  have f119 := ((((((pF_a_sparePage.keep K7 nin0).other W14 (Or.inl n17)).keep K26 nin0).other W49 (Or.inl n52)).keep K61 nin0).other W85 (Or.inl n88))
  have f120 := ((((((pF_a_size.keep K7 nin0).other W14 (Or.inl n17)).keep K26 nin0).other W49 (Or.inl n52)).keep K61 nin0).other W85 (Or.inl n88))
  have f121 := (q63.other W85 (Ne.symm ne_lp_li2))
  have f122 := ((f71.keep K61 nin0).other W85 (Ne.symm n105))
  have f123 := ((f73.keep K61 nin0).other W85 (Ne.symm n104))
  have f124 := ((f74.keep K61).wr W85)
  have n125 : pt ≠ ip := (Ne.symm (own_ne hN (i := 1) (j := 9) rfl rfl (by decide)))
  have n126 : pt ≠ dp := (Ne.symm (own_ne hN (i := 3) (j := 9) rfl rfl (by decide)))
  have f127 := ((((((pF_pt_pageBits.keep K7 nin0).other W14 (Or.inl n125)).keep K26 nin0).other W49 (Or.inl n126)).keep K61 nin0).other W85 (Or.inl (Ne.symm n103)))
  have f128 := ((((((pF_pt_wordBits.keep K7 nin0).other W14 (Or.inl n125)).keep K26 nin0).other W49 (Or.inl n126)).keep K61 nin0).other W85 (Or.inl (Ne.symm n103)))
  have f129 := ((f76.keep K61 nin0).other W85 (Ne.symm n102))
  have f130 := ((f78.keep K61 nin0).other W85 (Ne.symm n101))
  obtain ⟨cq131, q131, q131'⟩ := f111.cell
  obtain ⟨_, _, ⟨T131, L131, k131, n131⟩, -, X131, ⟨Lc131, hQ131, l131, y131, z131⟩, st131⟩ := X90.privateBack hx (y := (⟨"com/example/libspoke/libspoke/wheel/EntryTable", "freeNewNumbers", "(III)V"⟩ : MethodName)) hown (mvT hZ (hw _ (own_m 103 rfl))) (mvT hZ (hw _ (own_m 104 rfl))) (own_selP (y0 := (⟨"com/example/libspoke/libspoke/wheel/EntryTable", "add", "(Ljava/lang/Object;J)I"⟩ : MethodName)) (mvT hZ (hw _ (own_m 59 rfl))) rfl (Cond.privateMethod_at (mvP hZ (hw _ (own_m 105 rfl)) (args := #[]))) (mvT hZ (hw _ (own_m 104 rfl))) (by decide)) (Cond.privateMethod_at (mvP hZ (hw _ (own_m 105 rfl)) (args := #[]))) (mvT hZ (hw _ (own_m 106 rfl))) (by decide) (backOf (W := 0) (own_ff l Z a0 hw [] w_CA mr y1 y2 y3 a ip dp lp ps pf pg pt li2 pb wb k_lp k_li2 k_pf k_pg k_pb k_wb h85 n0 O86 S_HI S_CA M_OA H_y1 H_y2 H_y3 E_y1 E_y2 E_y3 (allS g_a (allS g_lp (allS gg_li2 (allS g_pf (allS g_pg (allS g_pt (allS g_pb (allS g_wb all0)))))))) (own_ndc (allS n88 (allS ne_a_li2 (allS n110 (allS n109 (allS n108 (allS n107 (allS n106 all0))))))) (own_ndc (allS ne_lp_li2 (allS n105 (allS n104 (allS n103 (allS n102 (allS n101 all0)))))) (own_ndc (allS (Ne.symm ne_pf_li2) (allS (Ne.symm ne_pg_li2) (allS (Ne.symm ne_pt_li2) (allS (Ne.symm ne_pb_li2) (allS (Ne.symm ne_wb_li2) all0))))) (own_ndc (allS n100 (allS n99 (allS n98 (allS n97 all0)))) (own_ndc (allS n96 (allS n95 (allS n94 all0))) (own_ndc (allS n93 (allS n92 all0)) (own_ndc (allS n91 all0) (own_ndc all0 own_nd0)))))))) f111 f112 f113 f114 f115 f116 f117 f118 f119 f120 f89 V85 f121 f122 f123 f124 f127 f128 f129 f130 O_lp) hZ (hw _ (own_m 106 rfl)) (hw _ (own_m 2 rfl)) (by decide) (by decide)) (g := (mkF m 79 #[rv a, iv 16, .unset] [(.int 16), (.int 0), (.int 0), (.ref a)])) rfl (by rw [hml]; rfl) (Steps.refl _) (a := a) (by rw [e90]; exact q131) q131' (argsL := [(.int 0), (.int 0), (.int 16)]) (rest := []) (lenOf own_pd9 rfl) rfl (by show 2 * 0 + _ ≤ _; exact Nat.le_of_eq rfl) (hb hby own_d7_79) (fun _ _ => ⟨rfl, e90, (by decide : 3 + 0 ≤ _), (by decide : 96 + 0 ≤ _)⟩)
  dsimp only [Pt.U, Pt.locs, Pt.cells, Pt.slots] at X131 l131 y131 z131 st131 hQ131
  subst l131 y131 z131
  obtain ⟨rfl, N131q, K131, q132, q133, q134, q135, q136, q137, q138, q139, q140, q141, q142, q143, q144, q145, q146⟩ := hQ131
  have N131 := Fr.app N85 N131q
  have O147 := O86.keep K131 (allS g_a (allS gg_li2 (allS g_pf (allS g_pb (allS g_wb all0)))))
  have kp148 := kp87.trans K131 ((allS (P := fun x => x ∈ ([a, ip, dp, lp, pf, pb, wb] : List Addr) ∨ h0.size ≤ x) (Or.inl (own_m 0 rfl)) (allS (P := fun x => x ∈ ([a, ip, dp, lp, pf, pb, wb] : List Addr) ∨ h0.size ≤ x) (Or.inr sz_li2) (allS (P := fun x => x ∈ ([a, ip, dp, lp, pf, pb, wb] : List Addr) ∨ h0.size ≤ x) (Or.inl (own_m 4 rfl)) (allS (P := fun x => x ∈ ([a, ip, dp, lp, pf, pb, wb] : List Addr) ∨ h0.size ≤ x) (Or.inl (own_m 5 rfl)) (allS (P := fun x => x ∈ ([a, ip, dp, lp, pf, pb, wb] : List Addr) ∨ h0.size ≤ x) (Or.inl (own_m 6 rfl)) all0))))))
  have n149 : dp ≠ wb := (own_ne hN (i := 3) (j := 11) rfl rfl (by decide))
  have n150 : dp ≠ pb := (own_ne hN (i := 3) (j := 10) rfl rfl (by decide))
  have n151 : dp ≠ pt := (own_ne hN (i := 3) (j := 9) rfl rfl (by decide))
  have n152 : dp ≠ pg := (own_ne hN (i := 3) (j := 8) rfl rfl (by decide))
  have n153 : dp ≠ pf := (own_ne hN (i := 3) (j := 7) rfl rfl (by decide))
  have n154 : dp ≠ lp := (own_ne hN (i := 3) (j := 5) rfl rfl (by decide))
  have n155 : ip ≠ wb := (own_ne hN (i := 1) (j := 11) rfl rfl (by decide))
  have n156 : ip ≠ pb := (own_ne hN (i := 1) (j := 10) rfl rfl (by decide))
  have n157 : ip ≠ pt := (own_ne hN (i := 1) (j := 9) rfl rfl (by decide))
  have n158 : ip ≠ pg := (own_ne hN (i := 1) (j := 8) rfl rfl (by decide))
  have n159 : ip ≠ pf := (own_ne hN (i := 1) (j := 7) rfl rfl (by decide))
  have n160 : ip ≠ lp := (own_ne hN (i := 1) (j := 5) rfl rfl (by decide))
  have f161 := (((f66.keep K61 nin0).other W85 n160).keep K131 (ninS (Ne.symm n17) (ninS ne_ip_li2 (ninS n159 (ninS n156 (ninS n155 nin0))))))
  have f162 := ((((((q9.other W14 (Ne.symm ne_ip_io2)).keep K26 nin0).other W49 (Ne.symm ne_dp_io2)).keep K61 nin0).other W85 (Ne.symm ne_lp_io2)).keep K131 (ninS (Ne.symm ne_a_io2) (ninS ne_io2_li2 (ninS (Ne.symm ne_pf_io2) (ninS (Ne.symm ne_pb_io2) (ninS (Ne.symm ne_wb_io2) nin0))))))
  have f163 := (((V49.keep K61 nin0).other W85 n154).keep K131 (ninS (Ne.symm n52) (ninS ne_dp_li2 (ninS n153 (ninS n150 (ninS n149 nin0))))))
  have f164 := ((((q28.other W49 (Ne.symm ne_dp_lo2)).keep K61 nin0).other W85 (Ne.symm ne_lp_lo2)).keep K131 (ninS (Ne.symm ne_a_lo2) (ninS ne_lo2_li2 (ninS (Ne.symm ne_pf_lo2) (ninS (Ne.symm ne_pb_lo2) (ninS (Ne.symm ne_wb_lo2) nin0))))))
  have f165 := (V85.keep K131 (ninS (Ne.symm n88) (ninS ne_lp_li2 (ninS n105 (ninS n102 (ninS n101 nin0))))))
  obtain ⟨fs, hr, hrun, hended, hW, hsame⟩ := X131.leave (v := some (.int 0)) (fun h => by rw [Bd.returns] at h; cases h)
  refine ⟨_, _, pre0 _ ?_, hrun, hended, _, _, rfl, ?_, ⟨_, rfl⟩, hW, hsame.mono (by decide) (by decide)⟩
  · show Steps p.tables e below (s₁.setTop (mkF m 0 #[rv a, .unset, .unset] [])) _
    refine XS.aloadN X0.here hx rfl (hb hby own_d7_0) rfl rfl ?_
    show Steps p.tables e below (s₁.setTop (mkF m 1 #[rv a, .unset, .unset] [(.ref a)])) _
    refine st1 _ ?_
    show Steps p.tables e below (T1.setTop (mkF m 4 #[rv a, .unset, .unset] [(.int 0)])) _
    refine XS.sipush X1.here hx rfl (hb hby own_d7_4) ?_
    show Steps p.tables e below (T1.setTop (mkF m 7 #[rv a, .unset, .unset] [(.int 4096), (.int 0)])) _
    refine XS.icmpNo X1.here hx rfl (hb hby own_d7_7) rfl (tlt (by decide)).2.1 ?_
    show Steps p.tables e below (T1.setTop (mkF m 10 #[rv a, .unset, .unset] [])) _
    refine XS.bipush X1.here hx rfl (hb hby own_d7_10) ?_
    show Steps p.tables e below (T1.setTop (mkF m 12 #[rv a, .unset, .unset] [(.int 16)])) _
    refine XS.aloadN X1.here hx rfl (hb hby own_d7_12) rfl rfl ?_
    show Steps p.tables e below (T1.setTop (mkF m 13 #[rv a, .unset, .unset] [(.ref a), (.int 16)])) _
    refine st2 _ ?_
    show Steps p.tables e below (T2.setTop (mkF m 16 #[rv a, .unset, .unset] [(.int 0), (.int 16)])) _
    refine XS.iconst X2.here hx rfl (hb hby own_d7_16) ?_
    show Steps p.tables e below (T2.setTop (mkF m 17 #[rv a, .unset, .unset] [(.int 2), (.int 0), (.int 16)])) _
    refine XS.imul X2.here hx rfl (hb hby own_d7_17) rfl ?_
    show Steps p.tables e below (T2.setTop (mkF m 18 #[rv a, .unset, .unset] [(.int ((0 : Int32) * (2 : Int32))), (.int 16)])) _
    refine own_top (v' := (.int 0)) (congrArg Value.int (by decide)) ?_
    show Steps p.tables e below (T2.setTop (mkF m 18 #[rv a, .unset, .unset] [(.int 0), (.int 16)])) _
    refine st3 _ ?_
    show Steps p.tables e below (T3.setTop (mkF m 21 #[rv a, .unset, .unset] [(.int 16)])) _
    refine XS.istoreN X3.here hx rfl (hb hby own_d7_21) rfl (l' := #[rv a, iv 16, .unset]) rfl ?_
    show Steps p.tables e below (T3.setTop (mkF m 22 #[rv a, iv 16, .unset] [])) _
    refine XS.aloadN X3.here hx rfl (hb hby own_d7_22) rfl rfl ?_
    show Steps p.tables e below (T3.setTop (mkF m 23 #[rv a, iv 16, .unset] [(.ref a)])) _
    refine st4 _ ?_
    show Steps p.tables e below (T4.setTop (mkF m 26 #[rv a, iv 16, .unset] [(.ref ip)])) _
    refine XS.iconst X4.here hx rfl (hb hby own_d7_26) ?_
    show Steps p.tables e below (T4.setTop (mkF m 27 #[rv a, iv 16, .unset] [(.int 0), (.ref ip)])) _
    refine XS.aloadN X4.here hx rfl (hb hby own_d7_27) rfl rfl ?_
    show Steps p.tables e below (T4.setTop (mkF m 28 #[rv a, iv 16, .unset] [(.ref a), (.int 0), (.ref ip)])) _
    refine st5 _ ?_
    show Steps p.tables e below (T5.setTop (mkF m 31 #[rv a, iv 16, .unset] [(.ref ip), (.int 0), (.ref ip)])) _
    refine XS.iconst X5.here hx rfl (hb hby own_d7_31) ?_
    show Steps p.tables e below (T5.setTop (mkF m 32 #[rv a, iv 16, .unset] [(.int 0), (.ref ip), (.int 0), (.ref ip)])) _
    refine X5.aaload hx (j := (0 : Int32)) (v := (.ref io)) (by rw [e5]; exact c6A.1) (State.isArrayOf_alike hZ.alike c6A.2.1) rfl c6A.2.2 c6in c6at (g := (mkF m 32 #[rv a, iv 16, .unset] [(.int 0), (.ref ip), (.int 0), (.ref ip)])) rfl rfl (hb hby own_d7_32) _ ?_
    show Steps p.tables e below (T5.setTop (mkF m 33 #[rv a, iv 16, .unset] [(.ref io), (.int 0), (.ref ip)])) _
    refine XS.iloadN X5.here hx rfl (hb hby own_d7_33) rfl ?_
    show Steps p.tables e below (T5.setTop (mkF m 34 #[rv a, iv 16, .unset] [(.int 16), (.ref io), (.int 0), (.ref ip)])) _
    refine st7 _ ?_
    show Steps p.tables e below (T7.setTop (mkF m 37 #[rv a, iv 16, .unset] [(.ref io2), (.int 0), (.ref ip)])) _
    refine st14 _ ?_
    show Steps p.tables e below (T14.setTop (mkF m 38 #[rv a, iv 16, .unset] [])) _
    refine XS.aloadN X14.here hx rfl (hb hby own_d7_38) rfl rfl ?_
    show Steps p.tables e below (T14.setTop (mkF m 39 #[rv a, iv 16, .unset] [(.ref a)])) _
    refine st19 _ ?_
    show Steps p.tables e below (T19.setTop (mkF m 42 #[rv a, iv 16, .unset] [(.ref dp)])) _
    refine XS.iconst X19.here hx rfl (hb hby own_d7_42) ?_
    show Steps p.tables e below (T19.setTop (mkF m 43 #[rv a, iv 16, .unset] [(.int 0), (.ref dp)])) _
    refine XS.aloadN X19.here hx rfl (hb hby own_d7_43) rfl rfl ?_
    show Steps p.tables e below (T19.setTop (mkF m 44 #[rv a, iv 16, .unset] [(.ref a), (.int 0), (.ref dp)])) _
    refine st20 _ ?_
    show Steps p.tables e below (T20.setTop (mkF m 47 #[rv a, iv 16, .unset] [(.ref dp), (.int 0), (.ref dp)])) _
    refine XS.iconst X20.here hx rfl (hb hby own_d7_47) ?_
    show Steps p.tables e below (T20.setTop (mkF m 48 #[rv a, iv 16, .unset] [(.int 0), (.ref dp), (.int 0), (.ref dp)])) _
    refine X20.aaload hx (j := (0 : Int32)) (v := (.ref lo)) (by rw [e20]; exact c23A.1) (State.isArrayOf_alike hZ.alike c23A.2.1) rfl c23A.2.2 c23in c23at (g := (mkF m 48 #[rv a, iv 16, .unset] [(.int 0), (.ref dp), (.int 0), (.ref dp)])) rfl rfl (hb hby own_d7_48) _ ?_
    show Steps p.tables e below (T20.setTop (mkF m 49 #[rv a, iv 16, .unset] [(.ref lo), (.int 0), (.ref dp)])) _
    refine XS.iloadN X20.here hx rfl (hb hby own_d7_49) rfl ?_
    show Steps p.tables e below (T20.setTop (mkF m 50 #[rv a, iv 16, .unset] [(.int 16), (.ref lo), (.int 0), (.ref dp)])) _
    refine st26 _ ?_
    show Steps p.tables e below (T26.setTop (mkF m 53 #[rv a, iv 16, .unset] [(.ref lo2), (.int 0), (.ref dp)])) _
    refine st49 _ ?_
    show Steps p.tables e below (T49.setTop (mkF m 54 #[rv a, iv 16, .unset] [])) _
    refine XS.aloadN X49.here hx rfl (hb hby own_d7_54) rfl rfl ?_
    show Steps p.tables e below (T49.setTop (mkF m 55 #[rv a, iv 16, .unset] [(.ref a)])) _
    refine st54 _ ?_
    show Steps p.tables e below (T54.setTop (mkF m 58 #[rv a, iv 16, .unset] [(.ref lp)])) _
    refine XS.iconst X54.here hx rfl (hb hby own_d7_58) ?_
    show Steps p.tables e below (T54.setTop (mkF m 59 #[rv a, iv 16, .unset] [(.int 0), (.ref lp)])) _
    refine XS.aloadN X54.here hx rfl (hb hby own_d7_59) rfl rfl ?_
    show Steps p.tables e below (T54.setTop (mkF m 60 #[rv a, iv 16, .unset] [(.ref a), (.int 0), (.ref lp)])) _
    refine st55 _ ?_
    show Steps p.tables e below (T55.setTop (mkF m 63 #[rv a, iv 16, .unset] [(.ref lp), (.int 0), (.ref lp)])) _
    refine XS.iconst X55.here hx rfl (hb hby own_d7_63) ?_
    show Steps p.tables e below (T55.setTop (mkF m 64 #[rv a, iv 16, .unset] [(.int 0), (.ref lp), (.int 0), (.ref lp)])) _
    refine X55.aaload hx (j := (0 : Int32)) (v := (.ref li)) (by rw [e55]; exact c58A.1) (State.isArrayOf_alike hZ.alike c58A.2.1) rfl c58A.2.2 c58in c58at (g := (mkF m 64 #[rv a, iv 16, .unset] [(.int 0), (.ref lp), (.int 0), (.ref lp)])) rfl rfl (hb hby own_d7_64) _ ?_
    show Steps p.tables e below (T55.setTop (mkF m 65 #[rv a, iv 16, .unset] [(.ref li), (.int 0), (.ref lp)])) _
    refine XS.iloadN X55.here hx rfl (hb hby own_d7_65) rfl ?_
    show Steps p.tables e below (T55.setTop (mkF m 66 #[rv a, iv 16, .unset] [(.int 16), (.ref li), (.int 0), (.ref lp)])) _
    refine XS.iconst X55.here hx rfl (hb hby own_d7_66) ?_
    show Steps p.tables e below (T55.setTop (mkF m 67 #[rv a, iv 16, .unset] [(.int 2), (.int 16), (.ref li), (.int 0), (.ref lp)])) _
    refine XS.ishl X55.here hx rfl (hb hby own_d7_67) rfl ?_
    show Steps p.tables e below (T55.setTop (mkF m 68 #[rv a, iv 16, .unset] [(.int ((16 : Int32) <<< ((2 : Int32) &&& 31))), (.ref li), (.int 0), (.ref lp)])) _
    refine own_top (v' := (.int 64)) (congrArg Value.int (by decide)) ?_
    show Steps p.tables e below (T55.setTop (mkF m 68 #[rv a, iv 16, .unset] [(.int 64), (.ref li), (.int 0), (.ref lp)])) _
    refine st61 _ ?_
    show Steps p.tables e below (T61.setTop (mkF m 71 #[rv a, iv 16, .unset] [(.ref li2), (.int 0), (.ref lp)])) _
    refine st85 _ ?_
    show Steps p.tables e below (T85.setTop (mkF m 72 #[rv a, iv 16, .unset] [])) _
    refine XS.aloadN X85.here hx rfl (hb hby own_d7_72) rfl rfl ?_
    show Steps p.tables e below (T85.setTop (mkF m 73 #[rv a, iv 16, .unset] [(.ref a)])) _
    refine XS.iconst X85.here hx rfl (hb hby own_d7_73) ?_
    show Steps p.tables e below (T85.setTop (mkF m 74 #[rv a, iv 16, .unset] [(.int 0), (.ref a)])) _
    refine XS.aloadN X85.here hx rfl (hb hby own_d7_74) rfl rfl ?_
    show Steps p.tables e below (T85.setTop (mkF m 75 #[rv a, iv 16, .unset] [(.ref a), (.int 0), (.ref a)])) _
    refine st90 _ ?_
    show Steps p.tables e below (T90.setTop (mkF m 78 #[rv a, iv 16, .unset] [(.int 0), (.int 0), (.ref a)])) _
    refine XS.iloadN X90.here hx rfl (hb hby own_d7_78) rfl ?_
    show Steps p.tables e below (T90.setTop (mkF m 79 #[rv a, iv 16, .unset] [(.int 16), (.int 0), (.int 0), (.ref a)])) _
    refine st131.trans ?_
    show Steps p.tables e below (T131.setTop (mkF m 82 #[rv a, iv 16, .unset] [])) _
    refine XS.iconst X131.here hx rfl (hb hby own_d7_82) ?_
    show Steps p.tables e below (T131.setTop (mkF m 83 #[rv a, iv 16, .unset] [(.int 0)])) _
    exact retI X131 hx Bd.returns (hb hby own_d7_83) hr
  · show own_mr_Q Z w_CA mr y1 y2 y3 a ip dp lp ps pf pg pt io lo li pb wb k_ip k_io k_dp k_lo k_lp k_li k_pf k_pg k_pb k_wb h0 n0 _ T131.heap _
    exact ⟨io2, lo2, li2, k_io2, k_lo2, k_li2, rfl, N131, kp148, (own_ndc (allS n17 (allS ne_a_io2 (allS n52 (allS ne_a_lo2 (allS n88 (allS ne_a_li2 (allS n110 (allS n109 (allS n108 (allS n107 (allS n106 all0))))))))))) (own_ndc (allS ne_ip_io2 (allS n65 (allS ne_ip_lo2 (allS n160 (allS ne_ip_li2 (allS n159 (allS n158 (allS n157 (allS n156 (allS n155 all0)))))))))) (own_ndc (allS (Ne.symm ne_dp_io2) (allS ne_io2_lo2 (allS (Ne.symm ne_lp_io2) (allS ne_io2_li2 (allS (Ne.symm ne_pf_io2) (allS (Ne.symm ne_pg_io2) (allS (Ne.symm ne_pt_io2) (allS (Ne.symm ne_pb_io2) (allS (Ne.symm ne_wb_io2) all0))))))))) (own_ndc (allS ne_dp_lo2 (allS n154 (allS ne_dp_li2 (allS n153 (allS n152 (allS n151 (allS n150 (allS n149 all0)))))))) (own_ndc (allS (Ne.symm ne_lp_lo2) (allS ne_lo2_li2 (allS (Ne.symm ne_pf_lo2) (allS (Ne.symm ne_pg_lo2) (allS (Ne.symm ne_pt_lo2) (allS (Ne.symm ne_pb_lo2) (allS (Ne.symm ne_wb_lo2) all0))))))) (own_ndc (allS ne_lp_li2 (allS n105 (allS n104 (allS n103 (allS n102 (allS n101 all0)))))) (own_ndc (allS (Ne.symm ne_pf_li2) (allS (Ne.symm ne_pg_li2) (allS (Ne.symm ne_pt_li2) (allS (Ne.symm ne_pb_li2) (allS (Ne.symm ne_wb_li2) all0))))) (own_ndc (allS n100 (allS n99 (allS n98 (allS n97 all0)))) (own_ndc (allS n96 (allS n95 (allS n94 all0))) (own_ndc (allS n93 (allS n92 all0)) (own_ndc (allS n91 all0) (own_ndc all0 own_nd0)))))))))))), (allS sz_io2 (allS sz_lo2 (allS sz_li2 all0))), O_io2, q132, q133, q134, q135, q136, q137, q138, q139, q140, q141, q142, f161, f162, f163, f164, f165, q143, q144, q145, q146⟩
theorem own_nx0_ef (m : MethodId) (a : Addr) : entryFrame m #[(.ref a), (.int 0)] 2 = mkF m 0 #[rv a, iv 0] [] := by first | (simp [entryFrame, mkF, argsToLocals, Value.category]; done) | rfl
def own_nx0_Q (Z : State) (w_CA : Addr) (mr : Addr) (y1 : Addr) (y2 : Addr) (y3 : Addr) (a : Addr) (lp : Addr) (li : Addr) (k_lp : ClassId) (k_li : ClassId) (h0 : Heap) (n0 : Nat) (v : Option Value) (h : Heap) (L : List Loc) : Prop := v = some (.int 1) ∧ Fr n0 L ∧ h = h0
set_option maxRecDepth 65536 in
set_option maxHeartbeats 40000000 in
theorem own_nx0 (l : Launch) (Z : State) (a0 : Array Value) (hw : ∀ d ∈ tables_1, d.before a0 Z = true) (ws : List Jvm.Cond) (w_CA : Addr) (mr : Addr) (y1 : Addr) (y2 : Addr) (y3 : Addr) (a : Addr) (lp : Addr) (li : Addr) (k_lp : ClassId) (k_li : ClassId) (h0 : Heap) (n0 : Nat) (O0 : Old Z n0 h0) (S_HI : Sta Z Z.heap "java/lang/Integer$IntegerCache" "high" "I" (.int 127)) (S_CA : Sta Z Z.heap "java/lang/Integer$IntegerCache" "cache" "[Ljava/lang/Integer;" (.ref w_CA)) (M_OA : own_Mir Z "[Ljava/lang/Object;" mr) (H_y1 : own_At Z w_CA (129 : Int32) y1) (H_y2 : own_At Z w_CA (130 : Int32) y2) (H_y3 : own_At Z w_CA (131 : Int32) y3) (E_y1 : Exa Z Z.heap y1 "java/lang/Integer") (E_y2 : Exa Z Z.heap y2 "java/lang/Integer") (E_y3 : Exa Z Z.heap y3 "java/lang/Integer") (pE_a : Exa Z h0 a "com/example/libspoke/libspoke/wheel/EntryTable") (pF_a_linkPages : Fld Z h0 a "com/example/libspoke/libspoke/wheel/EntryTable" "linkPages" "[[I" (.ref lp)) (pV_lp : Arv Z h0 lp k_lp (.array .int) (1 : Int32) [(.ref li)] .null) (pV_li : Arv Z h0 li k_li .int (64 : Int32) [(.int 1), (.int 0), (.int 0), (.int 0), (.int 2), (.int 0), (.int 0), (.int 0), (.int 3), (.int 0), (.int 0), (.int 0), (.int 4), (.int 0), (.int 0), (.int 0), (.int 5), (.int 0), (.int 0), (.int 0), (.int 6), (.int 0), (.int 0), (.int 0), (.int 7), (.int 0), (.int 0), (.int 0), (.int 8), (.int 0), (.int 0), (.int 0), (.int 9), (.int 0), (.int 0), (.int 0), (.int 10), (.int 0), (.int 0), (.int 0), (.int 11), (.int 0), (.int 0), (.int 0), (.int 12), (.int 0), (.int 0), (.int 0), (.int 13), (.int 0), (.int 0), (.int 0), (.int 14), (.int 0), (.int 0), (.int 0), (.int 15), (.int 0), (.int 0), (.int 0), (.int (-1)), (.int 0), (.int 0), (.int 0)] (.int 0)) (O_lp : OvrA Z k_lp .int "[I") :
    MetFree l (⟨"com/example/libspoke/libspoke/wheel/EntryTable", "next", "(I)I"⟩ : MethodName) (head1 (Jvm.Cond.code (⟨"com/example/libspoke/libspoke/wheel/EntryTable", "next", "(I)I"⟩ : MethodName) prog_18_method_11_code 2 (some .int) :: ws) ({ frames := 1, cells := 0, slots := 0, locals := 14 } : Room)) (fun ar U => ar = #[(.ref a), (.int 0)] ∧ Z.Warmed39 U.vm ∧ U.heap = h0) (fun _ _ _ _ _ => True) (fun _ U oc U' => ∃ v L, oc = .returned v ∧ own_nx0_Q Z w_CA mr y1 y2 y3 a lp li k_lp k_li h0 n0 v U'.heap L ∧ FrameEnd U oc U' L ({ frames := 1, cells := 0, slots := 0, locals := 14 } : Room).cells ({ frames := 1, cells := 0, slots := 0, locals := 14 } : Room).slots) := by
  refine MetFree.of_bodySF (plainFor_of_name own_pn0) hisR ?_
  intro p e s m args below meth c s₁ Bd hml0 hP hK
  obtain ⟨rfl, hZ, hh⟩ := hP
  have hx := Bd.exec
  have hby := Bd.bytes
  have hml : c.maxLocals = 2 := hml0
  have hown : s.vm.findClass "com/example/libspoke/libspoke/wheel/EntryTable" = some m.cls := findClass_of_methodNamed Bd.named
  have hnm := (name_of_methodNamed Bd.named Bd.method).1
  have X0 : Stand p l e ({ frames := 1, cells := 0, slots := 0, locals := 14 } : Room) s m #[(.ref a), (.int 0)] below meth c s₁ [] 0 0 := Stand.of_body Bd
  have e0 : s₁.heap = h0 := by rw [← hh, Bd.state]; rfl
  have N0 := Fr.nil n0
  have pre0 : ∀ t, Steps p.tables e below (s₁.setTop (mkF m 0 #[rv a, iv 0] [])) t → Steps p.tables e below (s₁.setTop (entryFrame m #[(.ref a), (.int 0)] 2)) t := fun t k => castTop (own_nx0_ef m a) k
  obtain ⟨T1, X1, e1, st1⟩ := getF X0 hx hZ hown (host := "") (Or.inl (hw _ (own_m 26 rfl))) Via.refl e0 pF_a_linkPages (g := (mkF m 1 #[rv a, iv 0] [(.ref a)])) rfl rfl (hb hby own_d17_1)
  obtain ⟨c2, c2A, c2q, c2S, c2N, c2H, c2G⟩ := id pV_lp
  have c2in : ¬ ((0 : Int32) < 0 ∨ c2.slots.size ≤ ((0 : Int32)).toNatClampNeg) := inb_of c2S ⟨by decide, by decide⟩
  have c2at : c2.slots[((0 : Int32)).toNatClampNeg]? = some (.ref li) := Has.at c2H c2in rfl
  obtain ⟨_, _, ⟨T3, L3, k3, n3⟩, -, X3, ⟨Lc3, hQ3, l3, y3, z3⟩, st3⟩ := Jvm.LawKit.callS X1 hx (y := (⟨"com/example/libspoke/libspoke/wheel/EntryTable", "link", "(II)I"⟩ : MethodName)) hown (mvT hZ (hw _ (own_m 107 rfl))) (mvT hZ (hw _ (own_m 108 rfl))) (mvT hZ (hw _ (own_m 2 rfl))) (mvT hZ (hw _ (own_m 109 rfl))) (by decide) (backOf (W := 1) (own_lk l Z a0 hw [] w_CA mr y1 y2 y3 (0 : Int32) (0 : Int32) h0 n0 O0 S_HI S_CA M_OA H_y1 H_y2 H_y3 E_y1 E_y2 E_y3 ) hZ (hw _ (own_m 109 rfl)) (hw _ (own_m 2 rfl)) (by decide) (by decide)) (g := (mkF m 11 #[rv a, iv 0] [(.int 0), (.int 0), (.ref li)])) rfl (by rw [hml]; rfl) (argsL := [(.int 0), (.int 0)]) (rest := [(.ref li)]) (lenOf own_pd3 rfl) rfl (by show 2 * 0 + _ ≤ _; exact Nat.le_of_eq rfl) (hb hby own_d17_11) (fun _ _ => ⟨rfl, e1, (by decide : 0 + 0 ≤ _), (by decide : 0 + 0 ≤ _)⟩)
  dsimp only [Pt.U, Pt.locs, Pt.cells, Pt.slots] at X3 l3 y3 z3 st3 hQ3
  subst l3 y3 z3
  obtain ⟨rfl, N3q, e3⟩ := hQ3
  have N3 := Fr.app N0 N3q
  obtain ⟨c4, c4A, c4q, c4S, c4N, c4H, c4G⟩ := id pV_li
  have c4in : ¬ ((0 : Int32) < 0 ∨ c4.slots.size ≤ ((0 : Int32)).toNatClampNeg) := inb_of c4S ⟨by decide, by decide⟩
  have c4at : c4.slots[((0 : Int32)).toNatClampNeg]? = some (.int 1) := Has.at c4H c4in rfl
  obtain ⟨fs, hr, hrun, hended, hW, hsame⟩ := X3.leave (v := some (.int 1)) (fun h => by rw [Bd.returns] at h; cases h)
  refine ⟨_, _, pre0 _ ?_, hrun, hended, _, _, rfl, ?_, ⟨_, rfl⟩, hW, hsame.mono (by decide) (by decide)⟩
  · show Steps p.tables e below (s₁.setTop (mkF m 0 #[rv a, iv 0] [])) _
    refine XS.aloadN X0.here hx rfl (hb hby own_d17_0) rfl rfl ?_
    show Steps p.tables e below (s₁.setTop (mkF m 1 #[rv a, iv 0] [(.ref a)])) _
    refine st1 _ ?_
    show Steps p.tables e below (T1.setTop (mkF m 4 #[rv a, iv 0] [(.ref lp)])) _
    refine XS.iloadN X1.here hx rfl (hb hby own_d17_4) rfl ?_
    show Steps p.tables e below (T1.setTop (mkF m 5 #[rv a, iv 0] [(.int 0), (.ref lp)])) _
    refine XS.bipush X1.here hx rfl (hb hby own_d17_5) ?_
    show Steps p.tables e below (T1.setTop (mkF m 7 #[rv a, iv 0] [(.int 12), (.int 0), (.ref lp)])) _
    refine XS.iushr X1.here hx rfl (hb hby own_d17_7) rfl ?_
    show Steps p.tables e below (T1.setTop (mkF m 8 #[rv a, iv 0] [(.int (((0 : Int32).toUInt32 >>> ((12 : Int32) &&& 31).toUInt32).toInt32)), (.ref lp)])) _
    refine own_top (v' := (.int 0)) (congrArg Value.int (by decide)) ?_
    show Steps p.tables e below (T1.setTop (mkF m 8 #[rv a, iv 0] [(.int 0), (.ref lp)])) _
    refine X1.aaload hx (j := (0 : Int32)) (v := (.ref li)) (by rw [e1]; exact c2A.1) (State.isArrayOf_alike hZ.alike c2A.2.1) rfl c2A.2.2 c2in c2at (g := (mkF m 8 #[rv a, iv 0] [(.int 0), (.ref lp)])) rfl rfl (hb hby own_d17_8) _ ?_
    show Steps p.tables e below (T1.setTop (mkF m 9 #[rv a, iv 0] [(.ref li)])) _
    refine XS.iloadN X1.here hx rfl (hb hby own_d17_9) rfl ?_
    show Steps p.tables e below (T1.setTop (mkF m 10 #[rv a, iv 0] [(.int 0), (.ref li)])) _
    refine XS.iconst X1.here hx rfl (hb hby own_d17_10) ?_
    show Steps p.tables e below (T1.setTop (mkF m 11 #[rv a, iv 0] [(.int 0), (.int 0), (.ref li)])) _
    refine st3 _ ?_
    show Steps p.tables e below (T3.setTop (mkF m 14 #[rv a, iv 0] [(.int ((((0 : Int32) &&& (4095 : Int32)) <<< ((2 : Int32) &&& 31)) + (0 : Int32))), (.ref li)])) _
    refine own_top (v' := (.int 0)) (congrArg Value.int (by decide)) ?_
    show Steps p.tables e below (T3.setTop (mkF m 14 #[rv a, iv 0] [(.int 0), (.ref li)])) _
    refine X3.iaload hx (j := (0 : Int32)) (v := (.int 1)) (by rw [e3]; exact c4A.1) (State.isArrayOf_alike hZ.alike c4A.2.1) c4A.2.2 c4in c4at (g := (mkF m 14 #[rv a, iv 0] [(.int 0), (.ref li)])) rfl rfl (hb hby own_d17_14) _ ?_
    show Steps p.tables e below (T3.setTop (mkF m 15 #[rv a, iv 0] [(.int 1)])) _
    exact retI X3 hx Bd.returns (hb hby own_d17_15) hr
  · show own_nx0_Q Z w_CA mr y1 y2 y3 a lp li k_lp k_li h0 n0 _ T3.heap _
    rw [e3]
    exact ⟨rfl, N3, rfl⟩
theorem own_sd0_0_ef (m : MethodId) (a : Addr) (q0 : Int64) : entryFrame m #[(.ref a), (.int 0), (.long q0)] 4 = mkF m 0 #[rv a, iv 0, .val (.long q0), .second] [] := by first | (simp [entryFrame, mkF, argsToLocals, Value.category]; done) | rfl
def own_sd0_0_Q (Z : State) (w_CA : Addr) (mr : Addr) (y1 : Addr) (y2 : Addr) (y3 : Addr) (a : Addr) (dp : Addr) (lo : Addr) (k_dp : ClassId) (k_lo : ClassId) (q0 : Int64) (h0 : Heap) (n0 : Nat) (v : Option Value) (h : Heap) (L : List Loc) : Prop := v = none ∧ Fr n0 L ∧ Keep h0 h [lo] ∧ Arv Z h lo k_lo .long (16 : Int32) [(.long q0), (.long 0), (.long 0), (.long 0), (.long 0), (.long 0), (.long 0), (.long 0), (.long 0), (.long 0), (.long 0), (.long 0), (.long 0), (.long 0), (.long 0), (.long 0)] (.long 0)
set_option maxRecDepth 65536 in
set_option maxHeartbeats 40000000 in
theorem own_sd0_0 (l : Launch) (Z : State) (a0 : Array Value) (hw : ∀ d ∈ tables_1, d.before a0 Z = true) (ws : List Jvm.Cond) (w_CA : Addr) (mr : Addr) (y1 : Addr) (y2 : Addr) (y3 : Addr) (a : Addr) (dp : Addr) (lo : Addr) (k_dp : ClassId) (k_lo : ClassId) (q0 : Int64) (h0 : Heap) (n0 : Nat) (O0 : Old Z n0 h0) (S_HI : Sta Z Z.heap "java/lang/Integer$IntegerCache" "high" "I" (.int 127)) (S_CA : Sta Z Z.heap "java/lang/Integer$IntegerCache" "cache" "[Ljava/lang/Integer;" (.ref w_CA)) (M_OA : own_Mir Z "[Ljava/lang/Object;" mr) (H_y1 : own_At Z w_CA (129 : Int32) y1) (H_y2 : own_At Z w_CA (130 : Int32) y2) (H_y3 : own_At Z w_CA (131 : Int32) y3) (E_y1 : Exa Z Z.heap y1 "java/lang/Integer") (E_y2 : Exa Z Z.heap y2 "java/lang/Integer") (E_y3 : Exa Z Z.heap y3 "java/lang/Integer") (hG : ∀ x ∈ ([a, dp, lo] : List Addr), n0 ≤ x) (hN : own_Nd [a, dp, lo]) (pE_a : Exa Z h0 a "com/example/libspoke/libspoke/wheel/EntryTable") (pF_a_deadlinePages : Fld Z h0 a "com/example/libspoke/libspoke/wheel/EntryTable" "deadlinePages" "[[J" (.ref dp)) (pV_dp : Arv Z h0 dp k_dp (.array .long) (1 : Int32) [(.ref lo)] .null) (pV_lo : Arv Z h0 lo k_lo .long (16 : Int32) [(.long 0), (.long 0), (.long 0), (.long 0), (.long 0), (.long 0), (.long 0), (.long 0), (.long 0), (.long 0), (.long 0), (.long 0), (.long 0), (.long 0), (.long 0), (.long 0)] (.long 0)) (O_dp : OvrA Z k_dp .long "[J") :
    MetFree l (⟨"com/example/libspoke/libspoke/wheel/EntryTable", "setDeadline", "(IJ)V"⟩ : MethodName) (head1 (Jvm.Cond.code (⟨"com/example/libspoke/libspoke/wheel/EntryTable", "setDeadline", "(IJ)V"⟩ : MethodName) prog_18_method_10_code 4 none :: ws) ({ frames := 0, cells := 0, slots := 0, locals := 0 } : Room)) (fun ar U => ar = #[(.ref a), (.int 0), (.long q0)] ∧ Z.Warmed39 U.vm ∧ U.heap = h0) (fun _ _ _ _ _ => True) (fun _ U oc U' => ∃ v L, oc = .returned v ∧ own_sd0_0_Q Z w_CA mr y1 y2 y3 a dp lo k_dp k_lo q0 h0 n0 v U'.heap L ∧ FrameEnd U oc U' L ({ frames := 0, cells := 0, slots := 0, locals := 0 } : Room).cells ({ frames := 0, cells := 0, slots := 0, locals := 0 } : Room).slots) := by
  refine MetFree.of_bodySF (plainFor_of_name own_pn0) hisR ?_
  intro p e s m args below meth c s₁ Bd hml0 hP hK
  obtain ⟨rfl, hZ, hh⟩ := hP
  have hx := Bd.exec
  have hby := Bd.bytes
  have hml : c.maxLocals = 4 := hml0
  have hown : s.vm.findClass "com/example/libspoke/libspoke/wheel/EntryTable" = some m.cls := findClass_of_methodNamed Bd.named
  have hnm := (name_of_methodNamed Bd.named Bd.method).1
  have X0 : Stand p l e ({ frames := 0, cells := 0, slots := 0, locals := 0 } : Room) s m #[(.ref a), (.int 0), (.long q0)] below meth c s₁ [] 0 0 := Stand.of_body Bd
  have e0 : s₁.heap = h0 := by rw [← hh, Bd.state]; rfl
  have N0 := Fr.nil n0
  have pre0 : ∀ t, Steps p.tables e below (s₁.setTop (mkF m 0 #[rv a, iv 0, .val (.long q0), .second] [])) t → Steps p.tables e below (s₁.setTop (entryFrame m #[(.ref a), (.int 0), (.long q0)] 4)) t := fun t k => castTop (own_sd0_0_ef m a q0) k
  have kp0 := Keep.refl h0 ([lo] : List Addr)
  have g_a : n0 ≤ a := hG _ (own_m 0 rfl)
  have g_dp : n0 ≤ dp := hG _ (own_m 1 rfl)
  have g_lo : n0 ≤ lo := hG _ (own_m 2 rfl)
  obtain ⟨T1, X1, e1, st1⟩ := getF X0 hx hZ hown (host := "") (Or.inl (hw _ (own_m 20 rfl))) Via.refl e0 pF_a_deadlinePages (g := (mkF m 1 #[rv a, iv 0, .val (.long q0), .second] [(.ref a)])) rfl rfl (hb hby own_d18_1)
  obtain ⟨c2, c2A, c2q, c2S, c2N, c2H, c2G⟩ := id pV_dp
  have c2in : ¬ ((0 : Int32) < 0 ∨ c2.slots.size ≤ ((0 : Int32)).toNatClampNeg) := inb_of c2S ⟨by decide, by decide⟩
  have c2at : c2.slots[((0 : Int32)).toNatClampNeg]? = some (.ref lo) := Has.at c2H c2in rfl
  obtain ⟨c3, c3A, c3q, c3S, c3N, c3H, c3G⟩ := id pV_lo
  have c3in : ¬ ((0 : Int32) < 0 ∨ c3.slots.size ≤ ((0 : Int32)).toNatClampNeg) := inb_of c3S ⟨by decide, by decide⟩
  obtain ⟨T4, h4, X4, e4, W4, st4⟩ := stJ X1 hx hZ e1 c3A (j := (0 : Int32)) c3in (g := (mkF m 15 #[rv a, iv 0, .val (.long q0), .second] [(.long q0), (.int 0), (.ref lo)])) rfl rfl (hb hby own_d18_15)
  have V4 : Arv Z h4 lo k_lo .long (16 : Int32) [(.long q0), (.long 0), (.long 0), (.long 0), (.long 0), (.long 0), (.long 0), (.long 0), (.long 0), (.long 0), (.long 0), (.long 0), (.long 0), (.long 0), (.long 0), (.long 0)] (.long 0) := Arv.set c3A c3q c3S c3N c3H c3G rfl W4 0 rfl (Nat.le_of_ble_eq_true rfl)
  have O5 := O0.wr W4 g_lo
  have kp6 := kp0.wr W4 (Or.inl (own_m 0 rfl))
  have N4 := Fr.snoc X4 N0 g_lo
  obtain ⟨fs, hr, hrun, hended, hW, hsame⟩ := X4.leave (v := none) (fun _ => rfl)
  refine ⟨_, _, pre0 _ ?_, hrun, hended, _, _, rfl, ?_, ⟨_, rfl⟩, hW, hsame.mono (by decide) (by decide)⟩
  · show Steps p.tables e below (s₁.setTop (mkF m 0 #[rv a, iv 0, .val (.long q0), .second] [])) _
    refine XS.aloadN X0.here hx rfl (hb hby own_d18_0) rfl rfl ?_
    show Steps p.tables e below (s₁.setTop (mkF m 1 #[rv a, iv 0, .val (.long q0), .second] [(.ref a)])) _
    refine st1 _ ?_
    show Steps p.tables e below (T1.setTop (mkF m 4 #[rv a, iv 0, .val (.long q0), .second] [(.ref dp)])) _
    refine XS.iloadN X1.here hx rfl (hb hby own_d18_4) rfl ?_
    show Steps p.tables e below (T1.setTop (mkF m 5 #[rv a, iv 0, .val (.long q0), .second] [(.int 0), (.ref dp)])) _
    refine XS.bipush X1.here hx rfl (hb hby own_d18_5) ?_
    show Steps p.tables e below (T1.setTop (mkF m 7 #[rv a, iv 0, .val (.long q0), .second] [(.int 12), (.int 0), (.ref dp)])) _
    refine XS.iushr X1.here hx rfl (hb hby own_d18_7) rfl ?_
    show Steps p.tables e below (T1.setTop (mkF m 8 #[rv a, iv 0, .val (.long q0), .second] [(.int (((0 : Int32).toUInt32 >>> ((12 : Int32) &&& 31).toUInt32).toInt32)), (.ref dp)])) _
    refine own_top (v' := (.int 0)) (congrArg Value.int (by decide)) ?_
    show Steps p.tables e below (T1.setTop (mkF m 8 #[rv a, iv 0, .val (.long q0), .second] [(.int 0), (.ref dp)])) _
    refine X1.aaload hx (j := (0 : Int32)) (v := (.ref lo)) (by rw [e1]; exact c2A.1) (State.isArrayOf_alike hZ.alike c2A.2.1) rfl c2A.2.2 c2in c2at (g := (mkF m 8 #[rv a, iv 0, .val (.long q0), .second] [(.int 0), (.ref dp)])) rfl rfl (hb hby own_d18_8) _ ?_
    show Steps p.tables e below (T1.setTop (mkF m 9 #[rv a, iv 0, .val (.long q0), .second] [(.ref lo)])) _
    refine XS.iloadN X1.here hx rfl (hb hby own_d18_9) rfl ?_
    show Steps p.tables e below (T1.setTop (mkF m 10 #[rv a, iv 0, .val (.long q0), .second] [(.int 0), (.ref lo)])) _
    refine XS.sipush X1.here hx rfl (hb hby own_d18_10) ?_
    show Steps p.tables e below (T1.setTop (mkF m 13 #[rv a, iv 0, .val (.long q0), .second] [(.int 4095), (.int 0), (.ref lo)])) _
    refine XS.iand X1.here hx rfl (hb hby own_d18_13) rfl ?_
    show Steps p.tables e below (T1.setTop (mkF m 14 #[rv a, iv 0, .val (.long q0), .second] [(.int ((0 : Int32) &&& (4095 : Int32))), (.ref lo)])) _
    refine own_top (v' := (.int 0)) (congrArg Value.int (by decide)) ?_
    show Steps p.tables e below (T1.setTop (mkF m 14 #[rv a, iv 0, .val (.long q0), .second] [(.int 0), (.ref lo)])) _
    refine XS.lloadN X1.here hx rfl (hb hby own_d18_14) rfl ?_
    show Steps p.tables e below (T1.setTop (mkF m 15 #[rv a, iv 0, .val (.long q0), .second] [(.long q0), (.int 0), (.ref lo)])) _
    refine st4 _ ?_
    show Steps p.tables e below (T4.setTop (mkF m 16 #[rv a, iv 0, .val (.long q0), .second] [])) _
    exact X4.returnOut hx Bd.returns (hb hby own_d18_16) hr
  · show own_sd0_0_Q Z w_CA mr y1 y2 y3 a dp lo k_dp k_lo q0 h0 n0 _ T4.heap _
    rw [e4]
    exact ⟨rfl, N4, kp6, V4⟩
theorem own_addf_ef (m : MethodId) (y1 : Addr) (a : Addr) (q0 : Int64) : entryFrame m #[(.ref a), (.ref y1), (.long q0)] 6 = mkF m 0 #[rv a, rv y1, .val (.long q0), .second, .unset, .unset] [] := by first | (simp [entryFrame, mkF, argsToLocals, Value.category]; done) | rfl
def own_addf_Q (Z : State) (w_CA : Addr) (mr : Addr) (y1 : Addr) (y2 : Addr) (y3 : Addr) (a : Addr) (ip : Addr) (dp : Addr) (lp : Addr) (ps : Addr) (pf : Addr) (pg : Addr) (pt : Addr) (io : Addr) (lo : Addr) (li : Addr) (pb : Addr) (wb : Addr) (k_ip : ClassId) (k_io : ClassId) (k_dp : ClassId) (k_lo : ClassId) (k_lp : ClassId) (k_li : ClassId) (k_ps : ClassId) (k_pf : ClassId) (k_pb : ClassId) (k_wb : ClassId) (k_pg : ClassId) (q0 : Int64) (h0 : Heap) (n0 : Nat) (v : Option Value) (h : Heap) (L : List Loc) : Prop := ∃ (io2 lo2 li2 : Addr) (k_io2 k_lo2 k_li2 : ClassId), v = some (.int 0) ∧ Fr n0 L ∧ Keep h0 h [a, ip, dp, lp, pf, pb, wb, ps] ∧ own_Nd [a, ip, io2, dp, lo2, lp, li2, ps, pf, pg, pt, pb, wb] ∧ (∀ x ∈ ([io2, lo2, li2] : List Addr), h0.size ≤ x) ∧ Ovr Z k_io2 "java/lang/Object" ∧ Exa Z h a "com/example/libspoke/libspoke/wheel/EntryTable" ∧ Fld Z h a "com/example/libspoke/libspoke/wheel/EntryTable" "itemPages" "[[Ljava/lang/Object;" (.ref ip) ∧ Fld Z h a "com/example/libspoke/libspoke/wheel/EntryTable" "deadlinePages" "[[J" (.ref dp) ∧ Fld Z h a "com/example/libspoke/libspoke/wheel/EntryTable" "linkPages" "[[I" (.ref lp) ∧ Fld Z h a "com/example/libspoke/libspoke/wheel/EntryTable" "pageSizes" "[I" (.ref ps) ∧ Fld Z h a "com/example/libspoke/libspoke/wheel/EntryTable" "pageFirstFree" "[I" (.ref pf) ∧ Fld Z h a "com/example/libspoke/libspoke/wheel/EntryTable" "pageGenerations" "[I" (.ref pg) ∧ Fld Z h a "com/example/libspoke/libspoke/wheel/EntryTable" "pagesWithRoom" "Lcom/example/libspoke/libspoke/wheel/EntryTable$PageSet;" (.ref pt) ∧ Fld Z h a "com/example/libspoke/libspoke/wheel/EntryTable" "sparePage" "I" (.int (-1)) ∧ Fld Z h a "com/example/libspoke/libspoke/wheel/EntryTable" "size" "I" (.int 1) ∧ Fld Z h a "com/example/libspoke/libspoke/wheel/EntryTable" "capacity" "I" (.int 16) ∧ Arv Z h ip k_ip (.array (.object "java/lang/Object")) (1 : Int32) [(.ref io2)] .null ∧ Arv Z h io2 k_io2 (.object "java/lang/Object") (16 : Int32) [(.ref y1), .null, .null, .null, .null, .null, .null, .null, .null, .null, .null, .null, .null, .null, .null, .null] .null ∧ Arv Z h dp k_dp (.array .long) (1 : Int32) [(.ref lo2)] .null ∧ Arv Z h lo2 k_lo2 .long (16 : Int32) [(.long q0), (.long 0), (.long 0), (.long 0), (.long 0), (.long 0), (.long 0), (.long 0), (.long 0), (.long 0), (.long 0), (.long 0), (.long 0), (.long 0), (.long 0), (.long 0)] (.long 0) ∧ Arv Z h lp k_lp (.array .int) (1 : Int32) [(.ref li2)] .null ∧ Arv Z h li2 k_li2 .int (64 : Int32) [(.int 1), (.int 0), (.int 0), (.int 0), (.int 2), (.int 0), (.int 0), (.int 0), (.int 3), (.int 0), (.int 0), (.int 0), (.int 4), (.int 0), (.int 0), (.int 0), (.int 5), (.int 0), (.int 0), (.int 0), (.int 6), (.int 0), (.int 0), (.int 0), (.int 7), (.int 0), (.int 0), (.int 0), (.int 8), (.int 0), (.int 0), (.int 0), (.int 9), (.int 0), (.int 0), (.int 0), (.int 10), (.int 0), (.int 0), (.int 0), (.int 11), (.int 0), (.int 0), (.int 0), (.int 12), (.int 0), (.int 0), (.int 0), (.int 13), (.int 0), (.int 0), (.int 0), (.int 14), (.int 0), (.int 0), (.int 0), (.int 15), (.int 0), (.int 0), (.int 0), (.int (-1)), (.int 0), (.int 0), (.int 0)] (.int 0) ∧ Arv Z h pf k_pf .int (1 : Int32) [(.int 1)] (.int 0) ∧ Arv Z h pb k_pb .long (1 : Int32) [(.long 1)] (.long 0) ∧ Arv Z h wb k_wb .long (1 : Int32) [(.long 1)] (.long 0) ∧ Arv Z h ps k_ps .int (1 : Int32) [(.int 1)] (.int 0)
set_option maxRecDepth 65536 in
set_option maxHeartbeats 40000000 in
theorem own_addf (l : Launch) (Z : State) (a0 : Array Value) (hw : ∀ d ∈ tables_1, d.before a0 Z = true) (ws : List Jvm.Cond) (w_CA : Addr) (mr : Addr) (y1 : Addr) (y2 : Addr) (y3 : Addr) (a : Addr) (ip : Addr) (dp : Addr) (lp : Addr) (ps : Addr) (pf : Addr) (pg : Addr) (pt : Addr) (io : Addr) (lo : Addr) (li : Addr) (pb : Addr) (wb : Addr) (k_ip : ClassId) (k_io : ClassId) (k_dp : ClassId) (k_lo : ClassId) (k_lp : ClassId) (k_li : ClassId) (k_ps : ClassId) (k_pf : ClassId) (k_pb : ClassId) (k_wb : ClassId) (k_pg : ClassId) (q0 : Int64) (h0 : Heap) (n0 : Nat) (O0 : Old Z n0 h0) (S_HI : Sta Z Z.heap "java/lang/Integer$IntegerCache" "high" "I" (.int 127)) (S_CA : Sta Z Z.heap "java/lang/Integer$IntegerCache" "cache" "[Ljava/lang/Integer;" (.ref w_CA)) (M_OA : own_Mir Z "[Ljava/lang/Object;" mr) (H_y1 : own_At Z w_CA (129 : Int32) y1) (H_y2 : own_At Z w_CA (130 : Int32) y2) (H_y3 : own_At Z w_CA (131 : Int32) y3) (E_y1 : Exa Z Z.heap y1 "java/lang/Integer") (E_y2 : Exa Z Z.heap y2 "java/lang/Integer") (E_y3 : Exa Z Z.heap y3 "java/lang/Integer") (hG : ∀ x ∈ ([a, ip, io, dp, lo, lp, li, ps, pf, pg, pt, pb, wb] : List Addr), n0 ≤ x) (hN : own_Nd [a, ip, io, dp, lo, lp, li, ps, pf, pg, pt, pb, wb]) (pE_a : Exa Z h0 a "com/example/libspoke/libspoke/wheel/EntryTable") (pF_a_itemPages : Fld Z h0 a "com/example/libspoke/libspoke/wheel/EntryTable" "itemPages" "[[Ljava/lang/Object;" (.ref ip)) (pF_a_deadlinePages : Fld Z h0 a "com/example/libspoke/libspoke/wheel/EntryTable" "deadlinePages" "[[J" (.ref dp)) (pF_a_linkPages : Fld Z h0 a "com/example/libspoke/libspoke/wheel/EntryTable" "linkPages" "[[I" (.ref lp)) (pF_a_pageSizes : Fld Z h0 a "com/example/libspoke/libspoke/wheel/EntryTable" "pageSizes" "[I" (.ref ps)) (pF_a_pageFirstFree : Fld Z h0 a "com/example/libspoke/libspoke/wheel/EntryTable" "pageFirstFree" "[I" (.ref pf)) (pF_a_pageGenerations : Fld Z h0 a "com/example/libspoke/libspoke/wheel/EntryTable" "pageGenerations" "[I" (.ref pg)) (pF_a_pagesWithRoom : Fld Z h0 a "com/example/libspoke/libspoke/wheel/EntryTable" "pagesWithRoom" "Lcom/example/libspoke/libspoke/wheel/EntryTable$PageSet;" (.ref pt)) (pF_a_sparePage : Fld Z h0 a "com/example/libspoke/libspoke/wheel/EntryTable" "sparePage" "I" (.int (-1))) (pF_a_size : Fld Z h0 a "com/example/libspoke/libspoke/wheel/EntryTable" "size" "I" (.int 0)) (pF_a_capacity : Fld Z h0 a "com/example/libspoke/libspoke/wheel/EntryTable" "capacity" "I" (.int 0)) (pV_ip : Arv Z h0 ip k_ip (.array (.object "java/lang/Object")) (1 : Int32) [(.ref io)] .null) (pV_io : Arv Z h0 io k_io (.object "java/lang/Object") (0 : Int32) [] .null) (pV_dp : Arv Z h0 dp k_dp (.array .long) (1 : Int32) [(.ref lo)] .null) (pV_lo : Arv Z h0 lo k_lo .long (0 : Int32) [] (.long 0)) (pV_lp : Arv Z h0 lp k_lp (.array .int) (1 : Int32) [(.ref li)] .null) (pV_li : Arv Z h0 li k_li .int (0 : Int32) [] (.int 0)) (pV_ps : Arv Z h0 ps k_ps .int (1 : Int32) [(.int 0)] (.int 0)) (pV_pf : Arv Z h0 pf k_pf .int (1 : Int32) [(.int (-1))] (.int 0)) (pE_pt : Exa Z h0 pt "com/example/libspoke/libspoke/wheel/EntryTable$PageSet") (pF_pt_pageBits : Fld Z h0 pt "com/example/libspoke/libspoke/wheel/EntryTable$PageSet" "pageBits" "[J" (.ref pb)) (pF_pt_wordBits : Fld Z h0 pt "com/example/libspoke/libspoke/wheel/EntryTable$PageSet" "wordBits" "[J" (.ref wb)) (pV_pb : Arv Z h0 pb k_pb .long (1 : Int32) [(.long 0)] (.long 0)) (pV_wb : Arv Z h0 wb k_wb .long (1 : Int32) [(.long 0)] (.long 0)) (pE_io : Exa Z h0 io "[Ljava/lang/Object;") (pV_pg : Arv Z h0 pg k_pg .int (1 : Int32) [(.int 0)] (.int 0)) (O_ip : OvrA Z k_ip (.object "java/lang/Object") "[Ljava/lang/Object;") (O_dp : OvrA Z k_dp .long "[J") (O_lp : OvrA Z k_lp .int "[I") :
    MetFree l (⟨"com/example/libspoke/libspoke/wheel/EntryTable", "add", "(Ljava/lang/Object;J)I"⟩ : MethodName) (head1 (Jvm.Cond.code (⟨"com/example/libspoke/libspoke/wheel/EntryTable", "add", "(Ljava/lang/Object;J)I"⟩ : MethodName) prog_18_method_2_code 6 (some .int) :: ws) ({ frames := 4, cells := 3, slots := 96, locals := 62 } : Room)) (fun ar U => ar = #[(.ref a), (.ref y1), (.long q0)] ∧ Z.Warmed39 U.vm ∧ U.heap = h0) (fun _ _ _ _ _ => True) (fun _ U oc U' => ∃ v L, oc = .returned v ∧ own_addf_Q Z w_CA mr y1 y2 y3 a ip dp lp ps pf pg pt io lo li pb wb k_ip k_io k_dp k_lo k_lp k_li k_ps k_pf k_pb k_wb k_pg q0 h0 n0 v U'.heap L ∧ FrameEnd U oc U' L ({ frames := 4, cells := 3, slots := 96, locals := 62 } : Room).cells ({ frames := 4, cells := 3, slots := 96, locals := 62 } : Room).slots) := by
  refine MetFree.of_bodySF (plainFor_of_name own_pn0) hisR ?_
  intro p e s m args below meth c s₁ Bd hml0 hP hK
  obtain ⟨rfl, hZ, hh⟩ := hP
  have hx := Bd.exec
  have hby := Bd.bytes
  have hml : c.maxLocals = 6 := hml0
  have hown : s.vm.findClass "com/example/libspoke/libspoke/wheel/EntryTable" = some m.cls := findClass_of_methodNamed Bd.named
  have hnm := (name_of_methodNamed Bd.named Bd.method).1
  have X0 : Stand p l e ({ frames := 4, cells := 3, slots := 96, locals := 62 } : Room) s m #[(.ref a), (.ref y1), (.long q0)] below meth c s₁ [] 0 0 := Stand.of_body Bd
  have e0 : s₁.heap = h0 := by rw [← hh, Bd.state]; rfl
  have N0 := Fr.nil n0
  have pre0 : ∀ t, Steps p.tables e below (s₁.setTop (mkF m 0 #[rv a, rv y1, .val (.long q0), .second, .unset, .unset] [])) t → Steps p.tables e below (s₁.setTop (entryFrame m #[(.ref a), (.ref y1), (.long q0)] 6)) t := fun t k => castTop (own_addf_ef m y1 a q0) k
  have kp0 := Keep.refl h0 ([a, ip, dp, lp, pf, pb, wb, ps] : List Addr)
  have g_a : n0 ≤ a := hG _ (own_m 0 rfl)
  have g_ip : n0 ≤ ip := hG _ (own_m 1 rfl)
  have g_io : n0 ≤ io := hG _ (own_m 2 rfl)
  have g_dp : n0 ≤ dp := hG _ (own_m 3 rfl)
  have g_lo : n0 ≤ lo := hG _ (own_m 4 rfl)
  have g_lp : n0 ≤ lp := hG _ (own_m 5 rfl)
  have g_li : n0 ≤ li := hG _ (own_m 6 rfl)
  have g_ps : n0 ≤ ps := hG _ (own_m 7 rfl)
  have g_pf : n0 ≤ pf := hG _ (own_m 8 rfl)
  have g_pg : n0 ≤ pg := hG _ (own_m 9 rfl)
  have g_pt : n0 ≤ pt := hG _ (own_m 10 rfl)
  have g_pb : n0 ≤ pb := hG _ (own_m 11 rfl)
  have g_wb : n0 ≤ wb := hG _ (own_m 12 rfl)
  obtain ⟨T1, X1, e1, st1⟩ := getF X0 hx hZ hown (host := "") (Or.inl (hw _ (own_m 45 rfl))) Via.refl e0 pF_a_pagesWithRoom (g := (mkF m 1 #[rv a, rv y1, .val (.long q0), .second, .unset, .unset] [(.ref a)])) rfl rfl (hb hby own_d5_1)
  obtain ⟨cq2, kq2, q2a, q2b, q2c⟩ := isOf hZ e1 pE_pt
  obtain ⟨_, _, ⟨T2, L2, k2, n2⟩, -, X2, ⟨Lc2, hQ2, l2, y2, z2⟩, st2⟩ := X1.virtualBack hx (y := (⟨"com/example/libspoke/libspoke/wheel/EntryTable$PageSet", "lowest", "()I"⟩ : MethodName)) (z := (⟨"com/example/libspoke/libspoke/wheel/EntryTable$PageSet", "lowest", "()I"⟩ : MethodName)) hown (mvT hZ (hw _ (own_m 61 rfl))) (mvT hZ (hw _ (own_m 62 rfl))) (notFace_of_selects (args := #[]) (mvT hZ (hw _ (own_m 64 rfl)))) (mvT hZ (hw _ (own_m 64 rfl))) (mvT hZ (hw _ (own_m 63 rfl))) (by decide) (backOf (W := 0) (own_low0 l Z a0 hw [] w_CA mr y1 y2 y3 pt pb wb k_pb k_wb h0 n0 O0 S_HI S_CA M_OA H_y1 H_y2 H_y3 E_y1 E_y2 E_y3 pE_pt pF_pt_pageBits pF_pt_wordBits pV_pb pV_wb) hZ (hw _ (own_m 65 rfl)) (hw _ (own_m 36 rfl)) (by decide) (by decide)) q2a q2c (g := (mkF m 4 #[rv a, rv y1, .val (.long q0), .second, .unset, .unset] [(.ref pt)])) rfl (by rw [hml]; rfl) (Steps.refl _) (argsL := []) (rest := []) (lenOf own_pd10 rfl) rfl (by show 2 * 0 + _ ≤ _; exact Nat.le_of_eq rfl) (hb hby own_d5_4) (fun _ _ => ⟨rfl, e1, (by decide : 0 + 0 ≤ _), (by decide : 0 + 0 ≤ _)⟩)
  dsimp only [Pt.U, Pt.locs, Pt.cells, Pt.slots] at X2 l2 y2 z2 st2 hQ2
  subst l2 y2 z2
  obtain ⟨rfl, N2q, e2⟩ := hQ2
  have N2 := Fr.app N0 N2q
  have n3 : pb ≠ wb := (own_ne hN (i := 11) (j := 12) rfl rfl (by decide))
  have n4 : pt ≠ wb := (own_ne hN (i := 10) (j := 12) rfl rfl (by decide))
  have n5 : pt ≠ pb := (own_ne hN (i := 10) (j := 11) rfl rfl (by decide))
  have n6 : pg ≠ wb := (own_ne hN (i := 9) (j := 12) rfl rfl (by decide))
  have n7 : pg ≠ pb := (own_ne hN (i := 9) (j := 11) rfl rfl (by decide))
  have n8 : pg ≠ pt := (own_ne hN (i := 9) (j := 10) rfl rfl (by decide))
  have n9 : pf ≠ wb := (own_ne hN (i := 8) (j := 12) rfl rfl (by decide))
  have n10 : pf ≠ pb := (own_ne hN (i := 8) (j := 11) rfl rfl (by decide))
  have n11 : pf ≠ pt := (own_ne hN (i := 8) (j := 10) rfl rfl (by decide))
  have n12 : pf ≠ pg := (own_ne hN (i := 8) (j := 9) rfl rfl (by decide))
  have n13 : li ≠ wb := (own_ne hN (i := 6) (j := 12) rfl rfl (by decide))
  have n14 : li ≠ pb := (own_ne hN (i := 6) (j := 11) rfl rfl (by decide))
  have n15 : li ≠ pt := (own_ne hN (i := 6) (j := 10) rfl rfl (by decide))
  have n16 : li ≠ pg := (own_ne hN (i := 6) (j := 9) rfl rfl (by decide))
  have n17 : li ≠ pf := (own_ne hN (i := 6) (j := 8) rfl rfl (by decide))
  have n18 : lp ≠ wb := (own_ne hN (i := 5) (j := 12) rfl rfl (by decide))
  have n19 : lp ≠ pb := (own_ne hN (i := 5) (j := 11) rfl rfl (by decide))
  have n20 : lp ≠ pt := (own_ne hN (i := 5) (j := 10) rfl rfl (by decide))
  have n21 : lp ≠ pg := (own_ne hN (i := 5) (j := 9) rfl rfl (by decide))
  have n22 : lp ≠ pf := (own_ne hN (i := 5) (j := 8) rfl rfl (by decide))
  have n23 : lp ≠ li := (own_ne hN (i := 5) (j := 6) rfl rfl (by decide))
  have n24 : lo ≠ wb := (own_ne hN (i := 4) (j := 12) rfl rfl (by decide))
  have n25 : lo ≠ pb := (own_ne hN (i := 4) (j := 11) rfl rfl (by decide))
  have n26 : lo ≠ pt := (own_ne hN (i := 4) (j := 10) rfl rfl (by decide))
  have n27 : lo ≠ pg := (own_ne hN (i := 4) (j := 9) rfl rfl (by decide))
  have n28 : lo ≠ pf := (own_ne hN (i := 4) (j := 8) rfl rfl (by decide))
  have n29 : lo ≠ li := (own_ne hN (i := 4) (j := 6) rfl rfl (by decide))
  have n30 : lo ≠ lp := (own_ne hN (i := 4) (j := 5) rfl rfl (by decide))
  have n31 : dp ≠ wb := (own_ne hN (i := 3) (j := 12) rfl rfl (by decide))
  have n32 : dp ≠ pb := (own_ne hN (i := 3) (j := 11) rfl rfl (by decide))
  have n33 : dp ≠ pt := (own_ne hN (i := 3) (j := 10) rfl rfl (by decide))
  have n34 : dp ≠ pg := (own_ne hN (i := 3) (j := 9) rfl rfl (by decide))
  have n35 : dp ≠ pf := (own_ne hN (i := 3) (j := 8) rfl rfl (by decide))
  have n36 : dp ≠ li := (own_ne hN (i := 3) (j := 6) rfl rfl (by decide))
  have n37 : dp ≠ lp := (own_ne hN (i := 3) (j := 5) rfl rfl (by decide))
  have n38 : dp ≠ lo := (own_ne hN (i := 3) (j := 4) rfl rfl (by decide))
  have n39 : io ≠ wb := (own_ne hN (i := 2) (j := 12) rfl rfl (by decide))
  have n40 : io ≠ pb := (own_ne hN (i := 2) (j := 11) rfl rfl (by decide))
  have n41 : io ≠ pt := (own_ne hN (i := 2) (j := 10) rfl rfl (by decide))
  have n42 : io ≠ pg := (own_ne hN (i := 2) (j := 9) rfl rfl (by decide))
  have n43 : io ≠ pf := (own_ne hN (i := 2) (j := 8) rfl rfl (by decide))
  have n44 : io ≠ li := (own_ne hN (i := 2) (j := 6) rfl rfl (by decide))
  have n45 : io ≠ lp := (own_ne hN (i := 2) (j := 5) rfl rfl (by decide))
  have n46 : io ≠ lo := (own_ne hN (i := 2) (j := 4) rfl rfl (by decide))
  have n47 : io ≠ dp := (own_ne hN (i := 2) (j := 3) rfl rfl (by decide))
  have n48 : ip ≠ wb := (own_ne hN (i := 1) (j := 12) rfl rfl (by decide))
  have n49 : ip ≠ pb := (own_ne hN (i := 1) (j := 11) rfl rfl (by decide))
  have n50 : ip ≠ pt := (own_ne hN (i := 1) (j := 10) rfl rfl (by decide))
  have n51 : ip ≠ pg := (own_ne hN (i := 1) (j := 9) rfl rfl (by decide))
  have n52 : ip ≠ pf := (own_ne hN (i := 1) (j := 8) rfl rfl (by decide))
  have n53 : ip ≠ li := (own_ne hN (i := 1) (j := 6) rfl rfl (by decide))
  have n54 : ip ≠ lp := (own_ne hN (i := 1) (j := 5) rfl rfl (by decide))
  have n55 : ip ≠ lo := (own_ne hN (i := 1) (j := 4) rfl rfl (by decide))
  have n56 : ip ≠ dp := (own_ne hN (i := 1) (j := 3) rfl rfl (by decide))
  have n57 : ip ≠ io := (own_ne hN (i := 1) (j := 2) rfl rfl (by decide))
  have n58 : a ≠ wb := (own_ne hN (i := 0) (j := 12) rfl rfl (by decide))
  have n59 : a ≠ pb := (own_ne hN (i := 0) (j := 11) rfl rfl (by decide))
  have n60 : a ≠ pt := (own_ne hN (i := 0) (j := 10) rfl rfl (by decide))
  have n61 : a ≠ pg := (own_ne hN (i := 0) (j := 9) rfl rfl (by decide))
  have n62 : a ≠ pf := (own_ne hN (i := 0) (j := 8) rfl rfl (by decide))
  have n63 : a ≠ li := (own_ne hN (i := 0) (j := 6) rfl rfl (by decide))
  have n64 : a ≠ lp := (own_ne hN (i := 0) (j := 5) rfl rfl (by decide))
  have n65 : a ≠ lo := (own_ne hN (i := 0) (j := 4) rfl rfl (by decide))
  have n66 : a ≠ dp := (own_ne hN (i := 0) (j := 3) rfl rfl (by decide))
  have n67 : a ≠ io := (own_ne hN (i := 0) (j := 2) rfl rfl (by decide))
  have n68 : a ≠ ip := (own_ne hN (i := 0) (j := 1) rfl rfl (by decide))
  obtain ⟨cq69, q69, q69'⟩ := pE_a.cell
  obtain ⟨_, _, ⟨T69, L69, k69, n69⟩, -, X69, ⟨Lc69, hQ69, l69, y69, z69⟩, st69⟩ := X2.privateBack hx (y := (⟨"com/example/libspoke/libspoke/wheel/EntryTable", "makeRoom", "()I"⟩ : MethodName)) hown (mvT hZ (hw _ (own_m 66 rfl))) (mvT hZ (hw _ (own_m 67 rfl))) (own_selP (y0 := (⟨"com/example/libspoke/libspoke/wheel/EntryTable", "add", "(Ljava/lang/Object;J)I"⟩ : MethodName)) (mvT hZ (hw _ (own_m 59 rfl))) rfl (Cond.privateMethod_at (mvP hZ (hw _ (own_m 68 rfl)) (args := #[]))) (mvT hZ (hw _ (own_m 67 rfl))) (by decide)) (Cond.privateMethod_at (mvP hZ (hw _ (own_m 68 rfl)) (args := #[]))) (mvT hZ (hw _ (own_m 69 rfl))) (by decide) (backOf (W := 0) (own_mr l Z a0 hw [] w_CA mr y1 y2 y3 a ip dp lp ps pf pg pt io lo li pb wb k_ip k_io k_dp k_lo k_lp k_li k_pf k_pg k_pb k_wb h0 n0 O0 S_HI S_CA M_OA H_y1 H_y2 H_y3 E_y1 E_y2 E_y3 (allS g_a (allS g_ip (allS g_io (allS g_dp (allS g_lo (allS g_lp (allS g_li (allS g_pf (allS g_pg (allS g_pt (allS g_pb (allS g_wb all0)))))))))))) (own_ndc (allS n68 (allS n67 (allS n66 (allS n65 (allS n64 (allS n63 (allS n62 (allS n61 (allS n60 (allS n59 (allS n58 all0))))))))))) (own_ndc (allS n57 (allS n56 (allS n55 (allS n54 (allS n53 (allS n52 (allS n51 (allS n50 (allS n49 (allS n48 all0)))))))))) (own_ndc (allS n47 (allS n46 (allS n45 (allS n44 (allS n43 (allS n42 (allS n41 (allS n40 (allS n39 all0))))))))) (own_ndc (allS n38 (allS n37 (allS n36 (allS n35 (allS n34 (allS n33 (allS n32 (allS n31 all0)))))))) (own_ndc (allS n30 (allS n29 (allS n28 (allS n27 (allS n26 (allS n25 (allS n24 all0))))))) (own_ndc (allS n23 (allS n22 (allS n21 (allS n20 (allS n19 (allS n18 all0)))))) (own_ndc (allS n17 (allS n16 (allS n15 (allS n14 (allS n13 all0))))) (own_ndc (allS n12 (allS n11 (allS n10 (allS n9 all0)))) (own_ndc (allS n8 (allS n7 (allS n6 all0))) (own_ndc (allS n5 (allS n4 all0)) (own_ndc (allS n3 all0) (own_ndc all0 own_nd0)))))))))))) pE_a pF_a_itemPages pF_a_deadlinePages pF_a_linkPages pF_a_pageSizes pF_a_pageFirstFree pF_a_pageGenerations pF_a_pagesWithRoom pF_a_sparePage pF_a_size pF_a_capacity pV_ip pE_io pV_io pV_dp pV_lo pV_lp pV_li pV_pf pV_pg pE_pt pF_pt_pageBits pF_pt_wordBits pV_pb pV_wb O_ip O_dp O_lp) hZ (hw _ (own_m 69 rfl)) (hw _ (own_m 2 rfl)) (by decide) (by decide)) (g := (mkF m 16 #[rv a, rv y1, .val (.long q0), .second, .val (.int (-1)), .unset] [(.ref a)])) rfl (by rw [hml]; rfl) (Steps.refl _) (a := a) (by rw [e2]; exact q69) q69' (argsL := []) (rest := []) (lenOf own_pd10 rfl) rfl (by show 2 * 0 + _ ≤ _; exact Nat.le_of_eq rfl) (hb hby own_d5_16) (fun _ _ => ⟨rfl, e2, (by decide : 0 + 3 ≤ _), (by decide : 0 + 96 ≤ _)⟩)
  dsimp only [Pt.U, Pt.locs, Pt.cells, Pt.slots] at X69 l69 y69 z69 st69 hQ69
  subst l69 y69 z69
  obtain ⟨io2, lo2, li2, k_io2, k_lo2, k_li2, rfl, N69q, K69, nd69, sz69, O_io2, q70, q71, q72, q73, q74, q75, q76, q77, q78, q79, q80, q81, q82, q83, q84, q85, q86, q87, q88, q89⟩ := hQ69
  have N69 := Fr.app N2 N69q
  have ne_a_io2 : a ≠ io2 := Nat.ne_of_lt (Nat.lt_of_lt_of_le pE_a.lt (sz69 _ (own_m 0 rfl)))
  have ne_ip_io2 : ip ≠ io2 := Nat.ne_of_lt (Nat.lt_of_lt_of_le pV_ip.lt (sz69 _ (own_m 0 rfl)))
  have ne_io_io2 : io ≠ io2 := Nat.ne_of_lt (Nat.lt_of_lt_of_le pV_io.lt (sz69 _ (own_m 0 rfl)))
  have ne_dp_io2 : dp ≠ io2 := Nat.ne_of_lt (Nat.lt_of_lt_of_le pV_dp.lt (sz69 _ (own_m 0 rfl)))
  have ne_lo_io2 : lo ≠ io2 := Nat.ne_of_lt (Nat.lt_of_lt_of_le pV_lo.lt (sz69 _ (own_m 0 rfl)))
  have ne_lp_io2 : lp ≠ io2 := Nat.ne_of_lt (Nat.lt_of_lt_of_le pV_lp.lt (sz69 _ (own_m 0 rfl)))
  have ne_li_io2 : li ≠ io2 := Nat.ne_of_lt (Nat.lt_of_lt_of_le pV_li.lt (sz69 _ (own_m 0 rfl)))
  have ne_ps_io2 : ps ≠ io2 := Nat.ne_of_lt (Nat.lt_of_lt_of_le pV_ps.lt (sz69 _ (own_m 0 rfl)))
  have ne_pf_io2 : pf ≠ io2 := Nat.ne_of_lt (Nat.lt_of_lt_of_le pV_pf.lt (sz69 _ (own_m 0 rfl)))
  have ne_pt_io2 : pt ≠ io2 := Nat.ne_of_lt (Nat.lt_of_lt_of_le pE_pt.lt (sz69 _ (own_m 0 rfl)))
  have ne_pb_io2 : pb ≠ io2 := Nat.ne_of_lt (Nat.lt_of_lt_of_le pV_pb.lt (sz69 _ (own_m 0 rfl)))
  have ne_wb_io2 : wb ≠ io2 := Nat.ne_of_lt (Nat.lt_of_lt_of_le pV_wb.lt (sz69 _ (own_m 0 rfl)))
  have ne_pg_io2 : pg ≠ io2 := Nat.ne_of_lt (Nat.lt_of_lt_of_le pV_pg.lt (sz69 _ (own_m 0 rfl)))
  have gg_io2 : n0 ≤ io2 := Nat.le_trans (own_le O0) (sz69 _ (own_m 0 rfl))
  have sz_io2 : h0.size ≤ io2 := Nat.le_trans kp0.1 (sz69 _ (own_m 0 rfl))
  have ne_a_lo2 : a ≠ lo2 := Nat.ne_of_lt (Nat.lt_of_lt_of_le pE_a.lt (sz69 _ (own_m 1 rfl)))
  have ne_ip_lo2 : ip ≠ lo2 := Nat.ne_of_lt (Nat.lt_of_lt_of_le pV_ip.lt (sz69 _ (own_m 1 rfl)))
  have ne_io_lo2 : io ≠ lo2 := Nat.ne_of_lt (Nat.lt_of_lt_of_le pV_io.lt (sz69 _ (own_m 1 rfl)))
  have ne_dp_lo2 : dp ≠ lo2 := Nat.ne_of_lt (Nat.lt_of_lt_of_le pV_dp.lt (sz69 _ (own_m 1 rfl)))
  have ne_lo_lo2 : lo ≠ lo2 := Nat.ne_of_lt (Nat.lt_of_lt_of_le pV_lo.lt (sz69 _ (own_m 1 rfl)))
  have ne_lp_lo2 : lp ≠ lo2 := Nat.ne_of_lt (Nat.lt_of_lt_of_le pV_lp.lt (sz69 _ (own_m 1 rfl)))
  have ne_li_lo2 : li ≠ lo2 := Nat.ne_of_lt (Nat.lt_of_lt_of_le pV_li.lt (sz69 _ (own_m 1 rfl)))
  have ne_ps_lo2 : ps ≠ lo2 := Nat.ne_of_lt (Nat.lt_of_lt_of_le pV_ps.lt (sz69 _ (own_m 1 rfl)))
  have ne_pf_lo2 : pf ≠ lo2 := Nat.ne_of_lt (Nat.lt_of_lt_of_le pV_pf.lt (sz69 _ (own_m 1 rfl)))
  have ne_pt_lo2 : pt ≠ lo2 := Nat.ne_of_lt (Nat.lt_of_lt_of_le pE_pt.lt (sz69 _ (own_m 1 rfl)))
  have ne_pb_lo2 : pb ≠ lo2 := Nat.ne_of_lt (Nat.lt_of_lt_of_le pV_pb.lt (sz69 _ (own_m 1 rfl)))
  have ne_wb_lo2 : wb ≠ lo2 := Nat.ne_of_lt (Nat.lt_of_lt_of_le pV_wb.lt (sz69 _ (own_m 1 rfl)))
  have ne_pg_lo2 : pg ≠ lo2 := Nat.ne_of_lt (Nat.lt_of_lt_of_le pV_pg.lt (sz69 _ (own_m 1 rfl)))
  have gg_lo2 : n0 ≤ lo2 := Nat.le_trans (own_le O0) (sz69 _ (own_m 1 rfl))
  have sz_lo2 : h0.size ≤ lo2 := Nat.le_trans kp0.1 (sz69 _ (own_m 1 rfl))
  have ne_a_li2 : a ≠ li2 := Nat.ne_of_lt (Nat.lt_of_lt_of_le pE_a.lt (sz69 _ (own_m 2 rfl)))
  have ne_ip_li2 : ip ≠ li2 := Nat.ne_of_lt (Nat.lt_of_lt_of_le pV_ip.lt (sz69 _ (own_m 2 rfl)))
  have ne_io_li2 : io ≠ li2 := Nat.ne_of_lt (Nat.lt_of_lt_of_le pV_io.lt (sz69 _ (own_m 2 rfl)))
  have ne_dp_li2 : dp ≠ li2 := Nat.ne_of_lt (Nat.lt_of_lt_of_le pV_dp.lt (sz69 _ (own_m 2 rfl)))
  have ne_lo_li2 : lo ≠ li2 := Nat.ne_of_lt (Nat.lt_of_lt_of_le pV_lo.lt (sz69 _ (own_m 2 rfl)))
  have ne_lp_li2 : lp ≠ li2 := Nat.ne_of_lt (Nat.lt_of_lt_of_le pV_lp.lt (sz69 _ (own_m 2 rfl)))
  have ne_li_li2 : li ≠ li2 := Nat.ne_of_lt (Nat.lt_of_lt_of_le pV_li.lt (sz69 _ (own_m 2 rfl)))
  have ne_ps_li2 : ps ≠ li2 := Nat.ne_of_lt (Nat.lt_of_lt_of_le pV_ps.lt (sz69 _ (own_m 2 rfl)))
  have ne_pf_li2 : pf ≠ li2 := Nat.ne_of_lt (Nat.lt_of_lt_of_le pV_pf.lt (sz69 _ (own_m 2 rfl)))
  have ne_pt_li2 : pt ≠ li2 := Nat.ne_of_lt (Nat.lt_of_lt_of_le pE_pt.lt (sz69 _ (own_m 2 rfl)))
  have ne_pb_li2 : pb ≠ li2 := Nat.ne_of_lt (Nat.lt_of_lt_of_le pV_pb.lt (sz69 _ (own_m 2 rfl)))
  have ne_wb_li2 : wb ≠ li2 := Nat.ne_of_lt (Nat.lt_of_lt_of_le pV_wb.lt (sz69 _ (own_m 2 rfl)))
  have ne_pg_li2 : pg ≠ li2 := Nat.ne_of_lt (Nat.lt_of_lt_of_le pV_pg.lt (sz69 _ (own_m 2 rfl)))
  have gg_li2 : n0 ≤ li2 := Nat.le_trans (own_le O0) (sz69 _ (own_m 2 rfl))
  have sz_li2 : h0.size ≤ li2 := Nat.le_trans kp0.1 (sz69 _ (own_m 2 rfl))
  have O90 := O0.keep K69 (allS g_a (allS g_ip (allS g_dp (allS g_lp (allS g_pf (allS g_pb (allS g_wb all0)))))))
  have kp91 := kp0.trans K69 ((allS (P := fun x => x ∈ ([a, ip, dp, lp, pf, pb, wb, ps] : List Addr) ∨ h0.size ≤ x) (Or.inl (own_m 0 rfl)) (allS (P := fun x => x ∈ ([a, ip, dp, lp, pf, pb, wb, ps] : List Addr) ∨ h0.size ≤ x) (Or.inl (own_m 1 rfl)) (allS (P := fun x => x ∈ ([a, ip, dp, lp, pf, pb, wb, ps] : List Addr) ∨ h0.size ≤ x) (Or.inl (own_m 2 rfl)) (allS (P := fun x => x ∈ ([a, ip, dp, lp, pf, pb, wb, ps] : List Addr) ∨ h0.size ≤ x) (Or.inl (own_m 3 rfl)) (allS (P := fun x => x ∈ ([a, ip, dp, lp, pf, pb, wb, ps] : List Addr) ∨ h0.size ≤ x) (Or.inl (own_m 4 rfl)) (allS (P := fun x => x ∈ ([a, ip, dp, lp, pf, pb, wb, ps] : List Addr) ∨ h0.size ≤ x) (Or.inl (own_m 5 rfl)) (allS (P := fun x => x ∈ ([a, ip, dp, lp, pf, pb, wb, ps] : List Addr) ∨ h0.size ≤ x) (Or.inl (own_m 6 rfl)) all0))))))))
  obtain ⟨T92, X92, e92, st92⟩ := getF X69 hx hZ hown (host := "") (Or.inl (hw _ (own_m 30 rfl))) Via.refl rfl q75 (g := (mkF m 22 #[rv a, rv y1, .val (.long q0), .second, iv 0, .unset] [(.ref a)])) rfl rfl (hb hby own_d5_22)
  obtain ⟨c93, c93A, c93q, c93S, c93N, c93H, c93G⟩ := id q87
  have c93in : ¬ ((0 : Int32) < 0 ∨ c93.slots.size ≤ ((0 : Int32)).toNatClampNeg) := inb_of c93S ⟨by decide, by decide⟩
  have c93at : c93.slots[((0 : Int32)).toNatClampNeg]? = some (.int 0) := Has.at c93H c93in rfl
  obtain ⟨T94, X94, e94, st94⟩ := getF X92 hx hZ hown (host := "") (Or.inl (hw _ (own_m 30 rfl))) Via.refl e92 q75 (g := (mkF m 31 #[rv a, rv y1, .val (.long q0), .second, iv 0, iv 0] [(.ref a)])) rfl rfl (hb hby own_d5_31)
  obtain ⟨cq95, kq95, q95a, q95b, q95c⟩ := isOf hZ e94 q70
  obtain ⟨_, _, ⟨T95, L95, k95, n95⟩, -, X95, ⟨Lc95, hQ95, l95, y95, z95⟩, st95⟩ := X94.virtualBack hx (y := (⟨"com/example/libspoke/libspoke/wheel/EntryTable", "next", "(I)I"⟩ : MethodName)) (z := (⟨"com/example/libspoke/libspoke/wheel/EntryTable", "next", "(I)I"⟩ : MethodName)) hown (mvT hZ (hw _ (own_m 115 rfl))) (mvT hZ (hw _ (own_m 116 rfl))) (notFace_of_selects (args := #[]) (mvT hZ (hw _ (own_m 118 rfl)))) (mvT hZ (hw _ (own_m 118 rfl))) (mvT hZ (hw _ (own_m 117 rfl))) (by decide) (backOf (W := 2) (own_nx0 l Z a0 hw [] w_CA mr y1 y2 y3 a lp li2 k_lp k_li2 T69.heap n0 O90 S_HI S_CA M_OA H_y1 H_y2 H_y3 E_y1 E_y2 E_y3 q70 q73 q85 q86 O_lp) hZ (hw _ (own_m 119 rfl)) (hw _ (own_m 2 rfl)) (by decide) (by decide)) q95a q95c (g := (mkF m 39 #[rv a, rv y1, .val (.long q0), .second, iv 0, iv 0] [(.int 0), (.ref a), (.int 0), (.ref pf)])) rfl (by rw [hml]; rfl) (Steps.refl _) (argsL := [(.int 0)]) (rest := [(.int 0), (.ref pf)]) (lenOf own_pd0 rfl) rfl (by show 2 * 0 + _ ≤ _; exact Nat.le_of_eq rfl) (hb hby own_d5_39) (fun _ _ => ⟨rfl, e94, (by decide : 3 + 0 ≤ _), (by decide : 96 + 0 ≤ _)⟩)
  dsimp only [Pt.U, Pt.locs, Pt.cells, Pt.slots] at X95 l95 y95 z95 st95 hQ95
  subst l95 y95 z95
  obtain ⟨rfl, N95q, e95⟩ := hQ95
  have N95 := Fr.app N69 N95q
  obtain ⟨c96, c96A, c96q, c96S, c96N, c96H, c96G⟩ := id q87
  have c96in : ¬ ((0 : Int32) < 0 ∨ c96.slots.size ≤ ((0 : Int32)).toNatClampNeg) := inb_of c96S ⟨by decide, by decide⟩
  obtain ⟨T97, h97, X97, e97, W97, st97⟩ := stI X95 hx hZ e95 c96A (j := (0 : Int32)) c96in (g := (mkF m 42 #[rv a, rv y1, .val (.long q0), .second, iv 0, iv 0] [(.int 1), (.int 0), (.ref pf)])) rfl rfl (hb hby own_d5_42)
  have V97 : Arv Z h97 pf k_pf .int (1 : Int32) [(.int 1)] (.int 0) := Arv.set c96A c96q c96S c96N c96H c96G rfl W97 0 rfl (Nat.le_of_ble_eq_true rfl)
  have O98 := O90.wr W97 g_pf
  have kp99 := kp91.wr W97 (Or.inl (own_m 4 rfl))
  have N97 := Fr.snoc X97 N95 g_pf
  have f100 := (q75.other W97 (Or.inl n62))
  obtain ⟨T101, X101, e101, st101⟩ := getF X97 hx hZ hown (host := "") (Or.inl (hw _ (own_m 30 rfl))) Via.refl e97 f100 (g := (mkF m 44 #[rv a, rv y1, .val (.long q0), .second, iv 0, iv 0] [(.ref a)])) rfl rfl (hb hby own_d5_44)
  obtain ⟨c102, c102A, c102q, c102S, c102N, c102H, c102G⟩ := id V97
  have c102in : ¬ ((0 : Int32) < 0 ∨ c102.slots.size ≤ ((0 : Int32)).toNatClampNeg) := inb_of c102S ⟨by decide, by decide⟩
  have c102at : c102.slots[((0 : Int32)).toNatClampNeg]? = some (.int 1) := Has.at c102H c102in rfl
  have f103 := (q78.other W97 (Or.inl n62))
  obtain ⟨T104, X104, e104, st104⟩ := getF X101 hx hZ hown (host := "") (Or.inl (hw _ (own_m 47 rfl))) Via.refl e101 f103 (g := (mkF m 66 #[rv a, rv y1, .val (.long q0), .second, iv 0, iv 0] [(.ref a), (.int 0)])) rfl rfl (hb hby own_d5_66)
  have f105 := (q74.other W97 (Or.inl n62))
  obtain ⟨T106, X106, e106, st106⟩ := getF X104 hx hZ hown (host := "") (Or.inl (hw _ (own_m 28 rfl))) Via.refl e104 f105 (g := (mkF m 78 #[rv a, rv y1, .val (.long q0), .second, iv 0, iv 0] [(.ref a)])) rfl rfl (hb hby own_d5_78)
  have n107 : ps ≠ wb := (own_ne hN (i := 7) (j := 12) rfl rfl (by decide))
  have n108 : ps ≠ pb := (own_ne hN (i := 7) (j := 11) rfl rfl (by decide))
  have n109 : ps ≠ pf := (own_ne hN (i := 7) (j := 8) rfl rfl (by decide))
  have n110 : ps ≠ lp := (Ne.symm (own_ne hN (i := 5) (j := 7) rfl rfl (by decide)))
  have n111 : ps ≠ dp := (Ne.symm (own_ne hN (i := 3) (j := 7) rfl rfl (by decide)))
  have n112 : ps ≠ ip := (Ne.symm (own_ne hN (i := 1) (j := 7) rfl rfl (by decide)))
  have n113 : ps ≠ a := (Ne.symm (own_ne hN (i := 0) (j := 7) rfl rfl (by decide)))
  have f114 := ((pV_ps.keep K69 (ninS n113 (ninS n112 (ninS n111 (ninS n110 (ninS n109 (ninS n108 (ninS n107 nin0)))))))).other W97 n109)
  obtain ⟨c115, c115A, c115q, c115S, c115N, c115H, c115G⟩ := id f114
  have c115in : ¬ ((0 : Int32) < 0 ∨ c115.slots.size ≤ ((0 : Int32)).toNatClampNeg) := inb_of c115S ⟨by decide, by decide⟩
  have c115at : c115.slots[((0 : Int32)).toNatClampNeg]? = some (.int 0) := Has.at c115H c115in rfl
  obtain ⟨c116, c116A, c116q, c116S, c116N, c116H, c116G⟩ := id f114
  have c116in : ¬ ((0 : Int32) < 0 ∨ c116.slots.size ≤ ((0 : Int32)).toNatClampNeg) := inb_of c116S ⟨by decide, by decide⟩
  obtain ⟨T117, h117, X117, e117, W117, st117⟩ := stI X106 hx hZ e106 c116A (j := (0 : Int32)) c116in (g := (mkF m 87 #[rv a, rv y1, .val (.long q0), .second, iv 0, iv 0] [(.int 1), (.int 0), (.ref ps)])) rfl rfl (hb hby own_d5_87)
  have V117 : Arv Z h117 ps k_ps .int (1 : Int32) [(.int 1)] (.int 0) := Arv.set c116A c116q c116S c116N c116H c116G rfl W117 0 rfl (Nat.le_of_ble_eq_true rfl)
  have O118 := O98.wr W117 g_ps
  have kp119 := kp99.wr W117 (Or.inl (own_m 7 rfl))
  have N117 := Fr.snoc X117 N97 g_ps
  have n120 : a ≠ ps := (own_ne hN (i := 0) (j := 7) rfl rfl (by decide))
  have f121 := ((q71.other W97 (Or.inl n62)).other W117 (Or.inl n120))
  obtain ⟨T122, X122, e122, st122⟩ := getF X117 hx hZ hown (host := "") (Or.inl (hw _ (own_m 14 rfl))) Via.refl e117 f121 (g := (mkF m 89 #[rv a, rv y1, .val (.long q0), .second, iv 0, iv 0] [(.ref a)])) rfl rfl (hb hby own_d5_89)
  have n123 : ip ≠ ps := (own_ne hN (i := 1) (j := 7) rfl rfl (by decide))
  have f124 := ((q81.other W97 n52).other W117 n123)
  obtain ⟨c125, c125A, c125q, c125S, c125N, c125H, c125G⟩ := id f124
  have c125in : ¬ ((0 : Int32) < 0 ∨ c125.slots.size ≤ ((0 : Int32)).toNatClampNeg) := inb_of c125S ⟨by decide, by decide⟩
  have c125at : c125.slots[((0 : Int32)).toNatClampNeg]? = some (.ref io2) := Has.at c125H c125in rfl
  have f126 := ((q82.other W97 (Ne.symm ne_pf_io2)).other W117 (Ne.symm ne_ps_io2))
  obtain ⟨c127, c127A, c127q, c127S, c127N, c127H, c127G⟩ := id f126
  have c127in : ¬ ((0 : Int32) < 0 ∨ c127.slots.size ≤ ((0 : Int32)).toNatClampNeg) := inb_of c127S ⟨by decide, by decide⟩
  obtain ⟨T128, h128, X128, e128, W128, st128⟩ := stR X122 hx hZ e122 c127A (j := (0 : Int32)) c127in rfl (Sto.ofV c127A c127q O_io2 (Ins.of_exa (E_y1.ext O118.2) (hw _ (own_m 120 rfl)))) (g := (mkF m 102 #[rv a, rv y1, .val (.long q0), .second, iv 0, iv 0] [(.ref y1), (.int 0), (.ref io2)])) rfl rfl (hb hby own_d5_102)
  have V128 : Arv Z h128 io2 k_io2 (.object "java/lang/Object") (16 : Int32) [(.ref y1), .null, .null, .null, .null, .null, .null, .null, .null, .null, .null, .null, .null, .null, .null, .null] .null := Arv.set c127A c127q c127S c127N c127H c127G rfl W128 0 rfl (Nat.le_of_ble_eq_true rfl)
  have O129 := O118.wr W128 gg_io2
  have kp130 := kp119.wr W128 (Or.inr sz_io2)
  have N128 := Fr.snoc X128 N117 gg_io2
  have f131 := (((q70.wr W97).wr W117).wr W128)
  have f132 := (((q72.other W97 (Or.inl n62)).other W117 (Or.inl n120)).other W128 (Or.inl ne_a_io2))
  have n133 : dp ≠ ps := (own_ne hN (i := 3) (j := 7) rfl rfl (by decide))
  have f134 := (((q83.other W97 n35).other W117 n133).other W128 ne_dp_io2)
  have n135 : lo2 ≠ io2 := (Ne.symm (own_ne nd69 (i := 2) (j := 4) rfl rfl (by decide)))
  have f136 := (((q84.other W97 (Ne.symm ne_pf_lo2)).other W117 (Ne.symm ne_ps_lo2)).other W128 n135)
  obtain ⟨cq137, kq137, q137a, q137b, q137c⟩ := isOf hZ e128 f131
  obtain ⟨_, _, ⟨T137, L137, k137, n137⟩, -, X137, ⟨Lc137, hQ137, l137, y137, z137⟩, st137⟩ := X128.virtualBack hx (y := (⟨"com/example/libspoke/libspoke/wheel/EntryTable", "setDeadline", "(IJ)V"⟩ : MethodName)) (z := (⟨"com/example/libspoke/libspoke/wheel/EntryTable", "setDeadline", "(IJ)V"⟩ : MethodName)) hown (mvT hZ (hw _ (own_m 121 rfl))) (mvT hZ (hw _ (own_m 122 rfl))) (notFace_of_selects (args := #[]) (mvT hZ (hw _ (own_m 124 rfl)))) (mvT hZ (hw _ (own_m 124 rfl))) (mvT hZ (hw _ (own_m 123 rfl))) (by decide) (backOf (W := 0) (own_sd0_0 l Z a0 hw [] w_CA mr y1 y2 y3 a dp lo2 k_dp k_lo2 q0 h128 n0 O129 S_HI S_CA M_OA H_y1 H_y2 H_y3 E_y1 E_y2 E_y3 (allS g_a (allS g_dp (allS gg_lo2 all0))) (own_ndc (allS n66 (allS ne_a_lo2 all0)) (own_ndc (allS ne_dp_lo2 all0) (own_ndc all0 own_nd0))) f131 f132 f134 f136 O_dp) hZ (hw _ (own_m 125 rfl)) (hw _ (own_m 2 rfl)) (by decide) (by decide)) q137a q137c (g := (mkF m 107 #[rv a, rv y1, .val (.long q0), .second, iv 0, iv 0] [(.long q0), (.int 0), (.ref a)])) rfl (by rw [hml]; rfl) (Steps.refl _) (argsL := [(.int 0), (.long q0)]) (rest := []) (lenOf own_pd11 rfl) rfl (by show 2 * 0 + _ ≤ _; exact Nat.le_of_eq rfl) (hb hby own_d5_107) (fun _ _ => ⟨rfl, e128, (by decide : 3 + 0 ≤ _), (by decide : 96 + 0 ≤ _)⟩)
  dsimp only [Pt.U, Pt.locs, Pt.cells, Pt.slots] at X137 l137 y137 z137 st137 hQ137
  subst l137 y137 z137
  obtain ⟨rfl, N137q, K137, q138⟩ := hQ137
  have N137 := Fr.app N128 N137q
  have O139 := O129.keep K137 (allS gg_lo2 all0)
  have kp140 := kp130.trans K137 ((allS (P := fun x => x ∈ ([a, ip, dp, lp, pf, pb, wb, ps] : List Addr) ∨ h0.size ≤ x) (Or.inr sz_lo2) all0))
  have f141 := ((((q79.other W97 (Or.inl n62)).other W117 (Or.inl n120)).other W128 (Or.inl ne_a_io2)).keep K137 (ninS ne_a_lo2 nin0))
  obtain ⟨T142, X142, e142, st142⟩ := getF X137 hx hZ hown (host := "") (Or.inl (hw _ (own_m 126 rfl))) Via.refl rfl f141 (g := (mkF m 112 #[rv a, rv y1, .val (.long q0), .second, iv 0, iv 0] [(.ref a), (.ref a)])) rfl rfl (hb hby own_d5_112)
  have f143 := (f131.keep K137)
  obtain ⟨T144, h144, X144, e144, W144, st144⟩ := putF X142 hx hZ hown (host := "") (Or.inl (hw _ (own_m 126 rfl))) Via.refl e142 f141 f143 (Or.inl (hw _ (own_m 127 rfl))) (hw _ (own_m 1 rfl)) (ty := .int) (by decide) rfl rfl (g := (mkF m 117 #[rv a, rv y1, .val (.long q0), .second, iv 0, iv 0] [(.int 1), (.ref a)])) rfl rfl (hb hby own_d5_117)
  have Fw144 := f141.same W144
  have O145 := O139.wr W144 g_a
  have kp146 := kp140.wr W144 (Or.inl (own_m 0 rfl))
  have N144 := Fr.snoc X144 N137 g_a
  have n147 : ps ≠ pt := (own_ne hN (i := 7) (j := 10) rfl rfl (by decide))
  have n148 : ps ≠ pg := (own_ne hN (i := 7) (j := 9) rfl rfl (by decide))
  have n149 : lp ≠ ps := (own_ne hN (i := 5) (j := 7) rfl rfl (by decide))
  have n150 : lo2 ≠ li2 := (own_ne nd69 (i := 4) (j := 6) rfl rfl (by decide))
  have n151 : io2 ≠ li2 := (own_ne nd69 (i := 2) (j := 6) rfl rfl (by decide))
  have n152 : io2 ≠ lo2 := (own_ne nd69 (i := 2) (j := 4) rfl rfl (by decide))
  have f153 := (f143.wr W144)
  have f154 := (((f121.other W128 (Or.inl ne_a_io2)).keep K137 (ninS ne_a_lo2 nin0)).other W144 (Or.inr (slot_ne (Or.inl (hw _ (own_m 15 rfl))) (Or.inl (hw _ (own_m 127 rfl))) (by decide) (t := (.array (.array (.object "java/lang/Object")))) (t' := .int) (by decide) (by decide))))
  have f155 := ((f132.keep K137 (ninS ne_a_lo2 nin0)).other W144 (Or.inr (slot_ne (Or.inl (hw _ (own_m 21 rfl))) (Or.inl (hw _ (own_m 127 rfl))) (by decide) (t := (.array (.array .long))) (t' := .int) (by decide) (by decide))))
  have f156 := (((((q73.other W97 (Or.inl n62)).other W117 (Or.inl n120)).other W128 (Or.inl ne_a_io2)).keep K137 (ninS ne_a_lo2 nin0)).other W144 (Or.inr (slot_ne (Or.inl (hw _ (own_m 27 rfl))) (Or.inl (hw _ (own_m 127 rfl))) (by decide) (t := (.array (.array .int))) (t' := .int) (by decide) (by decide))))
  have f157 := ((((f105.other W117 (Or.inl n120)).other W128 (Or.inl ne_a_io2)).keep K137 (ninS ne_a_lo2 nin0)).other W144 (Or.inr (slot_ne (Or.inl (hw _ (own_m 29 rfl))) (Or.inl (hw _ (own_m 127 rfl))) (by decide) (t := (.array .int)) (t' := .int) (by decide) (by decide))))
  have f158 := ((((f100.other W117 (Or.inl n120)).other W128 (Or.inl ne_a_io2)).keep K137 (ninS ne_a_lo2 nin0)).other W144 (Or.inr (slot_ne (Or.inl (hw _ (own_m 31 rfl))) (Or.inl (hw _ (own_m 127 rfl))) (by decide) (t := (.array .int)) (t' := .int) (by decide) (by decide))))
  have f159 := (((((q76.other W97 (Or.inl n62)).other W117 (Or.inl n120)).other W128 (Or.inl ne_a_io2)).keep K137 (ninS ne_a_lo2 nin0)).other W144 (Or.inr (slot_ne (Or.inl (hw _ (own_m 33 rfl))) (Or.inl (hw _ (own_m 127 rfl))) (by decide) (t := (.array .int)) (t' := .int) (by decide) (by decide))))
  have f160 := (((((q77.other W97 (Or.inl n62)).other W117 (Or.inl n120)).other W128 (Or.inl ne_a_io2)).keep K137 (ninS ne_a_lo2 nin0)).other W144 (Or.inr (slot_ne (Or.inr (hw _ (own_m 46 rfl))) (Or.inl (hw _ (own_m 127 rfl))) (by decide) (t := (.object "com/example/libspoke/libspoke/wheel/EntryTable$PageSet")) (t' := .int) (by decide) (by decide))))
  have f161 := ((((f103.other W117 (Or.inl n120)).other W128 (Or.inl ne_a_io2)).keep K137 (ninS ne_a_lo2 nin0)).other W144 (Or.inr (slot_ne (Or.inl (hw _ (own_m 48 rfl))) (Or.inl (hw _ (own_m 127 rfl))) (by decide) (t := .int) (t' := .int) (by decide) (by decide))))
  have f162 := (((((q80.other W97 (Or.inl n62)).other W117 (Or.inl n120)).other W128 (Or.inl ne_a_io2)).keep K137 (ninS ne_a_lo2 nin0)).other W144 (Or.inr (slot_ne (Or.inl (hw _ (own_m 71 rfl))) (Or.inl (hw _ (own_m 127 rfl))) (by decide) (t := .int) (t' := .int) (by decide) (by decide))))
  have f163 := (((f124.other W128 ne_ip_io2).keep K137 (ninS ne_ip_lo2 nin0)).other W144 (Ne.symm n68))
  have f164 := ((V128.keep K137 (ninS n152 nin0)).other W144 (Ne.symm ne_a_io2))
  have f165 := ((f134.keep K137 (ninS ne_dp_lo2 nin0)).other W144 (Ne.symm n66))
  have f166 := (q138.other W144 (Ne.symm ne_a_lo2))
  have f167 := (((((q85.other W97 n22).other W117 n149).other W128 ne_lp_io2).keep K137 (ninS ne_lp_lo2 nin0)).other W144 (Ne.symm n64))
  have f168 := (((((q86.other W97 (Ne.symm ne_pf_li2)).other W117 (Ne.symm ne_ps_li2)).other W128 (Ne.symm n151)).keep K137 (ninS (Ne.symm n150) nin0)).other W144 (Ne.symm ne_a_li2))
  have f169 := ((((V97.other W117 (Ne.symm n109)).other W128 ne_pf_io2).keep K137 (ninS ne_pf_lo2 nin0)).other W144 (Ne.symm n62))
  have f170 := (((((q88.other W97 (Ne.symm n10)).other W117 (Ne.symm n108)).other W128 ne_pb_io2).keep K137 (ninS ne_pb_lo2 nin0)).other W144 (Ne.symm n59))
  have f171 := (((((q89.other W97 (Ne.symm n9)).other W117 (Ne.symm n107)).other W128 ne_wb_io2).keep K137 (ninS ne_wb_lo2 nin0)).other W144 (Ne.symm n58))
  have f172 := (((V117.other W128 ne_ps_io2).keep K137 (ninS ne_ps_lo2 nin0)).other W144 n113)
  obtain ⟨fs, hr, hrun, hended, hW, hsame⟩ := X144.leave (v := some (.int 0)) (fun h => by rw [Bd.returns] at h; cases h)
  refine ⟨_, _, pre0 _ ?_, hrun, hended, _, _, rfl, ?_, ⟨_, rfl⟩, hW, hsame.mono (by decide) (by decide)⟩
  · show Steps p.tables e below (s₁.setTop (mkF m 0 #[rv a, rv y1, .val (.long q0), .second, .unset, .unset] [])) _
    refine XS.aloadN X0.here hx rfl (hb hby own_d5_0) rfl rfl ?_
    show Steps p.tables e below (s₁.setTop (mkF m 1 #[rv a, rv y1, .val (.long q0), .second, .unset, .unset] [(.ref a)])) _
    refine st1 _ ?_
    show Steps p.tables e below (T1.setTop (mkF m 4 #[rv a, rv y1, .val (.long q0), .second, .unset, .unset] [(.ref pt)])) _
    refine st2.trans ?_
    show Steps p.tables e below (T2.setTop (mkF m 7 #[rv a, rv y1, .val (.long q0), .second, .unset, .unset] [(.int (-1))])) _
    refine XS.istore X2.here hx rfl (hb hby own_d5_7) rfl (l' := #[rv a, rv y1, .val (.long q0), .second, .val (.int (-1)), .unset]) rfl ?_
    show Steps p.tables e below (T2.setTop (mkF m 9 #[rv a, rv y1, .val (.long q0), .second, .val (.int (-1)), .unset] [])) _
    refine XS.iload X2.here hx rfl (hb hby own_d5_9) rfl ?_
    show Steps p.tables e below (T2.setTop (mkF m 11 #[rv a, rv y1, .val (.long q0), .second, .val (.int (-1)), .unset] [(.int (-1))])) _
    refine XS.iconst X2.here hx rfl (hb hby own_d5_11) ?_
    show Steps p.tables e below (T2.setTop (mkF m 12 #[rv a, rv y1, .val (.long q0), .second, .val (.int (-1)), .unset] [(.int (-1)), (.int (-1))])) _
    refine XS.icmpNo X2.here hx rfl (hb hby own_d5_12) rfl (teq (by decide)).2 ?_
    show Steps p.tables e below (T2.setTop (mkF m 15 #[rv a, rv y1, .val (.long q0), .second, .val (.int (-1)), .unset] [])) _
    refine XS.aloadN X2.here hx rfl (hb hby own_d5_15) rfl rfl ?_
    show Steps p.tables e below (T2.setTop (mkF m 16 #[rv a, rv y1, .val (.long q0), .second, .val (.int (-1)), .unset] [(.ref a)])) _
    refine st69.trans ?_
    show Steps p.tables e below (T69.setTop (mkF m 19 #[rv a, rv y1, .val (.long q0), .second, .val (.int (-1)), .unset] [(.int 0)])) _
    refine XS.istore X69.here hx rfl (hb hby own_d5_19) rfl (l' := #[rv a, rv y1, .val (.long q0), .second, iv 0, .unset]) rfl ?_
    show Steps p.tables e below (T69.setTop (mkF m 21 #[rv a, rv y1, .val (.long q0), .second, iv 0, .unset] [])) _
    refine XS.aloadN X69.here hx rfl (hb hby own_d5_21) rfl rfl ?_
    show Steps p.tables e below (T69.setTop (mkF m 22 #[rv a, rv y1, .val (.long q0), .second, iv 0, .unset] [(.ref a)])) _
    refine st92 _ ?_
    show Steps p.tables e below (T92.setTop (mkF m 25 #[rv a, rv y1, .val (.long q0), .second, iv 0, .unset] [(.ref pf)])) _
    refine XS.iload X92.here hx rfl (hb hby own_d5_25) rfl ?_
    show Steps p.tables e below (T92.setTop (mkF m 27 #[rv a, rv y1, .val (.long q0), .second, iv 0, .unset] [(.int 0), (.ref pf)])) _
    refine X92.iaload hx (j := (0 : Int32)) (v := (.int 0)) (by rw [e92]; exact c93A.1) (State.isArrayOf_alike hZ.alike c93A.2.1) c93A.2.2 c93in c93at (g := (mkF m 27 #[rv a, rv y1, .val (.long q0), .second, iv 0, .unset] [(.int 0), (.ref pf)])) rfl rfl (hb hby own_d5_27) _ ?_
    show Steps p.tables e below (T92.setTop (mkF m 28 #[rv a, rv y1, .val (.long q0), .second, iv 0, .unset] [(.int 0)])) _
    refine XS.istore X92.here hx rfl (hb hby own_d5_28) rfl (l' := #[rv a, rv y1, .val (.long q0), .second, iv 0, iv 0]) rfl ?_
    show Steps p.tables e below (T92.setTop (mkF m 30 #[rv a, rv y1, .val (.long q0), .second, iv 0, iv 0] [])) _
    refine XS.aloadN X92.here hx rfl (hb hby own_d5_30) rfl rfl ?_
    show Steps p.tables e below (T92.setTop (mkF m 31 #[rv a, rv y1, .val (.long q0), .second, iv 0, iv 0] [(.ref a)])) _
    refine st94 _ ?_
    show Steps p.tables e below (T94.setTop (mkF m 34 #[rv a, rv y1, .val (.long q0), .second, iv 0, iv 0] [(.ref pf)])) _
    refine XS.iload X94.here hx rfl (hb hby own_d5_34) rfl ?_
    show Steps p.tables e below (T94.setTop (mkF m 36 #[rv a, rv y1, .val (.long q0), .second, iv 0, iv 0] [(.int 0), (.ref pf)])) _
    refine XS.aloadN X94.here hx rfl (hb hby own_d5_36) rfl rfl ?_
    show Steps p.tables e below (T94.setTop (mkF m 37 #[rv a, rv y1, .val (.long q0), .second, iv 0, iv 0] [(.ref a), (.int 0), (.ref pf)])) _
    refine XS.iload X94.here hx rfl (hb hby own_d5_37) rfl ?_
    show Steps p.tables e below (T94.setTop (mkF m 39 #[rv a, rv y1, .val (.long q0), .second, iv 0, iv 0] [(.int 0), (.ref a), (.int 0), (.ref pf)])) _
    refine st95.trans ?_
    show Steps p.tables e below (T95.setTop (mkF m 42 #[rv a, rv y1, .val (.long q0), .second, iv 0, iv 0] [(.int 1), (.int 0), (.ref pf)])) _
    refine st97 _ ?_
    show Steps p.tables e below (T97.setTop (mkF m 43 #[rv a, rv y1, .val (.long q0), .second, iv 0, iv 0] [])) _
    refine XS.aloadN X97.here hx rfl (hb hby own_d5_43) rfl rfl ?_
    show Steps p.tables e below (T97.setTop (mkF m 44 #[rv a, rv y1, .val (.long q0), .second, iv 0, iv 0] [(.ref a)])) _
    refine st101 _ ?_
    show Steps p.tables e below (T101.setTop (mkF m 47 #[rv a, rv y1, .val (.long q0), .second, iv 0, iv 0] [(.ref pf)])) _
    refine XS.iload X101.here hx rfl (hb hby own_d5_47) rfl ?_
    show Steps p.tables e below (T101.setTop (mkF m 49 #[rv a, rv y1, .val (.long q0), .second, iv 0, iv 0] [(.int 0), (.ref pf)])) _
    refine X101.iaload hx (j := (0 : Int32)) (v := (.int 1)) (by rw [e101]; exact c102A.1) (State.isArrayOf_alike hZ.alike c102A.2.1) c102A.2.2 c102in c102at (g := (mkF m 49 #[rv a, rv y1, .val (.long q0), .second, iv 0, iv 0] [(.int 0), (.ref pf)])) rfl rfl (hb hby own_d5_49) _ ?_
    show Steps p.tables e below (T101.setTop (mkF m 50 #[rv a, rv y1, .val (.long q0), .second, iv 0, iv 0] [(.int 1)])) _
    refine XS.iconst X101.here hx rfl (hb hby own_d5_50) ?_
    show Steps p.tables e below (T101.setTop (mkF m 51 #[rv a, rv y1, .val (.long q0), .second, iv 0, iv 0] [(.int (-1)), (.int 1)])) _
    refine XS.icmpYes X101.here hx rfl (pc0 := 51) (pc' := 63) rfl (hb hby own_d5_51) rfl (feq (by decide)).2 (by decide) (by decide) ?_
    show Steps p.tables e below (T101.setTop (mkF m 63 #[rv a, rv y1, .val (.long q0), .second, iv 0, iv 0] [])) _
    refine XS.iload X101.here hx rfl (hb hby own_d5_63) rfl ?_
    show Steps p.tables e below (T101.setTop (mkF m 65 #[rv a, rv y1, .val (.long q0), .second, iv 0, iv 0] [(.int 0)])) _
    refine XS.aloadN X101.here hx rfl (hb hby own_d5_65) rfl rfl ?_
    show Steps p.tables e below (T101.setTop (mkF m 66 #[rv a, rv y1, .val (.long q0), .second, iv 0, iv 0] [(.ref a), (.int 0)])) _
    refine st104 _ ?_
    show Steps p.tables e below (T104.setTop (mkF m 69 #[rv a, rv y1, .val (.long q0), .second, iv 0, iv 0] [(.int (-1)), (.int 0)])) _
    refine XS.icmpYes X104.here hx rfl (pc0 := 69) (pc' := 77) rfl (hb hby own_d5_69) rfl (feq (by decide)).2 (by decide) (by decide) ?_
    show Steps p.tables e below (T104.setTop (mkF m 77 #[rv a, rv y1, .val (.long q0), .second, iv 0, iv 0] [])) _
    refine XS.aloadN X104.here hx rfl (hb hby own_d5_77) rfl rfl ?_
    show Steps p.tables e below (T104.setTop (mkF m 78 #[rv a, rv y1, .val (.long q0), .second, iv 0, iv 0] [(.ref a)])) _
    refine st106 _ ?_
    show Steps p.tables e below (T106.setTop (mkF m 81 #[rv a, rv y1, .val (.long q0), .second, iv 0, iv 0] [(.ref ps)])) _
    refine XS.iload X106.here hx rfl (hb hby own_d5_81) rfl ?_
    show Steps p.tables e below (T106.setTop (mkF m 83 #[rv a, rv y1, .val (.long q0), .second, iv 0, iv 0] [(.int 0), (.ref ps)])) _
    refine XT.dup2 X106.here hx rfl (hb hby own_d5_83) rfl rfl rfl ?_
    show Steps p.tables e below (T106.setTop (mkF m 84 #[rv a, rv y1, .val (.long q0), .second, iv 0, iv 0] [(.int 0), (.ref ps), (.int 0), (.ref ps)])) _
    refine X106.iaload hx (j := (0 : Int32)) (v := (.int 0)) (by rw [e106]; exact c115A.1) (State.isArrayOf_alike hZ.alike c115A.2.1) c115A.2.2 c115in c115at (g := (mkF m 84 #[rv a, rv y1, .val (.long q0), .second, iv 0, iv 0] [(.int 0), (.ref ps), (.int 0), (.ref ps)])) rfl rfl (hb hby own_d5_84) _ ?_
    show Steps p.tables e below (T106.setTop (mkF m 85 #[rv a, rv y1, .val (.long q0), .second, iv 0, iv 0] [(.int 0), (.int 0), (.ref ps)])) _
    refine XS.iconst X106.here hx rfl (hb hby own_d5_85) ?_
    show Steps p.tables e below (T106.setTop (mkF m 86 #[rv a, rv y1, .val (.long q0), .second, iv 0, iv 0] [(.int 1), (.int 0), (.int 0), (.ref ps)])) _
    refine XS.iadd X106.here hx rfl (hb hby own_d5_86) rfl ?_
    show Steps p.tables e below (T106.setTop (mkF m 87 #[rv a, rv y1, .val (.long q0), .second, iv 0, iv 0] [(.int ((0 : Int32) + (1 : Int32))), (.int 0), (.ref ps)])) _
    refine own_top (v' := (.int 1)) (congrArg Value.int (by decide)) ?_
    show Steps p.tables e below (T106.setTop (mkF m 87 #[rv a, rv y1, .val (.long q0), .second, iv 0, iv 0] [(.int 1), (.int 0), (.ref ps)])) _
    refine st117 _ ?_
    show Steps p.tables e below (T117.setTop (mkF m 88 #[rv a, rv y1, .val (.long q0), .second, iv 0, iv 0] [])) _
    refine XS.aloadN X117.here hx rfl (hb hby own_d5_88) rfl rfl ?_
    show Steps p.tables e below (T117.setTop (mkF m 89 #[rv a, rv y1, .val (.long q0), .second, iv 0, iv 0] [(.ref a)])) _
    refine st122 _ ?_
    show Steps p.tables e below (T122.setTop (mkF m 92 #[rv a, rv y1, .val (.long q0), .second, iv 0, iv 0] [(.ref ip)])) _
    refine XS.iload X122.here hx rfl (hb hby own_d5_92) rfl ?_
    show Steps p.tables e below (T122.setTop (mkF m 94 #[rv a, rv y1, .val (.long q0), .second, iv 0, iv 0] [(.int 0), (.ref ip)])) _
    refine X122.aaload hx (j := (0 : Int32)) (v := (.ref io2)) (by rw [e122]; exact c125A.1) (State.isArrayOf_alike hZ.alike c125A.2.1) rfl c125A.2.2 c125in c125at (g := (mkF m 94 #[rv a, rv y1, .val (.long q0), .second, iv 0, iv 0] [(.int 0), (.ref ip)])) rfl rfl (hb hby own_d5_94) _ ?_
    show Steps p.tables e below (T122.setTop (mkF m 95 #[rv a, rv y1, .val (.long q0), .second, iv 0, iv 0] [(.ref io2)])) _
    refine XS.iload X122.here hx rfl (hb hby own_d5_95) rfl ?_
    show Steps p.tables e below (T122.setTop (mkF m 97 #[rv a, rv y1, .val (.long q0), .second, iv 0, iv 0] [(.int 0), (.ref io2)])) _
    refine XS.sipush X122.here hx rfl (hb hby own_d5_97) ?_
    show Steps p.tables e below (T122.setTop (mkF m 100 #[rv a, rv y1, .val (.long q0), .second, iv 0, iv 0] [(.int 4095), (.int 0), (.ref io2)])) _
    refine XS.iand X122.here hx rfl (hb hby own_d5_100) rfl ?_
    show Steps p.tables e below (T122.setTop (mkF m 101 #[rv a, rv y1, .val (.long q0), .second, iv 0, iv 0] [(.int ((0 : Int32) &&& (4095 : Int32))), (.ref io2)])) _
    refine own_top (v' := (.int 0)) (congrArg Value.int (by decide)) ?_
    show Steps p.tables e below (T122.setTop (mkF m 101 #[rv a, rv y1, .val (.long q0), .second, iv 0, iv 0] [(.int 0), (.ref io2)])) _
    refine XS.aloadN X122.here hx rfl (hb hby own_d5_101) rfl rfl ?_
    show Steps p.tables e below (T122.setTop (mkF m 102 #[rv a, rv y1, .val (.long q0), .second, iv 0, iv 0] [(.ref y1), (.int 0), (.ref io2)])) _
    refine st128 _ ?_
    show Steps p.tables e below (T128.setTop (mkF m 103 #[rv a, rv y1, .val (.long q0), .second, iv 0, iv 0] [])) _
    refine XS.aloadN X128.here hx rfl (hb hby own_d5_103) rfl rfl ?_
    show Steps p.tables e below (T128.setTop (mkF m 104 #[rv a, rv y1, .val (.long q0), .second, iv 0, iv 0] [(.ref a)])) _
    refine XS.iload X128.here hx rfl (hb hby own_d5_104) rfl ?_
    show Steps p.tables e below (T128.setTop (mkF m 106 #[rv a, rv y1, .val (.long q0), .second, iv 0, iv 0] [(.int 0), (.ref a)])) _
    refine XS.lloadN X128.here hx rfl (hb hby own_d5_106) rfl ?_
    show Steps p.tables e below (T128.setTop (mkF m 107 #[rv a, rv y1, .val (.long q0), .second, iv 0, iv 0] [(.long q0), (.int 0), (.ref a)])) _
    refine st137.trans ?_
    show Steps p.tables e below (T137.setTop (mkF m 110 #[rv a, rv y1, .val (.long q0), .second, iv 0, iv 0] [])) _
    refine XS.aloadN X137.here hx rfl (hb hby own_d5_110) rfl rfl ?_
    show Steps p.tables e below (T137.setTop (mkF m 111 #[rv a, rv y1, .val (.long q0), .second, iv 0, iv 0] [(.ref a)])) _
    refine XS.dup X137.here hx rfl (hb hby own_d5_111) rfl rfl ?_
    show Steps p.tables e below (T137.setTop (mkF m 112 #[rv a, rv y1, .val (.long q0), .second, iv 0, iv 0] [(.ref a), (.ref a)])) _
    refine st142 _ ?_
    show Steps p.tables e below (T142.setTop (mkF m 115 #[rv a, rv y1, .val (.long q0), .second, iv 0, iv 0] [(.int 0), (.ref a)])) _
    refine XS.iconst X142.here hx rfl (hb hby own_d5_115) ?_
    show Steps p.tables e below (T142.setTop (mkF m 116 #[rv a, rv y1, .val (.long q0), .second, iv 0, iv 0] [(.int 1), (.int 0), (.ref a)])) _
    refine XS.iadd X142.here hx rfl (hb hby own_d5_116) rfl ?_
    show Steps p.tables e below (T142.setTop (mkF m 117 #[rv a, rv y1, .val (.long q0), .second, iv 0, iv 0] [(.int ((0 : Int32) + (1 : Int32))), (.ref a)])) _
    refine own_top (v' := (.int 1)) (congrArg Value.int (by decide)) ?_
    show Steps p.tables e below (T142.setTop (mkF m 117 #[rv a, rv y1, .val (.long q0), .second, iv 0, iv 0] [(.int 1), (.ref a)])) _
    refine st144 _ ?_
    show Steps p.tables e below (T144.setTop (mkF m 120 #[rv a, rv y1, .val (.long q0), .second, iv 0, iv 0] [])) _
    refine XS.iload X144.here hx rfl (hb hby own_d5_120) rfl ?_
    show Steps p.tables e below (T144.setTop (mkF m 122 #[rv a, rv y1, .val (.long q0), .second, iv 0, iv 0] [(.int 0)])) _
    exact retI X144 hx Bd.returns (hb hby own_d5_122) hr
  · show own_addf_Q Z w_CA mr y1 y2 y3 a ip dp lp ps pf pg pt io lo li pb wb k_ip k_io k_dp k_lo k_lp k_li k_ps k_pf k_pb k_wb k_pg q0 h0 n0 _ T144.heap _
    rw [e144]
    exact ⟨io2, lo2, li2, k_io2, k_lo2, k_li2, rfl, N144, kp146, (own_ndc (allS n68 (allS ne_a_io2 (allS n66 (allS ne_a_lo2 (allS n64 (allS ne_a_li2 (allS n120 (allS n62 (allS n61 (allS n60 (allS n59 (allS n58 all0)))))))))))) (own_ndc (allS ne_ip_io2 (allS n56 (allS ne_ip_lo2 (allS n54 (allS ne_ip_li2 (allS n123 (allS n52 (allS n51 (allS n50 (allS n49 (allS n48 all0))))))))))) (own_ndc (allS (Ne.symm ne_dp_io2) (allS n152 (allS (Ne.symm ne_lp_io2) (allS n151 (allS (Ne.symm ne_ps_io2) (allS (Ne.symm ne_pf_io2) (allS (Ne.symm ne_pg_io2) (allS (Ne.symm ne_pt_io2) (allS (Ne.symm ne_pb_io2) (allS (Ne.symm ne_wb_io2) all0)))))))))) (own_ndc (allS ne_dp_lo2 (allS n37 (allS ne_dp_li2 (allS n133 (allS n35 (allS n34 (allS n33 (allS n32 (allS n31 all0))))))))) (own_ndc (allS (Ne.symm ne_lp_lo2) (allS n150 (allS (Ne.symm ne_ps_lo2) (allS (Ne.symm ne_pf_lo2) (allS (Ne.symm ne_pg_lo2) (allS (Ne.symm ne_pt_lo2) (allS (Ne.symm ne_pb_lo2) (allS (Ne.symm ne_wb_lo2) all0)))))))) (own_ndc (allS ne_lp_li2 (allS n149 (allS n22 (allS n21 (allS n20 (allS n19 (allS n18 all0))))))) (own_ndc (allS (Ne.symm ne_ps_li2) (allS (Ne.symm ne_pf_li2) (allS (Ne.symm ne_pg_li2) (allS (Ne.symm ne_pt_li2) (allS (Ne.symm ne_pb_li2) (allS (Ne.symm ne_wb_li2) all0)))))) (own_ndc (allS n109 (allS n148 (allS n147 (allS n108 (allS n107 all0))))) (own_ndc (allS n12 (allS n11 (allS n10 (allS n9 all0)))) (own_ndc (allS n8 (allS n7 (allS n6 all0))) (own_ndc (allS n5 (allS n4 all0)) (own_ndc (allS n3 all0) (own_ndc all0 own_nd0))))))))))))), (allS sz_io2 (allS sz_lo2 (allS sz_li2 all0))), O_io2, f153, f154, f155, f156, f157, f158, f159, f160, f161, Fw144, f162, f163, f164, f165, f166, f167, f168, f169, f170, f171, f172⟩
theorem own_nx2_ef (m : MethodId) (a : Addr) : entryFrame m #[(.ref a), (.int 1)] 2 = mkF m 0 #[rv a, iv 1] [] := by first | (simp [entryFrame, mkF, argsToLocals, Value.category]; done) | rfl
def own_nx2_Q (Z : State) (w_CA : Addr) (mr : Addr) (y1 : Addr) (y2 : Addr) (y3 : Addr) (a : Addr) (lp : Addr) (li : Addr) (k_lp : ClassId) (k_li : ClassId) (h0 : Heap) (n0 : Nat) (v : Option Value) (h : Heap) (L : List Loc) : Prop := v = some (.int 2) ∧ Fr n0 L ∧ h = h0
set_option maxRecDepth 65536 in
set_option maxHeartbeats 40000000 in
theorem own_nx2 (l : Launch) (Z : State) (a0 : Array Value) (hw : ∀ d ∈ tables_1, d.before a0 Z = true) (ws : List Jvm.Cond) (w_CA : Addr) (mr : Addr) (y1 : Addr) (y2 : Addr) (y3 : Addr) (a : Addr) (lp : Addr) (li : Addr) (k_lp : ClassId) (k_li : ClassId) (h0 : Heap) (n0 : Nat) (O0 : Old Z n0 h0) (S_HI : Sta Z Z.heap "java/lang/Integer$IntegerCache" "high" "I" (.int 127)) (S_CA : Sta Z Z.heap "java/lang/Integer$IntegerCache" "cache" "[Ljava/lang/Integer;" (.ref w_CA)) (M_OA : own_Mir Z "[Ljava/lang/Object;" mr) (H_y1 : own_At Z w_CA (129 : Int32) y1) (H_y2 : own_At Z w_CA (130 : Int32) y2) (H_y3 : own_At Z w_CA (131 : Int32) y3) (E_y1 : Exa Z Z.heap y1 "java/lang/Integer") (E_y2 : Exa Z Z.heap y2 "java/lang/Integer") (E_y3 : Exa Z Z.heap y3 "java/lang/Integer") (pE_a : Exa Z h0 a "com/example/libspoke/libspoke/wheel/EntryTable") (pF_a_linkPages : Fld Z h0 a "com/example/libspoke/libspoke/wheel/EntryTable" "linkPages" "[[I" (.ref lp)) (pV_lp : Arv Z h0 lp k_lp (.array .int) (1 : Int32) [(.ref li)] .null) (pV_li : Arv Z h0 li k_li .int (64 : Int32) [(.int 1), (.int 0), (.int 0), (.int 0), (.int 2), (.int 0), (.int 0), (.int 0), (.int 3), (.int 0), (.int 0), (.int 0), (.int 4), (.int 0), (.int 0), (.int 0), (.int 5), (.int 0), (.int 0), (.int 0), (.int 6), (.int 0), (.int 0), (.int 0), (.int 7), (.int 0), (.int 0), (.int 0), (.int 8), (.int 0), (.int 0), (.int 0), (.int 9), (.int 0), (.int 0), (.int 0), (.int 10), (.int 0), (.int 0), (.int 0), (.int 11), (.int 0), (.int 0), (.int 0), (.int 12), (.int 0), (.int 0), (.int 0), (.int 13), (.int 0), (.int 0), (.int 0), (.int 14), (.int 0), (.int 0), (.int 0), (.int 15), (.int 0), (.int 0), (.int 0), (.int (-1)), (.int 0), (.int 0), (.int 0)] (.int 0)) (O_lp : OvrA Z k_lp .int "[I") :
    MetFree l (⟨"com/example/libspoke/libspoke/wheel/EntryTable", "next", "(I)I"⟩ : MethodName) (head1 (Jvm.Cond.code (⟨"com/example/libspoke/libspoke/wheel/EntryTable", "next", "(I)I"⟩ : MethodName) prog_18_method_11_code 2 (some .int) :: ws) ({ frames := 1, cells := 0, slots := 0, locals := 14 } : Room)) (fun ar U => ar = #[(.ref a), (.int 1)] ∧ Z.Warmed39 U.vm ∧ U.heap = h0) (fun _ _ _ _ _ => True) (fun _ U oc U' => ∃ v L, oc = .returned v ∧ own_nx2_Q Z w_CA mr y1 y2 y3 a lp li k_lp k_li h0 n0 v U'.heap L ∧ FrameEnd U oc U' L ({ frames := 1, cells := 0, slots := 0, locals := 14 } : Room).cells ({ frames := 1, cells := 0, slots := 0, locals := 14 } : Room).slots) := by
  refine MetFree.of_bodySF (plainFor_of_name own_pn0) hisR ?_
  intro p e s m args below meth c s₁ Bd hml0 hP hK
  obtain ⟨rfl, hZ, hh⟩ := hP
  have hx := Bd.exec
  have hby := Bd.bytes
  have hml : c.maxLocals = 2 := hml0
  have hown : s.vm.findClass "com/example/libspoke/libspoke/wheel/EntryTable" = some m.cls := findClass_of_methodNamed Bd.named
  have hnm := (name_of_methodNamed Bd.named Bd.method).1
  have X0 : Stand p l e ({ frames := 1, cells := 0, slots := 0, locals := 14 } : Room) s m #[(.ref a), (.int 1)] below meth c s₁ [] 0 0 := Stand.of_body Bd
  have e0 : s₁.heap = h0 := by rw [← hh, Bd.state]; rfl
  have N0 := Fr.nil n0
  have pre0 : ∀ t, Steps p.tables e below (s₁.setTop (mkF m 0 #[rv a, iv 1] [])) t → Steps p.tables e below (s₁.setTop (entryFrame m #[(.ref a), (.int 1)] 2)) t := fun t k => castTop (own_nx2_ef m a) k
  obtain ⟨T1, X1, e1, st1⟩ := getF X0 hx hZ hown (host := "") (Or.inl (hw _ (own_m 26 rfl))) Via.refl e0 pF_a_linkPages (g := (mkF m 1 #[rv a, iv 1] [(.ref a)])) rfl rfl (hb hby own_d17_1)
  obtain ⟨c2, c2A, c2q, c2S, c2N, c2H, c2G⟩ := id pV_lp
  have c2in : ¬ ((0 : Int32) < 0 ∨ c2.slots.size ≤ ((0 : Int32)).toNatClampNeg) := inb_of c2S ⟨by decide, by decide⟩
  have c2at : c2.slots[((0 : Int32)).toNatClampNeg]? = some (.ref li) := Has.at c2H c2in rfl
  obtain ⟨_, _, ⟨T3, L3, k3, n3⟩, -, X3, ⟨Lc3, hQ3, l3, y3, z3⟩, st3⟩ := Jvm.LawKit.callS X1 hx (y := (⟨"com/example/libspoke/libspoke/wheel/EntryTable", "link", "(II)I"⟩ : MethodName)) hown (mvT hZ (hw _ (own_m 107 rfl))) (mvT hZ (hw _ (own_m 108 rfl))) (mvT hZ (hw _ (own_m 2 rfl))) (mvT hZ (hw _ (own_m 109 rfl))) (by decide) (backOf (W := 1) (own_lk l Z a0 hw [] w_CA mr y1 y2 y3 (1 : Int32) (0 : Int32) h0 n0 O0 S_HI S_CA M_OA H_y1 H_y2 H_y3 E_y1 E_y2 E_y3 ) hZ (hw _ (own_m 109 rfl)) (hw _ (own_m 2 rfl)) (by decide) (by decide)) (g := (mkF m 11 #[rv a, iv 1] [(.int 0), (.int 1), (.ref li)])) rfl (by rw [hml]; rfl) (argsL := [(.int 1), (.int 0)]) (rest := [(.ref li)]) (lenOf own_pd3 rfl) rfl (by show 2 * 0 + _ ≤ _; exact Nat.le_of_eq rfl) (hb hby own_d17_11) (fun _ _ => ⟨rfl, e1, (by decide : 0 + 0 ≤ _), (by decide : 0 + 0 ≤ _)⟩)
  dsimp only [Pt.U, Pt.locs, Pt.cells, Pt.slots] at X3 l3 y3 z3 st3 hQ3
  subst l3 y3 z3
  obtain ⟨rfl, N3q, e3⟩ := hQ3
  have N3 := Fr.app N0 N3q
  obtain ⟨c4, c4A, c4q, c4S, c4N, c4H, c4G⟩ := id pV_li
  have c4in : ¬ ((4 : Int32) < 0 ∨ c4.slots.size ≤ ((4 : Int32)).toNatClampNeg) := inb_of c4S ⟨by decide, by decide⟩
  have c4at : c4.slots[((4 : Int32)).toNatClampNeg]? = some (.int 2) := Has.at c4H c4in rfl
  obtain ⟨fs, hr, hrun, hended, hW, hsame⟩ := X3.leave (v := some (.int 2)) (fun h => by rw [Bd.returns] at h; cases h)
  refine ⟨_, _, pre0 _ ?_, hrun, hended, _, _, rfl, ?_, ⟨_, rfl⟩, hW, hsame.mono (by decide) (by decide)⟩
  · show Steps p.tables e below (s₁.setTop (mkF m 0 #[rv a, iv 1] [])) _
    refine XS.aloadN X0.here hx rfl (hb hby own_d17_0) rfl rfl ?_
    show Steps p.tables e below (s₁.setTop (mkF m 1 #[rv a, iv 1] [(.ref a)])) _
    refine st1 _ ?_
    show Steps p.tables e below (T1.setTop (mkF m 4 #[rv a, iv 1] [(.ref lp)])) _
    refine XS.iloadN X1.here hx rfl (hb hby own_d17_4) rfl ?_
    show Steps p.tables e below (T1.setTop (mkF m 5 #[rv a, iv 1] [(.int 1), (.ref lp)])) _
    refine XS.bipush X1.here hx rfl (hb hby own_d17_5) ?_
    show Steps p.tables e below (T1.setTop (mkF m 7 #[rv a, iv 1] [(.int 12), (.int 1), (.ref lp)])) _
    refine XS.iushr X1.here hx rfl (hb hby own_d17_7) rfl ?_
    show Steps p.tables e below (T1.setTop (mkF m 8 #[rv a, iv 1] [(.int (((1 : Int32).toUInt32 >>> ((12 : Int32) &&& 31).toUInt32).toInt32)), (.ref lp)])) _
    refine own_top (v' := (.int 0)) (congrArg Value.int (by decide)) ?_
    show Steps p.tables e below (T1.setTop (mkF m 8 #[rv a, iv 1] [(.int 0), (.ref lp)])) _
    refine X1.aaload hx (j := (0 : Int32)) (v := (.ref li)) (by rw [e1]; exact c2A.1) (State.isArrayOf_alike hZ.alike c2A.2.1) rfl c2A.2.2 c2in c2at (g := (mkF m 8 #[rv a, iv 1] [(.int 0), (.ref lp)])) rfl rfl (hb hby own_d17_8) _ ?_
    show Steps p.tables e below (T1.setTop (mkF m 9 #[rv a, iv 1] [(.ref li)])) _
    refine XS.iloadN X1.here hx rfl (hb hby own_d17_9) rfl ?_
    show Steps p.tables e below (T1.setTop (mkF m 10 #[rv a, iv 1] [(.int 1), (.ref li)])) _
    refine XS.iconst X1.here hx rfl (hb hby own_d17_10) ?_
    show Steps p.tables e below (T1.setTop (mkF m 11 #[rv a, iv 1] [(.int 0), (.int 1), (.ref li)])) _
    refine st3 _ ?_
    show Steps p.tables e below (T3.setTop (mkF m 14 #[rv a, iv 1] [(.int ((((1 : Int32) &&& (4095 : Int32)) <<< ((2 : Int32) &&& 31)) + (0 : Int32))), (.ref li)])) _
    refine own_top (v' := (.int 4)) (congrArg Value.int (by decide)) ?_
    show Steps p.tables e below (T3.setTop (mkF m 14 #[rv a, iv 1] [(.int 4), (.ref li)])) _
    refine X3.iaload hx (j := (4 : Int32)) (v := (.int 2)) (by rw [e3]; exact c4A.1) (State.isArrayOf_alike hZ.alike c4A.2.1) c4A.2.2 c4in c4at (g := (mkF m 14 #[rv a, iv 1] [(.int 4), (.ref li)])) rfl rfl (hb hby own_d17_14) _ ?_
    show Steps p.tables e below (T3.setTop (mkF m 15 #[rv a, iv 1] [(.int 2)])) _
    exact retI X3 hx Bd.returns (hb hby own_d17_15) hr
  · show own_nx2_Q Z w_CA mr y1 y2 y3 a lp li k_lp k_li h0 n0 _ T3.heap _
    rw [e3]
    exact ⟨rfl, N3, rfl⟩
theorem own_sd1_1_ef (m : MethodId) (a : Addr) (q0 : Int64) : entryFrame m #[(.ref a), (.int 1), (.long q0)] 4 = mkF m 0 #[rv a, iv 1, .val (.long q0), .second] [] := by first | (simp [entryFrame, mkF, argsToLocals, Value.category]; done) | rfl
def own_sd1_1_Q (Z : State) (w_CA : Addr) (mr : Addr) (y1 : Addr) (y2 : Addr) (y3 : Addr) (a : Addr) (dp : Addr) (lo : Addr) (k_dp : ClassId) (k_lo : ClassId) (d0 : Int64) (q0 : Int64) (h0 : Heap) (n0 : Nat) (v : Option Value) (h : Heap) (L : List Loc) : Prop := v = none ∧ Fr n0 L ∧ Keep h0 h [lo] ∧ Arv Z h lo k_lo .long (16 : Int32) [(.long d0), (.long q0), (.long 0), (.long 0), (.long 0), (.long 0), (.long 0), (.long 0), (.long 0), (.long 0), (.long 0), (.long 0), (.long 0), (.long 0), (.long 0), (.long 0)] (.long 0)
set_option maxRecDepth 65536 in
set_option maxHeartbeats 40000000 in
theorem own_sd1_1 (l : Launch) (Z : State) (a0 : Array Value) (hw : ∀ d ∈ tables_1, d.before a0 Z = true) (ws : List Jvm.Cond) (w_CA : Addr) (mr : Addr) (y1 : Addr) (y2 : Addr) (y3 : Addr) (a : Addr) (dp : Addr) (lo : Addr) (k_dp : ClassId) (k_lo : ClassId) (d0 : Int64) (q0 : Int64) (h0 : Heap) (n0 : Nat) (O0 : Old Z n0 h0) (S_HI : Sta Z Z.heap "java/lang/Integer$IntegerCache" "high" "I" (.int 127)) (S_CA : Sta Z Z.heap "java/lang/Integer$IntegerCache" "cache" "[Ljava/lang/Integer;" (.ref w_CA)) (M_OA : own_Mir Z "[Ljava/lang/Object;" mr) (H_y1 : own_At Z w_CA (129 : Int32) y1) (H_y2 : own_At Z w_CA (130 : Int32) y2) (H_y3 : own_At Z w_CA (131 : Int32) y3) (E_y1 : Exa Z Z.heap y1 "java/lang/Integer") (E_y2 : Exa Z Z.heap y2 "java/lang/Integer") (E_y3 : Exa Z Z.heap y3 "java/lang/Integer") (hG : ∀ x ∈ ([a, dp, lo] : List Addr), n0 ≤ x) (hN : own_Nd [a, dp, lo]) (pE_a : Exa Z h0 a "com/example/libspoke/libspoke/wheel/EntryTable") (pF_a_deadlinePages : Fld Z h0 a "com/example/libspoke/libspoke/wheel/EntryTable" "deadlinePages" "[[J" (.ref dp)) (pV_dp : Arv Z h0 dp k_dp (.array .long) (1 : Int32) [(.ref lo)] .null) (pV_lo : Arv Z h0 lo k_lo .long (16 : Int32) [(.long d0), (.long 0), (.long 0), (.long 0), (.long 0), (.long 0), (.long 0), (.long 0), (.long 0), (.long 0), (.long 0), (.long 0), (.long 0), (.long 0), (.long 0), (.long 0)] (.long 0)) (O_dp : OvrA Z k_dp .long "[J") :
    MetFree l (⟨"com/example/libspoke/libspoke/wheel/EntryTable", "setDeadline", "(IJ)V"⟩ : MethodName) (head1 (Jvm.Cond.code (⟨"com/example/libspoke/libspoke/wheel/EntryTable", "setDeadline", "(IJ)V"⟩ : MethodName) prog_18_method_10_code 4 none :: ws) ({ frames := 0, cells := 0, slots := 0, locals := 0 } : Room)) (fun ar U => ar = #[(.ref a), (.int 1), (.long q0)] ∧ Z.Warmed39 U.vm ∧ U.heap = h0) (fun _ _ _ _ _ => True) (fun _ U oc U' => ∃ v L, oc = .returned v ∧ own_sd1_1_Q Z w_CA mr y1 y2 y3 a dp lo k_dp k_lo d0 q0 h0 n0 v U'.heap L ∧ FrameEnd U oc U' L ({ frames := 0, cells := 0, slots := 0, locals := 0 } : Room).cells ({ frames := 0, cells := 0, slots := 0, locals := 0 } : Room).slots) := by
  refine MetFree.of_bodySF (plainFor_of_name own_pn0) hisR ?_
  intro p e s m args below meth c s₁ Bd hml0 hP hK
  obtain ⟨rfl, hZ, hh⟩ := hP
  have hx := Bd.exec
  have hby := Bd.bytes
  have hml : c.maxLocals = 4 := hml0
  have hown : s.vm.findClass "com/example/libspoke/libspoke/wheel/EntryTable" = some m.cls := findClass_of_methodNamed Bd.named
  have hnm := (name_of_methodNamed Bd.named Bd.method).1
  have X0 : Stand p l e ({ frames := 0, cells := 0, slots := 0, locals := 0 } : Room) s m #[(.ref a), (.int 1), (.long q0)] below meth c s₁ [] 0 0 := Stand.of_body Bd
  have e0 : s₁.heap = h0 := by rw [← hh, Bd.state]; rfl
  have N0 := Fr.nil n0
  have pre0 : ∀ t, Steps p.tables e below (s₁.setTop (mkF m 0 #[rv a, iv 1, .val (.long q0), .second] [])) t → Steps p.tables e below (s₁.setTop (entryFrame m #[(.ref a), (.int 1), (.long q0)] 4)) t := fun t k => castTop (own_sd1_1_ef m a q0) k
  have kp0 := Keep.refl h0 ([lo] : List Addr)
  have g_a : n0 ≤ a := hG _ (own_m 0 rfl)
  have g_dp : n0 ≤ dp := hG _ (own_m 1 rfl)
  have g_lo : n0 ≤ lo := hG _ (own_m 2 rfl)
  obtain ⟨T1, X1, e1, st1⟩ := getF X0 hx hZ hown (host := "") (Or.inl (hw _ (own_m 20 rfl))) Via.refl e0 pF_a_deadlinePages (g := (mkF m 1 #[rv a, iv 1, .val (.long q0), .second] [(.ref a)])) rfl rfl (hb hby own_d18_1)
  obtain ⟨c2, c2A, c2q, c2S, c2N, c2H, c2G⟩ := id pV_dp
  have c2in : ¬ ((0 : Int32) < 0 ∨ c2.slots.size ≤ ((0 : Int32)).toNatClampNeg) := inb_of c2S ⟨by decide, by decide⟩
  have c2at : c2.slots[((0 : Int32)).toNatClampNeg]? = some (.ref lo) := Has.at c2H c2in rfl
  obtain ⟨c3, c3A, c3q, c3S, c3N, c3H, c3G⟩ := id pV_lo
  have c3in : ¬ ((1 : Int32) < 0 ∨ c3.slots.size ≤ ((1 : Int32)).toNatClampNeg) := inb_of c3S ⟨by decide, by decide⟩
  obtain ⟨T4, h4, X4, e4, W4, st4⟩ := stJ X1 hx hZ e1 c3A (j := (1 : Int32)) c3in (g := (mkF m 15 #[rv a, iv 1, .val (.long q0), .second] [(.long q0), (.int 1), (.ref lo)])) rfl rfl (hb hby own_d18_15)
  have V4 : Arv Z h4 lo k_lo .long (16 : Int32) [(.long d0), (.long q0), (.long 0), (.long 0), (.long 0), (.long 0), (.long 0), (.long 0), (.long 0), (.long 0), (.long 0), (.long 0), (.long 0), (.long 0), (.long 0), (.long 0)] (.long 0) := Arv.set c3A c3q c3S c3N c3H c3G rfl W4 1 rfl (Nat.le_of_ble_eq_true rfl)
  have O5 := O0.wr W4 g_lo
  have kp6 := kp0.wr W4 (Or.inl (own_m 0 rfl))
  have N4 := Fr.snoc X4 N0 g_lo
  obtain ⟨fs, hr, hrun, hended, hW, hsame⟩ := X4.leave (v := none) (fun _ => rfl)
  refine ⟨_, _, pre0 _ ?_, hrun, hended, _, _, rfl, ?_, ⟨_, rfl⟩, hW, hsame.mono (by decide) (by decide)⟩
  · show Steps p.tables e below (s₁.setTop (mkF m 0 #[rv a, iv 1, .val (.long q0), .second] [])) _
    refine XS.aloadN X0.here hx rfl (hb hby own_d18_0) rfl rfl ?_
    show Steps p.tables e below (s₁.setTop (mkF m 1 #[rv a, iv 1, .val (.long q0), .second] [(.ref a)])) _
    refine st1 _ ?_
    show Steps p.tables e below (T1.setTop (mkF m 4 #[rv a, iv 1, .val (.long q0), .second] [(.ref dp)])) _
    refine XS.iloadN X1.here hx rfl (hb hby own_d18_4) rfl ?_
    show Steps p.tables e below (T1.setTop (mkF m 5 #[rv a, iv 1, .val (.long q0), .second] [(.int 1), (.ref dp)])) _
    refine XS.bipush X1.here hx rfl (hb hby own_d18_5) ?_
    show Steps p.tables e below (T1.setTop (mkF m 7 #[rv a, iv 1, .val (.long q0), .second] [(.int 12), (.int 1), (.ref dp)])) _
    refine XS.iushr X1.here hx rfl (hb hby own_d18_7) rfl ?_
    show Steps p.tables e below (T1.setTop (mkF m 8 #[rv a, iv 1, .val (.long q0), .second] [(.int (((1 : Int32).toUInt32 >>> ((12 : Int32) &&& 31).toUInt32).toInt32)), (.ref dp)])) _
    refine own_top (v' := (.int 0)) (congrArg Value.int (by decide)) ?_
    show Steps p.tables e below (T1.setTop (mkF m 8 #[rv a, iv 1, .val (.long q0), .second] [(.int 0), (.ref dp)])) _
    refine X1.aaload hx (j := (0 : Int32)) (v := (.ref lo)) (by rw [e1]; exact c2A.1) (State.isArrayOf_alike hZ.alike c2A.2.1) rfl c2A.2.2 c2in c2at (g := (mkF m 8 #[rv a, iv 1, .val (.long q0), .second] [(.int 0), (.ref dp)])) rfl rfl (hb hby own_d18_8) _ ?_
    show Steps p.tables e below (T1.setTop (mkF m 9 #[rv a, iv 1, .val (.long q0), .second] [(.ref lo)])) _
    refine XS.iloadN X1.here hx rfl (hb hby own_d18_9) rfl ?_
    show Steps p.tables e below (T1.setTop (mkF m 10 #[rv a, iv 1, .val (.long q0), .second] [(.int 1), (.ref lo)])) _
    refine XS.sipush X1.here hx rfl (hb hby own_d18_10) ?_
    show Steps p.tables e below (T1.setTop (mkF m 13 #[rv a, iv 1, .val (.long q0), .second] [(.int 4095), (.int 1), (.ref lo)])) _
    refine XS.iand X1.here hx rfl (hb hby own_d18_13) rfl ?_
    show Steps p.tables e below (T1.setTop (mkF m 14 #[rv a, iv 1, .val (.long q0), .second] [(.int ((1 : Int32) &&& (4095 : Int32))), (.ref lo)])) _
    refine own_top (v' := (.int 1)) (congrArg Value.int (by decide)) ?_
    show Steps p.tables e below (T1.setTop (mkF m 14 #[rv a, iv 1, .val (.long q0), .second] [(.int 1), (.ref lo)])) _
    refine XS.lloadN X1.here hx rfl (hb hby own_d18_14) rfl ?_
    show Steps p.tables e below (T1.setTop (mkF m 15 #[rv a, iv 1, .val (.long q0), .second] [(.long q0), (.int 1), (.ref lo)])) _
    refine st4 _ ?_
    show Steps p.tables e below (T4.setTop (mkF m 16 #[rv a, iv 1, .val (.long q0), .second] [])) _
    exact X4.returnOut hx Bd.returns (hb hby own_d18_16) hr
  · show own_sd1_1_Q Z w_CA mr y1 y2 y3 a dp lo k_dp k_lo d0 q0 h0 n0 _ T4.heap _
    rw [e4]
    exact ⟨rfl, N4, kp6, V4⟩
theorem own_add2_ef (m : MethodId) (y2 : Addr) (a : Addr) (q0 : Int64) : entryFrame m #[(.ref a), (.ref y2), (.long q0)] 6 = mkF m 0 #[rv a, rv y2, .val (.long q0), .second, .unset, .unset] [] := by first | (simp [entryFrame, mkF, argsToLocals, Value.category]; done) | rfl
def own_add2_Q (Z : State) (w_CA : Addr) (mr : Addr) (y1 : Addr) (y2 : Addr) (y3 : Addr) (a : Addr) (ip : Addr) (dp : Addr) (lp : Addr) (ps : Addr) (pf : Addr) (pg : Addr) (pt : Addr) (io : Addr) (lo : Addr) (li : Addr) (pb : Addr) (wb : Addr) (k_ip : ClassId) (k_io : ClassId) (k_dp : ClassId) (k_lo : ClassId) (k_lp : ClassId) (k_li : ClassId) (k_ps : ClassId) (k_pf : ClassId) (k_pb : ClassId) (k_wb : ClassId) (d0 : Int64) (q0 : Int64) (h0 : Heap) (n0 : Nat) (v : Option Value) (h : Heap) (L : List Loc) : Prop := v = some (.int 1) ∧ Fr n0 L ∧ Keep h0 h [a, io, lo, ps, pf] ∧ Exa Z h a "com/example/libspoke/libspoke/wheel/EntryTable" ∧ Fld Z h a "com/example/libspoke/libspoke/wheel/EntryTable" "itemPages" "[[Ljava/lang/Object;" (.ref ip) ∧ Fld Z h a "com/example/libspoke/libspoke/wheel/EntryTable" "deadlinePages" "[[J" (.ref dp) ∧ Fld Z h a "com/example/libspoke/libspoke/wheel/EntryTable" "linkPages" "[[I" (.ref lp) ∧ Fld Z h a "com/example/libspoke/libspoke/wheel/EntryTable" "pageSizes" "[I" (.ref ps) ∧ Fld Z h a "com/example/libspoke/libspoke/wheel/EntryTable" "pageFirstFree" "[I" (.ref pf) ∧ Fld Z h a "com/example/libspoke/libspoke/wheel/EntryTable" "pageGenerations" "[I" (.ref pg) ∧ Fld Z h a "com/example/libspoke/libspoke/wheel/EntryTable" "pagesWithRoom" "Lcom/example/libspoke/libspoke/wheel/EntryTable$PageSet;" (.ref pt) ∧ Fld Z h a "com/example/libspoke/libspoke/wheel/EntryTable" "sparePage" "I" (.int (-1)) ∧ Fld Z h a "com/example/libspoke/libspoke/wheel/EntryTable" "size" "I" (.int 2) ∧ Fld Z h a "com/example/libspoke/libspoke/wheel/EntryTable" "capacity" "I" (.int 16) ∧ Arv Z h io k_io (.object "java/lang/Object") (16 : Int32) [(.ref y1), (.ref y2), .null, .null, .null, .null, .null, .null, .null, .null, .null, .null, .null, .null, .null, .null] .null ∧ Arv Z h lo k_lo .long (16 : Int32) [(.long d0), (.long q0), (.long 0), (.long 0), (.long 0), (.long 0), (.long 0), (.long 0), (.long 0), (.long 0), (.long 0), (.long 0), (.long 0), (.long 0), (.long 0), (.long 0)] (.long 0) ∧ Arv Z h ps k_ps .int (1 : Int32) [(.int 2)] (.int 0) ∧ Arv Z h pf k_pf .int (1 : Int32) [(.int 2)] (.int 0)
set_option maxRecDepth 65536 in
set_option maxHeartbeats 40000000 in
theorem own_add2 (l : Launch) (Z : State) (a0 : Array Value) (hw : ∀ d ∈ tables_1, d.before a0 Z = true) (ws : List Jvm.Cond) (w_CA : Addr) (mr : Addr) (y1 : Addr) (y2 : Addr) (y3 : Addr) (a : Addr) (ip : Addr) (dp : Addr) (lp : Addr) (ps : Addr) (pf : Addr) (pg : Addr) (pt : Addr) (io : Addr) (lo : Addr) (li : Addr) (pb : Addr) (wb : Addr) (k_ip : ClassId) (k_io : ClassId) (k_dp : ClassId) (k_lo : ClassId) (k_lp : ClassId) (k_li : ClassId) (k_ps : ClassId) (k_pf : ClassId) (k_pb : ClassId) (k_wb : ClassId) (d0 : Int64) (q0 : Int64) (h0 : Heap) (n0 : Nat) (O0 : Old Z n0 h0) (S_HI : Sta Z Z.heap "java/lang/Integer$IntegerCache" "high" "I" (.int 127)) (S_CA : Sta Z Z.heap "java/lang/Integer$IntegerCache" "cache" "[Ljava/lang/Integer;" (.ref w_CA)) (M_OA : own_Mir Z "[Ljava/lang/Object;" mr) (H_y1 : own_At Z w_CA (129 : Int32) y1) (H_y2 : own_At Z w_CA (130 : Int32) y2) (H_y3 : own_At Z w_CA (131 : Int32) y3) (E_y1 : Exa Z Z.heap y1 "java/lang/Integer") (E_y2 : Exa Z Z.heap y2 "java/lang/Integer") (E_y3 : Exa Z Z.heap y3 "java/lang/Integer") (hG : ∀ x ∈ ([a, ip, io, dp, lo, lp, li, ps, pf, pt, pb, wb] : List Addr), n0 ≤ x) (hN : own_Nd [a, ip, io, dp, lo, lp, li, ps, pf, pt, pb, wb]) (pE_a : Exa Z h0 a "com/example/libspoke/libspoke/wheel/EntryTable") (pF_a_itemPages : Fld Z h0 a "com/example/libspoke/libspoke/wheel/EntryTable" "itemPages" "[[Ljava/lang/Object;" (.ref ip)) (pF_a_deadlinePages : Fld Z h0 a "com/example/libspoke/libspoke/wheel/EntryTable" "deadlinePages" "[[J" (.ref dp)) (pF_a_linkPages : Fld Z h0 a "com/example/libspoke/libspoke/wheel/EntryTable" "linkPages" "[[I" (.ref lp)) (pF_a_pageSizes : Fld Z h0 a "com/example/libspoke/libspoke/wheel/EntryTable" "pageSizes" "[I" (.ref ps)) (pF_a_pageFirstFree : Fld Z h0 a "com/example/libspoke/libspoke/wheel/EntryTable" "pageFirstFree" "[I" (.ref pf)) (pF_a_pageGenerations : Fld Z h0 a "com/example/libspoke/libspoke/wheel/EntryTable" "pageGenerations" "[I" (.ref pg)) (pF_a_pagesWithRoom : Fld Z h0 a "com/example/libspoke/libspoke/wheel/EntryTable" "pagesWithRoom" "Lcom/example/libspoke/libspoke/wheel/EntryTable$PageSet;" (.ref pt)) (pF_a_sparePage : Fld Z h0 a "com/example/libspoke/libspoke/wheel/EntryTable" "sparePage" "I" (.int (-1))) (pF_a_size : Fld Z h0 a "com/example/libspoke/libspoke/wheel/EntryTable" "size" "I" (.int 1)) (pF_a_capacity : Fld Z h0 a "com/example/libspoke/libspoke/wheel/EntryTable" "capacity" "I" (.int 16)) (pV_ip : Arv Z h0 ip k_ip (.array (.object "java/lang/Object")) (1 : Int32) [(.ref io)] .null) (pV_io : Arv Z h0 io k_io (.object "java/lang/Object") (16 : Int32) [(.ref y1), .null, .null, .null, .null, .null, .null, .null, .null, .null, .null, .null, .null, .null, .null, .null] .null) (pV_dp : Arv Z h0 dp k_dp (.array .long) (1 : Int32) [(.ref lo)] .null) (pV_lo : Arv Z h0 lo k_lo .long (16 : Int32) [(.long d0), (.long 0), (.long 0), (.long 0), (.long 0), (.long 0), (.long 0), (.long 0), (.long 0), (.long 0), (.long 0), (.long 0), (.long 0), (.long 0), (.long 0), (.long 0)] (.long 0)) (pV_lp : Arv Z h0 lp k_lp (.array .int) (1 : Int32) [(.ref li)] .null) (pV_li : Arv Z h0 li k_li .int (64 : Int32) [(.int 1), (.int 0), (.int 0), (.int 0), (.int 2), (.int 0), (.int 0), (.int 0), (.int 3), (.int 0), (.int 0), (.int 0), (.int 4), (.int 0), (.int 0), (.int 0), (.int 5), (.int 0), (.int 0), (.int 0), (.int 6), (.int 0), (.int 0), (.int 0), (.int 7), (.int 0), (.int 0), (.int 0), (.int 8), (.int 0), (.int 0), (.int 0), (.int 9), (.int 0), (.int 0), (.int 0), (.int 10), (.int 0), (.int 0), (.int 0), (.int 11), (.int 0), (.int 0), (.int 0), (.int 12), (.int 0), (.int 0), (.int 0), (.int 13), (.int 0), (.int 0), (.int 0), (.int 14), (.int 0), (.int 0), (.int 0), (.int 15), (.int 0), (.int 0), (.int 0), (.int (-1)), (.int 0), (.int 0), (.int 0)] (.int 0)) (pV_ps : Arv Z h0 ps k_ps .int (1 : Int32) [(.int 1)] (.int 0)) (pV_pf : Arv Z h0 pf k_pf .int (1 : Int32) [(.int 1)] (.int 0)) (pE_pt : Exa Z h0 pt "com/example/libspoke/libspoke/wheel/EntryTable$PageSet") (pF_pt_pageBits : Fld Z h0 pt "com/example/libspoke/libspoke/wheel/EntryTable$PageSet" "pageBits" "[J" (.ref pb)) (pF_pt_wordBits : Fld Z h0 pt "com/example/libspoke/libspoke/wheel/EntryTable$PageSet" "wordBits" "[J" (.ref wb)) (pV_pb : Arv Z h0 pb k_pb .long (1 : Int32) [(.long 1)] (.long 0)) (pV_wb : Arv Z h0 wb k_wb .long (1 : Int32) [(.long 1)] (.long 0)) (O_ip : OvrA Z k_ip (.object "java/lang/Object") "[Ljava/lang/Object;") (O_io : Ovr Z k_io "java/lang/Object") (O_dp : OvrA Z k_dp .long "[J") (O_lp : OvrA Z k_lp .int "[I") :
    MetFree l (⟨"com/example/libspoke/libspoke/wheel/EntryTable", "add", "(Ljava/lang/Object;J)I"⟩ : MethodName) (head1 (Jvm.Cond.code (⟨"com/example/libspoke/libspoke/wheel/EntryTable", "add", "(Ljava/lang/Object;J)I"⟩ : MethodName) prog_18_method_2_code 6 (some .int) :: ws) ({ frames := 3, cells := 0, slots := 0, locals := 42 } : Room)) (fun ar U => ar = #[(.ref a), (.ref y2), (.long q0)] ∧ Z.Warmed39 U.vm ∧ U.heap = h0) (fun _ _ _ _ _ => True) (fun _ U oc U' => ∃ v L, oc = .returned v ∧ own_add2_Q Z w_CA mr y1 y2 y3 a ip dp lp ps pf pg pt io lo li pb wb k_ip k_io k_dp k_lo k_lp k_li k_ps k_pf k_pb k_wb d0 q0 h0 n0 v U'.heap L ∧ FrameEnd U oc U' L ({ frames := 3, cells := 0, slots := 0, locals := 42 } : Room).cells ({ frames := 3, cells := 0, slots := 0, locals := 42 } : Room).slots) := by
  refine MetFree.of_bodySF (plainFor_of_name own_pn0) hisR ?_
  intro p e s m args below meth c s₁ Bd hml0 hP hK
  obtain ⟨rfl, hZ, hh⟩ := hP
  have hx := Bd.exec
  have hby := Bd.bytes
  have hml : c.maxLocals = 6 := hml0
  have hown : s.vm.findClass "com/example/libspoke/libspoke/wheel/EntryTable" = some m.cls := findClass_of_methodNamed Bd.named
  have hnm := (name_of_methodNamed Bd.named Bd.method).1
  have X0 : Stand p l e ({ frames := 3, cells := 0, slots := 0, locals := 42 } : Room) s m #[(.ref a), (.ref y2), (.long q0)] below meth c s₁ [] 0 0 := Stand.of_body Bd
  have e0 : s₁.heap = h0 := by rw [← hh, Bd.state]; rfl
  have N0 := Fr.nil n0
  have pre0 : ∀ t, Steps p.tables e below (s₁.setTop (mkF m 0 #[rv a, rv y2, .val (.long q0), .second, .unset, .unset] [])) t → Steps p.tables e below (s₁.setTop (entryFrame m #[(.ref a), (.ref y2), (.long q0)] 6)) t := fun t k => castTop (own_add2_ef m y2 a q0) k
  have kp0 := Keep.refl h0 ([a, io, lo, ps, pf] : List Addr)
  have g_a : n0 ≤ a := hG _ (own_m 0 rfl)
  have g_ip : n0 ≤ ip := hG _ (own_m 1 rfl)
  have g_io : n0 ≤ io := hG _ (own_m 2 rfl)
  have g_dp : n0 ≤ dp := hG _ (own_m 3 rfl)
  have g_lo : n0 ≤ lo := hG _ (own_m 4 rfl)
  have g_lp : n0 ≤ lp := hG _ (own_m 5 rfl)
  have g_li : n0 ≤ li := hG _ (own_m 6 rfl)
  have g_ps : n0 ≤ ps := hG _ (own_m 7 rfl)
  have g_pf : n0 ≤ pf := hG _ (own_m 8 rfl)
  have g_pt : n0 ≤ pt := hG _ (own_m 9 rfl)
  have g_pb : n0 ≤ pb := hG _ (own_m 10 rfl)
  have g_wb : n0 ≤ wb := hG _ (own_m 11 rfl)
  obtain ⟨T1, X1, e1, st1⟩ := getF X0 hx hZ hown (host := "") (Or.inl (hw _ (own_m 45 rfl))) Via.refl e0 pF_a_pagesWithRoom (g := (mkF m 1 #[rv a, rv y2, .val (.long q0), .second, .unset, .unset] [(.ref a)])) rfl rfl (hb hby own_d5_1)
  obtain ⟨cq2, kq2, q2a, q2b, q2c⟩ := isOf hZ e1 pE_pt
  obtain ⟨_, _, ⟨T2, L2, k2, n2⟩, -, X2, ⟨Lc2, hQ2, l2, y2, z2⟩, st2⟩ := X1.virtualBack hx (y := (⟨"com/example/libspoke/libspoke/wheel/EntryTable$PageSet", "lowest", "()I"⟩ : MethodName)) (z := (⟨"com/example/libspoke/libspoke/wheel/EntryTable$PageSet", "lowest", "()I"⟩ : MethodName)) hown (mvT hZ (hw _ (own_m 61 rfl))) (mvT hZ (hw _ (own_m 62 rfl))) (notFace_of_selects (args := #[]) (mvT hZ (hw _ (own_m 64 rfl)))) (mvT hZ (hw _ (own_m 64 rfl))) (mvT hZ (hw _ (own_m 63 rfl))) (by decide) (backOf (W := 0) (own_low1 l Z a0 hw [] w_CA mr y1 y2 y3 pt pb wb k_pb k_wb h0 n0 O0 S_HI S_CA M_OA H_y1 H_y2 H_y3 E_y1 E_y2 E_y3 pE_pt pF_pt_pageBits pF_pt_wordBits pV_pb pV_wb) hZ (hw _ (own_m 65 rfl)) (hw _ (own_m 36 rfl)) (by decide) (by decide)) q2a q2c (g := (mkF m 4 #[rv a, rv y2, .val (.long q0), .second, .unset, .unset] [(.ref pt)])) rfl (by rw [hml]; rfl) (Steps.refl _) (argsL := []) (rest := []) (lenOf own_pd10 rfl) rfl (by show 2 * 0 + _ ≤ _; exact Nat.le_of_eq rfl) (hb hby own_d5_4) (fun _ _ => ⟨rfl, e1, (by decide : 0 + 0 ≤ _), (by decide : 0 + 0 ≤ _)⟩)
  dsimp only [Pt.U, Pt.locs, Pt.cells, Pt.slots] at X2 l2 y2 z2 st2 hQ2
  subst l2 y2 z2
  obtain ⟨rfl, N2q, e2⟩ := hQ2
  have N2 := Fr.app N0 N2q
  obtain ⟨T3, X3, e3, st3⟩ := getF X2 hx hZ hown (host := "") (Or.inl (hw _ (own_m 30 rfl))) Via.refl e2 pF_a_pageFirstFree (g := (mkF m 22 #[rv a, rv y2, .val (.long q0), .second, iv 0, .unset] [(.ref a)])) rfl rfl (hb hby own_d5_22)
  obtain ⟨c4, c4A, c4q, c4S, c4N, c4H, c4G⟩ := id pV_pf
  have c4in : ¬ ((0 : Int32) < 0 ∨ c4.slots.size ≤ ((0 : Int32)).toNatClampNeg) := inb_of c4S ⟨by decide, by decide⟩
  have c4at : c4.slots[((0 : Int32)).toNatClampNeg]? = some (.int 1) := Has.at c4H c4in rfl
  obtain ⟨T5, X5, e5, st5⟩ := getF X3 hx hZ hown (host := "") (Or.inl (hw _ (own_m 30 rfl))) Via.refl e3 pF_a_pageFirstFree (g := (mkF m 31 #[rv a, rv y2, .val (.long q0), .second, iv 0, iv 1] [(.ref a)])) rfl rfl (hb hby own_d5_31)
  obtain ⟨cq6, kq6, q6a, q6b, q6c⟩ := isOf hZ e5 pE_a
  obtain ⟨_, _, ⟨T6, L6, k6, n6⟩, -, X6, ⟨Lc6, hQ6, l6, y6, z6⟩, st6⟩ := X5.virtualBack hx (y := (⟨"com/example/libspoke/libspoke/wheel/EntryTable", "next", "(I)I"⟩ : MethodName)) (z := (⟨"com/example/libspoke/libspoke/wheel/EntryTable", "next", "(I)I"⟩ : MethodName)) hown (mvT hZ (hw _ (own_m 115 rfl))) (mvT hZ (hw _ (own_m 116 rfl))) (notFace_of_selects (args := #[]) (mvT hZ (hw _ (own_m 118 rfl)))) (mvT hZ (hw _ (own_m 118 rfl))) (mvT hZ (hw _ (own_m 117 rfl))) (by decide) (backOf (W := 2) (own_nx2 l Z a0 hw [] w_CA mr y1 y2 y3 a lp li k_lp k_li h0 n0 O0 S_HI S_CA M_OA H_y1 H_y2 H_y3 E_y1 E_y2 E_y3 pE_a pF_a_linkPages pV_lp pV_li O_lp) hZ (hw _ (own_m 119 rfl)) (hw _ (own_m 2 rfl)) (by decide) (by decide)) q6a q6c (g := (mkF m 39 #[rv a, rv y2, .val (.long q0), .second, iv 0, iv 1] [(.int 1), (.ref a), (.int 0), (.ref pf)])) rfl (by rw [hml]; rfl) (Steps.refl _) (argsL := [(.int 1)]) (rest := [(.int 0), (.ref pf)]) (lenOf own_pd0 rfl) rfl (by show 2 * 0 + _ ≤ _; exact Nat.le_of_eq rfl) (hb hby own_d5_39) (fun _ _ => ⟨rfl, e5, (by decide : 0 + 0 ≤ _), (by decide : 0 + 0 ≤ _)⟩)
  dsimp only [Pt.U, Pt.locs, Pt.cells, Pt.slots] at X6 l6 y6 z6 st6 hQ6
  subst l6 y6 z6
  obtain ⟨rfl, N6q, e6⟩ := hQ6
  have N6 := Fr.app N2 N6q
  obtain ⟨c7, c7A, c7q, c7S, c7N, c7H, c7G⟩ := id pV_pf
  have c7in : ¬ ((0 : Int32) < 0 ∨ c7.slots.size ≤ ((0 : Int32)).toNatClampNeg) := inb_of c7S ⟨by decide, by decide⟩
  obtain ⟨T8, h8, X8, e8, W8, st8⟩ := stI X6 hx hZ e6 c7A (j := (0 : Int32)) c7in (g := (mkF m 42 #[rv a, rv y2, .val (.long q0), .second, iv 0, iv 1] [(.int 2), (.int 0), (.ref pf)])) rfl rfl (hb hby own_d5_42)
  have V8 : Arv Z h8 pf k_pf .int (1 : Int32) [(.int 2)] (.int 0) := Arv.set c7A c7q c7S c7N c7H c7G rfl W8 0 rfl (Nat.le_of_ble_eq_true rfl)
  have O9 := O0.wr W8 g_pf
  have kp10 := kp0.wr W8 (Or.inl (own_m 4 rfl))
  have N8 := Fr.snoc X8 N6 g_pf
  have n11 : a ≠ pf := (own_ne hN (i := 0) (j := 8) rfl rfl (by decide))
  have f12 := (pF_a_pageFirstFree.other W8 (Or.inl n11))
  obtain ⟨T13, X13, e13, st13⟩ := getF X8 hx hZ hown (host := "") (Or.inl (hw _ (own_m 30 rfl))) Via.refl e8 f12 (g := (mkF m 44 #[rv a, rv y2, .val (.long q0), .second, iv 0, iv 1] [(.ref a)])) rfl rfl (hb hby own_d5_44)
  obtain ⟨c14, c14A, c14q, c14S, c14N, c14H, c14G⟩ := id V8
  have c14in : ¬ ((0 : Int32) < 0 ∨ c14.slots.size ≤ ((0 : Int32)).toNatClampNeg) := inb_of c14S ⟨by decide, by decide⟩
  have c14at : c14.slots[((0 : Int32)).toNatClampNeg]? = some (.int 2) := Has.at c14H c14in rfl
  have f15 := (pF_a_sparePage.other W8 (Or.inl n11))
  obtain ⟨T16, X16, e16, st16⟩ := getF X13 hx hZ hown (host := "") (Or.inl (hw _ (own_m 47 rfl))) Via.refl e13 f15 (g := (mkF m 66 #[rv a, rv y2, .val (.long q0), .second, iv 0, iv 1] [(.ref a), (.int 0)])) rfl rfl (hb hby own_d5_66)
  have f17 := (pF_a_pageSizes.other W8 (Or.inl n11))
  obtain ⟨T18, X18, e18, st18⟩ := getF X16 hx hZ hown (host := "") (Or.inl (hw _ (own_m 28 rfl))) Via.refl e16 f17 (g := (mkF m 78 #[rv a, rv y2, .val (.long q0), .second, iv 0, iv 1] [(.ref a)])) rfl rfl (hb hby own_d5_78)
  have n19 : ps ≠ pf := (own_ne hN (i := 7) (j := 8) rfl rfl (by decide))
  have f20 := (pV_ps.other W8 n19)
  obtain ⟨c21, c21A, c21q, c21S, c21N, c21H, c21G⟩ := id f20
  have c21in : ¬ ((0 : Int32) < 0 ∨ c21.slots.size ≤ ((0 : Int32)).toNatClampNeg) := inb_of c21S ⟨by decide, by decide⟩
  have c21at : c21.slots[((0 : Int32)).toNatClampNeg]? = some (.int 1) := Has.at c21H c21in rfl
  obtain ⟨c22, c22A, c22q, c22S, c22N, c22H, c22G⟩ := id f20
  have c22in : ¬ ((0 : Int32) < 0 ∨ c22.slots.size ≤ ((0 : Int32)).toNatClampNeg) := inb_of c22S ⟨by decide, by decide⟩
  obtain ⟨T23, h23, X23, e23, W23, st23⟩ := stI X18 hx hZ e18 c22A (j := (0 : Int32)) c22in (g := (mkF m 87 #[rv a, rv y2, .val (.long q0), .second, iv 0, iv 1] [(.int 2), (.int 0), (.ref ps)])) rfl rfl (hb hby own_d5_87)
  have V23 : Arv Z h23 ps k_ps .int (1 : Int32) [(.int 2)] (.int 0) := Arv.set c22A c22q c22S c22N c22H c22G rfl W23 0 rfl (Nat.le_of_ble_eq_true rfl)
  have O24 := O9.wr W23 g_ps
  have kp25 := kp10.wr W23 (Or.inl (own_m 3 rfl))
  have N23 := Fr.snoc X23 N8 g_ps
  have n26 : a ≠ ps := (own_ne hN (i := 0) (j := 7) rfl rfl (by decide))
  have f27 := ((pF_a_itemPages.other W8 (Or.inl n11)).other W23 (Or.inl n26))
  obtain ⟨T28, X28, e28, st28⟩ := getF X23 hx hZ hown (host := "") (Or.inl (hw _ (own_m 14 rfl))) Via.refl e23 f27 (g := (mkF m 89 #[rv a, rv y2, .val (.long q0), .second, iv 0, iv 1] [(.ref a)])) rfl rfl (hb hby own_d5_89)
  have n29 : ip ≠ pf := (own_ne hN (i := 1) (j := 8) rfl rfl (by decide))
  have n30 : ip ≠ ps := (own_ne hN (i := 1) (j := 7) rfl rfl (by decide))
  have f31 := ((pV_ip.other W8 n29).other W23 n30)
  obtain ⟨c32, c32A, c32q, c32S, c32N, c32H, c32G⟩ := id f31
  have c32in : ¬ ((0 : Int32) < 0 ∨ c32.slots.size ≤ ((0 : Int32)).toNatClampNeg) := inb_of c32S ⟨by decide, by decide⟩
  have c32at : c32.slots[((0 : Int32)).toNatClampNeg]? = some (.ref io) := Has.at c32H c32in rfl
  have n33 : io ≠ pf := (own_ne hN (i := 2) (j := 8) rfl rfl (by decide))
  have n34 : io ≠ ps := (own_ne hN (i := 2) (j := 7) rfl rfl (by decide))
  have f35 := ((pV_io.other W8 n33).other W23 n34)
  obtain ⟨c36, c36A, c36q, c36S, c36N, c36H, c36G⟩ := id f35
  have c36in : ¬ ((1 : Int32) < 0 ∨ c36.slots.size ≤ ((1 : Int32)).toNatClampNeg) := inb_of c36S ⟨by decide, by decide⟩
  obtain ⟨T37, h37, X37, e37, W37, st37⟩ := stR X28 hx hZ e28 c36A (j := (1 : Int32)) c36in rfl (Sto.ofV c36A c36q O_io (Ins.of_exa (E_y2.ext O24.2) (hw _ (own_m 120 rfl)))) (g := (mkF m 102 #[rv a, rv y2, .val (.long q0), .second, iv 0, iv 1] [(.ref y2), (.int 1), (.ref io)])) rfl rfl (hb hby own_d5_102)
  have V37 : Arv Z h37 io k_io (.object "java/lang/Object") (16 : Int32) [(.ref y1), (.ref y2), .null, .null, .null, .null, .null, .null, .null, .null, .null, .null, .null, .null, .null, .null] .null := Arv.set c36A c36q c36S c36N c36H c36G rfl W37 1 rfl (Nat.le_of_ble_eq_true rfl)
  have O38 := O24.wr W37 g_io
  have kp39 := kp25.wr W37 (Or.inl (own_m 1 rfl))
  have N37 := Fr.snoc X37 N23 g_io
  have n40 : dp ≠ lo := (own_ne hN (i := 3) (j := 4) rfl rfl (by decide))
  have n41 : a ≠ lo := (own_ne hN (i := 0) (j := 4) rfl rfl (by decide))
  have n42 : a ≠ dp := (own_ne hN (i := 0) (j := 3) rfl rfl (by decide))
  have f43 := (((pE_a.wr W8).wr W23).wr W37)
  have n44 : a ≠ io := (own_ne hN (i := 0) (j := 2) rfl rfl (by decide))
  have f45 := (((pF_a_deadlinePages.other W8 (Or.inl n11)).other W23 (Or.inl n26)).other W37 (Or.inl n44))
  have n46 : dp ≠ pf := (own_ne hN (i := 3) (j := 8) rfl rfl (by decide))
  have n47 : dp ≠ ps := (own_ne hN (i := 3) (j := 7) rfl rfl (by decide))
  have n48 : dp ≠ io := (Ne.symm (own_ne hN (i := 2) (j := 3) rfl rfl (by decide)))
  have f49 := (((pV_dp.other W8 n46).other W23 n47).other W37 n48)
  have n50 : lo ≠ pf := (own_ne hN (i := 4) (j := 8) rfl rfl (by decide))
  have n51 : lo ≠ ps := (own_ne hN (i := 4) (j := 7) rfl rfl (by decide))
  have n52 : lo ≠ io := (Ne.symm (own_ne hN (i := 2) (j := 4) rfl rfl (by decide)))
  have f53 := (((pV_lo.other W8 n50).other W23 n51).other W37 n52)
  obtain ⟨cq54, kq54, q54a, q54b, q54c⟩ := isOf hZ e37 f43
  obtain ⟨_, _, ⟨T54, L54, k54, n54⟩, -, X54, ⟨Lc54, hQ54, l54, y54, z54⟩, st54⟩ := X37.virtualBack hx (y := (⟨"com/example/libspoke/libspoke/wheel/EntryTable", "setDeadline", "(IJ)V"⟩ : MethodName)) (z := (⟨"com/example/libspoke/libspoke/wheel/EntryTable", "setDeadline", "(IJ)V"⟩ : MethodName)) hown (mvT hZ (hw _ (own_m 121 rfl))) (mvT hZ (hw _ (own_m 122 rfl))) (notFace_of_selects (args := #[]) (mvT hZ (hw _ (own_m 124 rfl)))) (mvT hZ (hw _ (own_m 124 rfl))) (mvT hZ (hw _ (own_m 123 rfl))) (by decide) (backOf (W := 0) (own_sd1_1 l Z a0 hw [] w_CA mr y1 y2 y3 a dp lo k_dp k_lo d0 q0 h37 n0 O38 S_HI S_CA M_OA H_y1 H_y2 H_y3 E_y1 E_y2 E_y3 (allS g_a (allS g_dp (allS g_lo all0))) (own_ndc (allS n42 (allS n41 all0)) (own_ndc (allS n40 all0) (own_ndc all0 own_nd0))) f43 f45 f49 f53 O_dp) hZ (hw _ (own_m 125 rfl)) (hw _ (own_m 2 rfl)) (by decide) (by decide)) q54a q54c (g := (mkF m 107 #[rv a, rv y2, .val (.long q0), .second, iv 0, iv 1] [(.long q0), (.int 1), (.ref a)])) rfl (by rw [hml]; rfl) (Steps.refl _) (argsL := [(.int 1), (.long q0)]) (rest := []) (lenOf own_pd11 rfl) rfl (by show 2 * 0 + _ ≤ _; exact Nat.le_of_eq rfl) (hb hby own_d5_107) (fun _ _ => ⟨rfl, e37, (by decide : 0 + 0 ≤ _), (by decide : 0 + 0 ≤ _)⟩)
  dsimp only [Pt.U, Pt.locs, Pt.cells, Pt.slots] at X54 l54 y54 z54 st54 hQ54
  subst l54 y54 z54
  obtain ⟨rfl, N54q, K54, q55⟩ := hQ54
  have N54 := Fr.app N37 N54q
  have O56 := O38.keep K54 (allS g_lo all0)
  have kp57 := kp39.trans K54 ((allS (P := fun x => x ∈ ([a, io, lo, ps, pf] : List Addr) ∨ h0.size ≤ x) (Or.inl (own_m 2 rfl)) all0))
  have f58 := ((((pF_a_size.other W8 (Or.inl n11)).other W23 (Or.inl n26)).other W37 (Or.inl n44)).keep K54 (ninS n41 nin0))
  obtain ⟨T59, X59, e59, st59⟩ := getF X54 hx hZ hown (host := "") (Or.inl (hw _ (own_m 126 rfl))) Via.refl rfl f58 (g := (mkF m 112 #[rv a, rv y2, .val (.long q0), .second, iv 0, iv 1] [(.ref a), (.ref a)])) rfl rfl (hb hby own_d5_112)
  have f60 := (f43.keep K54)
  obtain ⟨T61, h61, X61, e61, W61, st61⟩ := putF X59 hx hZ hown (host := "") (Or.inl (hw _ (own_m 126 rfl))) Via.refl e59 f58 f60 (Or.inl (hw _ (own_m 127 rfl))) (hw _ (own_m 1 rfl)) (ty := .int) (by decide) rfl rfl (g := (mkF m 117 #[rv a, rv y2, .val (.long q0), .second, iv 0, iv 1] [(.int 2), (.ref a)])) rfl rfl (hb hby own_d5_117)
  have Fw61 := f58.same W61
  have O62 := O56.wr W61 g_a
  have kp63 := kp57.wr W61 (Or.inl (own_m 0 rfl))
  have N61 := Fr.snoc X61 N54 g_a
  have f64 := (f60.wr W61)
  have f65 := (((f27.other W37 (Or.inl n44)).keep K54 (ninS n41 nin0)).other W61 (Or.inr (slot_ne (Or.inl (hw _ (own_m 15 rfl))) (Or.inl (hw _ (own_m 127 rfl))) (by decide) (t := (.array (.array (.object "java/lang/Object")))) (t' := .int) (by decide) (by decide))))
  have f66 := ((f45.keep K54 (ninS n41 nin0)).other W61 (Or.inr (slot_ne (Or.inl (hw _ (own_m 21 rfl))) (Or.inl (hw _ (own_m 127 rfl))) (by decide) (t := (.array (.array .long))) (t' := .int) (by decide) (by decide))))
  have f67 := (((((pF_a_linkPages.other W8 (Or.inl n11)).other W23 (Or.inl n26)).other W37 (Or.inl n44)).keep K54 (ninS n41 nin0)).other W61 (Or.inr (slot_ne (Or.inl (hw _ (own_m 27 rfl))) (Or.inl (hw _ (own_m 127 rfl))) (by decide) (t := (.array (.array .int))) (t' := .int) (by decide) (by decide))))
  have f68 := ((((f17.other W23 (Or.inl n26)).other W37 (Or.inl n44)).keep K54 (ninS n41 nin0)).other W61 (Or.inr (slot_ne (Or.inl (hw _ (own_m 29 rfl))) (Or.inl (hw _ (own_m 127 rfl))) (by decide) (t := (.array .int)) (t' := .int) (by decide) (by decide))))
  have f69 := ((((f12.other W23 (Or.inl n26)).other W37 (Or.inl n44)).keep K54 (ninS n41 nin0)).other W61 (Or.inr (slot_ne (Or.inl (hw _ (own_m 31 rfl))) (Or.inl (hw _ (own_m 127 rfl))) (by decide) (t := (.array .int)) (t' := .int) (by decide) (by decide))))
  have f70 := (((((pF_a_pageGenerations.other W8 (Or.inl n11)).other W23 (Or.inl n26)).other W37 (Or.inl n44)).keep K54 (ninS n41 nin0)).other W61 (Or.inr (slot_ne (Or.inl (hw _ (own_m 33 rfl))) (Or.inl (hw _ (own_m 127 rfl))) (by decide) (t := (.array .int)) (t' := .int) (by decide) (by decide))))
  have f71 := (((((pF_a_pagesWithRoom.other W8 (Or.inl n11)).other W23 (Or.inl n26)).other W37 (Or.inl n44)).keep K54 (ninS n41 nin0)).other W61 (Or.inr (slot_ne (Or.inr (hw _ (own_m 46 rfl))) (Or.inl (hw _ (own_m 127 rfl))) (by decide) (t := (.object "com/example/libspoke/libspoke/wheel/EntryTable$PageSet")) (t' := .int) (by decide) (by decide))))
  have f72 := ((((f15.other W23 (Or.inl n26)).other W37 (Or.inl n44)).keep K54 (ninS n41 nin0)).other W61 (Or.inr (slot_ne (Or.inl (hw _ (own_m 48 rfl))) (Or.inl (hw _ (own_m 127 rfl))) (by decide) (t := .int) (t' := .int) (by decide) (by decide))))
  have f73 := (((((pF_a_capacity.other W8 (Or.inl n11)).other W23 (Or.inl n26)).other W37 (Or.inl n44)).keep K54 (ninS n41 nin0)).other W61 (Or.inr (slot_ne (Or.inl (hw _ (own_m 71 rfl))) (Or.inl (hw _ (own_m 127 rfl))) (by decide) (t := .int) (t' := .int) (by decide) (by decide))))
  have n74 : io ≠ lo := (own_ne hN (i := 2) (j := 4) rfl rfl (by decide))
  have f75 := ((V37.keep K54 (ninS n74 nin0)).other W61 (Ne.symm n44))
  have f76 := (q55.other W61 (Ne.symm n41))
  have f77 := (((V23.other W37 (Ne.symm n34)).keep K54 (ninS (Ne.symm n51) nin0)).other W61 (Ne.symm n26))
  have f78 := ((((V8.other W23 (Ne.symm n19)).other W37 (Ne.symm n33)).keep K54 (ninS (Ne.symm n50) nin0)).other W61 (Ne.symm n11))
  obtain ⟨fs, hr, hrun, hended, hW, hsame⟩ := X61.leave (v := some (.int 1)) (fun h => by rw [Bd.returns] at h; cases h)
  refine ⟨_, _, pre0 _ ?_, hrun, hended, _, _, rfl, ?_, ⟨_, rfl⟩, hW, hsame.mono (by decide) (by decide)⟩
  · show Steps p.tables e below (s₁.setTop (mkF m 0 #[rv a, rv y2, .val (.long q0), .second, .unset, .unset] [])) _
    refine XS.aloadN X0.here hx rfl (hb hby own_d5_0) rfl rfl ?_
    show Steps p.tables e below (s₁.setTop (mkF m 1 #[rv a, rv y2, .val (.long q0), .second, .unset, .unset] [(.ref a)])) _
    refine st1 _ ?_
    show Steps p.tables e below (T1.setTop (mkF m 4 #[rv a, rv y2, .val (.long q0), .second, .unset, .unset] [(.ref pt)])) _
    refine st2.trans ?_
    show Steps p.tables e below (T2.setTop (mkF m 7 #[rv a, rv y2, .val (.long q0), .second, .unset, .unset] [(.int 0)])) _
    refine XS.istore X2.here hx rfl (hb hby own_d5_7) rfl (l' := #[rv a, rv y2, .val (.long q0), .second, iv 0, .unset]) rfl ?_
    show Steps p.tables e below (T2.setTop (mkF m 9 #[rv a, rv y2, .val (.long q0), .second, iv 0, .unset] [])) _
    refine XS.iload X2.here hx rfl (hb hby own_d5_9) rfl ?_
    show Steps p.tables e below (T2.setTop (mkF m 11 #[rv a, rv y2, .val (.long q0), .second, iv 0, .unset] [(.int 0)])) _
    refine XS.iconst X2.here hx rfl (hb hby own_d5_11) ?_
    show Steps p.tables e below (T2.setTop (mkF m 12 #[rv a, rv y2, .val (.long q0), .second, iv 0, .unset] [(.int (-1)), (.int 0)])) _
    refine XS.icmpYes X2.here hx rfl (pc0 := 12) (pc' := 21) rfl (hb hby own_d5_12) rfl (feq (by decide)).2 (by decide) (by decide) ?_
    show Steps p.tables e below (T2.setTop (mkF m 21 #[rv a, rv y2, .val (.long q0), .second, iv 0, .unset] [])) _
    refine XS.aloadN X2.here hx rfl (hb hby own_d5_21) rfl rfl ?_
    show Steps p.tables e below (T2.setTop (mkF m 22 #[rv a, rv y2, .val (.long q0), .second, iv 0, .unset] [(.ref a)])) _
    refine st3 _ ?_
    show Steps p.tables e below (T3.setTop (mkF m 25 #[rv a, rv y2, .val (.long q0), .second, iv 0, .unset] [(.ref pf)])) _
    refine XS.iload X3.here hx rfl (hb hby own_d5_25) rfl ?_
    show Steps p.tables e below (T3.setTop (mkF m 27 #[rv a, rv y2, .val (.long q0), .second, iv 0, .unset] [(.int 0), (.ref pf)])) _
    refine X3.iaload hx (j := (0 : Int32)) (v := (.int 1)) (by rw [e3]; exact c4A.1) (State.isArrayOf_alike hZ.alike c4A.2.1) c4A.2.2 c4in c4at (g := (mkF m 27 #[rv a, rv y2, .val (.long q0), .second, iv 0, .unset] [(.int 0), (.ref pf)])) rfl rfl (hb hby own_d5_27) _ ?_
    show Steps p.tables e below (T3.setTop (mkF m 28 #[rv a, rv y2, .val (.long q0), .second, iv 0, .unset] [(.int 1)])) _
    refine XS.istore X3.here hx rfl (hb hby own_d5_28) rfl (l' := #[rv a, rv y2, .val (.long q0), .second, iv 0, iv 1]) rfl ?_
    show Steps p.tables e below (T3.setTop (mkF m 30 #[rv a, rv y2, .val (.long q0), .second, iv 0, iv 1] [])) _
    refine XS.aloadN X3.here hx rfl (hb hby own_d5_30) rfl rfl ?_
    show Steps p.tables e below (T3.setTop (mkF m 31 #[rv a, rv y2, .val (.long q0), .second, iv 0, iv 1] [(.ref a)])) _
    refine st5 _ ?_
    show Steps p.tables e below (T5.setTop (mkF m 34 #[rv a, rv y2, .val (.long q0), .second, iv 0, iv 1] [(.ref pf)])) _
    refine XS.iload X5.here hx rfl (hb hby own_d5_34) rfl ?_
    show Steps p.tables e below (T5.setTop (mkF m 36 #[rv a, rv y2, .val (.long q0), .second, iv 0, iv 1] [(.int 0), (.ref pf)])) _
    refine XS.aloadN X5.here hx rfl (hb hby own_d5_36) rfl rfl ?_
    show Steps p.tables e below (T5.setTop (mkF m 37 #[rv a, rv y2, .val (.long q0), .second, iv 0, iv 1] [(.ref a), (.int 0), (.ref pf)])) _
    refine XS.iload X5.here hx rfl (hb hby own_d5_37) rfl ?_
    show Steps p.tables e below (T5.setTop (mkF m 39 #[rv a, rv y2, .val (.long q0), .second, iv 0, iv 1] [(.int 1), (.ref a), (.int 0), (.ref pf)])) _
    refine st6.trans ?_
    show Steps p.tables e below (T6.setTop (mkF m 42 #[rv a, rv y2, .val (.long q0), .second, iv 0, iv 1] [(.int 2), (.int 0), (.ref pf)])) _
    refine st8 _ ?_
    show Steps p.tables e below (T8.setTop (mkF m 43 #[rv a, rv y2, .val (.long q0), .second, iv 0, iv 1] [])) _
    refine XS.aloadN X8.here hx rfl (hb hby own_d5_43) rfl rfl ?_
    show Steps p.tables e below (T8.setTop (mkF m 44 #[rv a, rv y2, .val (.long q0), .second, iv 0, iv 1] [(.ref a)])) _
    refine st13 _ ?_
    show Steps p.tables e below (T13.setTop (mkF m 47 #[rv a, rv y2, .val (.long q0), .second, iv 0, iv 1] [(.ref pf)])) _
    refine XS.iload X13.here hx rfl (hb hby own_d5_47) rfl ?_
    show Steps p.tables e below (T13.setTop (mkF m 49 #[rv a, rv y2, .val (.long q0), .second, iv 0, iv 1] [(.int 0), (.ref pf)])) _
    refine X13.iaload hx (j := (0 : Int32)) (v := (.int 2)) (by rw [e13]; exact c14A.1) (State.isArrayOf_alike hZ.alike c14A.2.1) c14A.2.2 c14in c14at (g := (mkF m 49 #[rv a, rv y2, .val (.long q0), .second, iv 0, iv 1] [(.int 0), (.ref pf)])) rfl rfl (hb hby own_d5_49) _ ?_
    show Steps p.tables e below (T13.setTop (mkF m 50 #[rv a, rv y2, .val (.long q0), .second, iv 0, iv 1] [(.int 2)])) _
    refine XS.iconst X13.here hx rfl (hb hby own_d5_50) ?_
    show Steps p.tables e below (T13.setTop (mkF m 51 #[rv a, rv y2, .val (.long q0), .second, iv 0, iv 1] [(.int (-1)), (.int 2)])) _
    refine XS.icmpYes X13.here hx rfl (pc0 := 51) (pc' := 63) rfl (hb hby own_d5_51) rfl (feq (by decide)).2 (by decide) (by decide) ?_
    show Steps p.tables e below (T13.setTop (mkF m 63 #[rv a, rv y2, .val (.long q0), .second, iv 0, iv 1] [])) _
    refine XS.iload X13.here hx rfl (hb hby own_d5_63) rfl ?_
    show Steps p.tables e below (T13.setTop (mkF m 65 #[rv a, rv y2, .val (.long q0), .second, iv 0, iv 1] [(.int 0)])) _
    refine XS.aloadN X13.here hx rfl (hb hby own_d5_65) rfl rfl ?_
    show Steps p.tables e below (T13.setTop (mkF m 66 #[rv a, rv y2, .val (.long q0), .second, iv 0, iv 1] [(.ref a), (.int 0)])) _
    refine st16 _ ?_
    show Steps p.tables e below (T16.setTop (mkF m 69 #[rv a, rv y2, .val (.long q0), .second, iv 0, iv 1] [(.int (-1)), (.int 0)])) _
    refine XS.icmpYes X16.here hx rfl (pc0 := 69) (pc' := 77) rfl (hb hby own_d5_69) rfl (feq (by decide)).2 (by decide) (by decide) ?_
    show Steps p.tables e below (T16.setTop (mkF m 77 #[rv a, rv y2, .val (.long q0), .second, iv 0, iv 1] [])) _
    refine XS.aloadN X16.here hx rfl (hb hby own_d5_77) rfl rfl ?_
    show Steps p.tables e below (T16.setTop (mkF m 78 #[rv a, rv y2, .val (.long q0), .second, iv 0, iv 1] [(.ref a)])) _
    refine st18 _ ?_
    show Steps p.tables e below (T18.setTop (mkF m 81 #[rv a, rv y2, .val (.long q0), .second, iv 0, iv 1] [(.ref ps)])) _
    refine XS.iload X18.here hx rfl (hb hby own_d5_81) rfl ?_
    show Steps p.tables e below (T18.setTop (mkF m 83 #[rv a, rv y2, .val (.long q0), .second, iv 0, iv 1] [(.int 0), (.ref ps)])) _
    refine XT.dup2 X18.here hx rfl (hb hby own_d5_83) rfl rfl rfl ?_
    show Steps p.tables e below (T18.setTop (mkF m 84 #[rv a, rv y2, .val (.long q0), .second, iv 0, iv 1] [(.int 0), (.ref ps), (.int 0), (.ref ps)])) _
    refine X18.iaload hx (j := (0 : Int32)) (v := (.int 1)) (by rw [e18]; exact c21A.1) (State.isArrayOf_alike hZ.alike c21A.2.1) c21A.2.2 c21in c21at (g := (mkF m 84 #[rv a, rv y2, .val (.long q0), .second, iv 0, iv 1] [(.int 0), (.ref ps), (.int 0), (.ref ps)])) rfl rfl (hb hby own_d5_84) _ ?_
    show Steps p.tables e below (T18.setTop (mkF m 85 #[rv a, rv y2, .val (.long q0), .second, iv 0, iv 1] [(.int 1), (.int 0), (.ref ps)])) _
    refine XS.iconst X18.here hx rfl (hb hby own_d5_85) ?_
    show Steps p.tables e below (T18.setTop (mkF m 86 #[rv a, rv y2, .val (.long q0), .second, iv 0, iv 1] [(.int 1), (.int 1), (.int 0), (.ref ps)])) _
    refine XS.iadd X18.here hx rfl (hb hby own_d5_86) rfl ?_
    show Steps p.tables e below (T18.setTop (mkF m 87 #[rv a, rv y2, .val (.long q0), .second, iv 0, iv 1] [(.int ((1 : Int32) + (1 : Int32))), (.int 0), (.ref ps)])) _
    refine own_top (v' := (.int 2)) (congrArg Value.int (by decide)) ?_
    show Steps p.tables e below (T18.setTop (mkF m 87 #[rv a, rv y2, .val (.long q0), .second, iv 0, iv 1] [(.int 2), (.int 0), (.ref ps)])) _
    refine st23 _ ?_
    show Steps p.tables e below (T23.setTop (mkF m 88 #[rv a, rv y2, .val (.long q0), .second, iv 0, iv 1] [])) _
    refine XS.aloadN X23.here hx rfl (hb hby own_d5_88) rfl rfl ?_
    show Steps p.tables e below (T23.setTop (mkF m 89 #[rv a, rv y2, .val (.long q0), .second, iv 0, iv 1] [(.ref a)])) _
    refine st28 _ ?_
    show Steps p.tables e below (T28.setTop (mkF m 92 #[rv a, rv y2, .val (.long q0), .second, iv 0, iv 1] [(.ref ip)])) _
    refine XS.iload X28.here hx rfl (hb hby own_d5_92) rfl ?_
    show Steps p.tables e below (T28.setTop (mkF m 94 #[rv a, rv y2, .val (.long q0), .second, iv 0, iv 1] [(.int 0), (.ref ip)])) _
    refine X28.aaload hx (j := (0 : Int32)) (v := (.ref io)) (by rw [e28]; exact c32A.1) (State.isArrayOf_alike hZ.alike c32A.2.1) rfl c32A.2.2 c32in c32at (g := (mkF m 94 #[rv a, rv y2, .val (.long q0), .second, iv 0, iv 1] [(.int 0), (.ref ip)])) rfl rfl (hb hby own_d5_94) _ ?_
    show Steps p.tables e below (T28.setTop (mkF m 95 #[rv a, rv y2, .val (.long q0), .second, iv 0, iv 1] [(.ref io)])) _
    refine XS.iload X28.here hx rfl (hb hby own_d5_95) rfl ?_
    show Steps p.tables e below (T28.setTop (mkF m 97 #[rv a, rv y2, .val (.long q0), .second, iv 0, iv 1] [(.int 1), (.ref io)])) _
    refine XS.sipush X28.here hx rfl (hb hby own_d5_97) ?_
    show Steps p.tables e below (T28.setTop (mkF m 100 #[rv a, rv y2, .val (.long q0), .second, iv 0, iv 1] [(.int 4095), (.int 1), (.ref io)])) _
    refine XS.iand X28.here hx rfl (hb hby own_d5_100) rfl ?_
    show Steps p.tables e below (T28.setTop (mkF m 101 #[rv a, rv y2, .val (.long q0), .second, iv 0, iv 1] [(.int ((1 : Int32) &&& (4095 : Int32))), (.ref io)])) _
    refine own_top (v' := (.int 1)) (congrArg Value.int (by decide)) ?_
    show Steps p.tables e below (T28.setTop (mkF m 101 #[rv a, rv y2, .val (.long q0), .second, iv 0, iv 1] [(.int 1), (.ref io)])) _
    refine XS.aloadN X28.here hx rfl (hb hby own_d5_101) rfl rfl ?_
    show Steps p.tables e below (T28.setTop (mkF m 102 #[rv a, rv y2, .val (.long q0), .second, iv 0, iv 1] [(.ref y2), (.int 1), (.ref io)])) _
    refine st37 _ ?_
    show Steps p.tables e below (T37.setTop (mkF m 103 #[rv a, rv y2, .val (.long q0), .second, iv 0, iv 1] [])) _
    refine XS.aloadN X37.here hx rfl (hb hby own_d5_103) rfl rfl ?_
    show Steps p.tables e below (T37.setTop (mkF m 104 #[rv a, rv y2, .val (.long q0), .second, iv 0, iv 1] [(.ref a)])) _
    refine XS.iload X37.here hx rfl (hb hby own_d5_104) rfl ?_
    show Steps p.tables e below (T37.setTop (mkF m 106 #[rv a, rv y2, .val (.long q0), .second, iv 0, iv 1] [(.int 1), (.ref a)])) _
    refine XS.lloadN X37.here hx rfl (hb hby own_d5_106) rfl ?_
    show Steps p.tables e below (T37.setTop (mkF m 107 #[rv a, rv y2, .val (.long q0), .second, iv 0, iv 1] [(.long q0), (.int 1), (.ref a)])) _
    refine st54.trans ?_
    show Steps p.tables e below (T54.setTop (mkF m 110 #[rv a, rv y2, .val (.long q0), .second, iv 0, iv 1] [])) _
    refine XS.aloadN X54.here hx rfl (hb hby own_d5_110) rfl rfl ?_
    show Steps p.tables e below (T54.setTop (mkF m 111 #[rv a, rv y2, .val (.long q0), .second, iv 0, iv 1] [(.ref a)])) _
    refine XS.dup X54.here hx rfl (hb hby own_d5_111) rfl rfl ?_
    show Steps p.tables e below (T54.setTop (mkF m 112 #[rv a, rv y2, .val (.long q0), .second, iv 0, iv 1] [(.ref a), (.ref a)])) _
    refine st59 _ ?_
    show Steps p.tables e below (T59.setTop (mkF m 115 #[rv a, rv y2, .val (.long q0), .second, iv 0, iv 1] [(.int 1), (.ref a)])) _
    refine XS.iconst X59.here hx rfl (hb hby own_d5_115) ?_
    show Steps p.tables e below (T59.setTop (mkF m 116 #[rv a, rv y2, .val (.long q0), .second, iv 0, iv 1] [(.int 1), (.int 1), (.ref a)])) _
    refine XS.iadd X59.here hx rfl (hb hby own_d5_116) rfl ?_
    show Steps p.tables e below (T59.setTop (mkF m 117 #[rv a, rv y2, .val (.long q0), .second, iv 0, iv 1] [(.int ((1 : Int32) + (1 : Int32))), (.ref a)])) _
    refine own_top (v' := (.int 2)) (congrArg Value.int (by decide)) ?_
    show Steps p.tables e below (T59.setTop (mkF m 117 #[rv a, rv y2, .val (.long q0), .second, iv 0, iv 1] [(.int 2), (.ref a)])) _
    refine st61 _ ?_
    show Steps p.tables e below (T61.setTop (mkF m 120 #[rv a, rv y2, .val (.long q0), .second, iv 0, iv 1] [])) _
    refine XS.iload X61.here hx rfl (hb hby own_d5_120) rfl ?_
    show Steps p.tables e below (T61.setTop (mkF m 122 #[rv a, rv y2, .val (.long q0), .second, iv 0, iv 1] [(.int 1)])) _
    exact retI X61 hx Bd.returns (hb hby own_d5_122) hr
  · show own_add2_Q Z w_CA mr y1 y2 y3 a ip dp lp ps pf pg pt io lo li pb wb k_ip k_io k_dp k_lo k_lp k_li k_ps k_pf k_pb k_wb d0 q0 h0 n0 _ T61.heap _
    rw [e61]
    exact ⟨rfl, N61, kp63, f64, f65, f66, f67, f68, f69, f70, f71, f72, Fw61, f73, f75, f76, f77, f78⟩
theorem own_dl2_0_ef (m : MethodId) (a : Addr) : entryFrame m #[(.ref a), (.int 0)] 2 = mkF m 0 #[rv a, iv 0] [] := by first | (simp [entryFrame, mkF, argsToLocals, Value.category]; done) | rfl
def own_dl2_0_Q (Z : State) (w_CA : Addr) (mr : Addr) (y1 : Addr) (y2 : Addr) (y3 : Addr) (a : Addr) (dp : Addr) (lo : Addr) (k_dp : ClassId) (k_lo : ClassId) (d0 : Int64) (d1 : Int64) (h0 : Heap) (n0 : Nat) (v : Option Value) (h : Heap) (L : List Loc) : Prop := v = some (.long d0) ∧ Fr n0 L ∧ h = h0
set_option maxRecDepth 65536 in
set_option maxHeartbeats 40000000 in
theorem own_dl2_0 (l : Launch) (Z : State) (a0 : Array Value) (hw : ∀ d ∈ tables_1, d.before a0 Z = true) (ws : List Jvm.Cond) (w_CA : Addr) (mr : Addr) (y1 : Addr) (y2 : Addr) (y3 : Addr) (a : Addr) (dp : Addr) (lo : Addr) (k_dp : ClassId) (k_lo : ClassId) (d0 : Int64) (d1 : Int64) (h0 : Heap) (n0 : Nat) (O0 : Old Z n0 h0) (S_HI : Sta Z Z.heap "java/lang/Integer$IntegerCache" "high" "I" (.int 127)) (S_CA : Sta Z Z.heap "java/lang/Integer$IntegerCache" "cache" "[Ljava/lang/Integer;" (.ref w_CA)) (M_OA : own_Mir Z "[Ljava/lang/Object;" mr) (H_y1 : own_At Z w_CA (129 : Int32) y1) (H_y2 : own_At Z w_CA (130 : Int32) y2) (H_y3 : own_At Z w_CA (131 : Int32) y3) (E_y1 : Exa Z Z.heap y1 "java/lang/Integer") (E_y2 : Exa Z Z.heap y2 "java/lang/Integer") (E_y3 : Exa Z Z.heap y3 "java/lang/Integer") (pE_a : Exa Z h0 a "com/example/libspoke/libspoke/wheel/EntryTable") (pF_a_deadlinePages : Fld Z h0 a "com/example/libspoke/libspoke/wheel/EntryTable" "deadlinePages" "[[J" (.ref dp)) (pV_dp : Arv Z h0 dp k_dp (.array .long) (1 : Int32) [(.ref lo)] .null) (pV_lo : Arv Z h0 lo k_lo .long (16 : Int32) [(.long d0), (.long d1), (.long 0), (.long 0), (.long 0), (.long 0), (.long 0), (.long 0), (.long 0), (.long 0), (.long 0), (.long 0), (.long 0), (.long 0), (.long 0), (.long 0)] (.long 0)) (O_dp : OvrA Z k_dp .long "[J") :
    MetFree l (⟨"com/example/libspoke/libspoke/wheel/EntryTable", "deadline", "(I)J"⟩ : MethodName) (head1 (Jvm.Cond.code (⟨"com/example/libspoke/libspoke/wheel/EntryTable", "deadline", "(I)J"⟩ : MethodName) prog_18_method_9_code 2 (some .long) :: ws) ({ frames := 0, cells := 0, slots := 0, locals := 0 } : Room)) (fun ar U => ar = #[(.ref a), (.int 0)] ∧ Z.Warmed39 U.vm ∧ U.heap = h0) (fun _ _ _ _ _ => True) (fun _ U oc U' => ∃ v L, oc = .returned v ∧ own_dl2_0_Q Z w_CA mr y1 y2 y3 a dp lo k_dp k_lo d0 d1 h0 n0 v U'.heap L ∧ FrameEnd U oc U' L ({ frames := 0, cells := 0, slots := 0, locals := 0 } : Room).cells ({ frames := 0, cells := 0, slots := 0, locals := 0 } : Room).slots) := by
  refine MetFree.of_bodySF (plainFor_of_name own_pn0) hisR ?_
  intro p e s m args below meth c s₁ Bd hml0 hP hK
  obtain ⟨rfl, hZ, hh⟩ := hP
  have hx := Bd.exec
  have hby := Bd.bytes
  have hml : c.maxLocals = 2 := hml0
  have hown : s.vm.findClass "com/example/libspoke/libspoke/wheel/EntryTable" = some m.cls := findClass_of_methodNamed Bd.named
  have hnm := (name_of_methodNamed Bd.named Bd.method).1
  have X0 : Stand p l e ({ frames := 0, cells := 0, slots := 0, locals := 0 } : Room) s m #[(.ref a), (.int 0)] below meth c s₁ [] 0 0 := Stand.of_body Bd
  have e0 : s₁.heap = h0 := by rw [← hh, Bd.state]; rfl
  have N0 := Fr.nil n0
  have pre0 : ∀ t, Steps p.tables e below (s₁.setTop (mkF m 0 #[rv a, iv 0] [])) t → Steps p.tables e below (s₁.setTop (entryFrame m #[(.ref a), (.int 0)] 2)) t := fun t k => castTop (own_dl2_0_ef m a) k
  obtain ⟨T1, X1, e1, st1⟩ := getF X0 hx hZ hown (host := "") (Or.inl (hw _ (own_m 20 rfl))) Via.refl e0 pF_a_deadlinePages (g := (mkF m 1 #[rv a, iv 0] [(.ref a)])) rfl rfl (hb hby own_d21_1)
  obtain ⟨c2, c2A, c2q, c2S, c2N, c2H, c2G⟩ := id pV_dp
  have c2in : ¬ ((0 : Int32) < 0 ∨ c2.slots.size ≤ ((0 : Int32)).toNatClampNeg) := inb_of c2S ⟨by decide, by decide⟩
  have c2at : c2.slots[((0 : Int32)).toNatClampNeg]? = some (.ref lo) := Has.at c2H c2in rfl
  obtain ⟨c3, c3A, c3q, c3S, c3N, c3H, c3G⟩ := id pV_lo
  have c3in : ¬ ((0 : Int32) < 0 ∨ c3.slots.size ≤ ((0 : Int32)).toNatClampNeg) := inb_of c3S ⟨by decide, by decide⟩
  have c3at : c3.slots[((0 : Int32)).toNatClampNeg]? = some (.long d0) := Has.at c3H c3in rfl
  obtain ⟨fs, hr, hrun, hended, hW, hsame⟩ := X1.leave (v := some (.long d0)) (fun h => by rw [Bd.returns] at h; cases h)
  refine ⟨_, _, pre0 _ ?_, hrun, hended, _, _, rfl, ?_, ⟨_, rfl⟩, hW, hsame.mono (by decide) (by decide)⟩
  · show Steps p.tables e below (s₁.setTop (mkF m 0 #[rv a, iv 0] [])) _
    refine XS.aloadN X0.here hx rfl (hb hby own_d21_0) rfl rfl ?_
    show Steps p.tables e below (s₁.setTop (mkF m 1 #[rv a, iv 0] [(.ref a)])) _
    refine st1 _ ?_
    show Steps p.tables e below (T1.setTop (mkF m 4 #[rv a, iv 0] [(.ref dp)])) _
    refine XS.iloadN X1.here hx rfl (hb hby own_d21_4) rfl ?_
    show Steps p.tables e below (T1.setTop (mkF m 5 #[rv a, iv 0] [(.int 0), (.ref dp)])) _
    refine XS.bipush X1.here hx rfl (hb hby own_d21_5) ?_
    show Steps p.tables e below (T1.setTop (mkF m 7 #[rv a, iv 0] [(.int 12), (.int 0), (.ref dp)])) _
    refine XS.iushr X1.here hx rfl (hb hby own_d21_7) rfl ?_
    show Steps p.tables e below (T1.setTop (mkF m 8 #[rv a, iv 0] [(.int (((0 : Int32).toUInt32 >>> ((12 : Int32) &&& 31).toUInt32).toInt32)), (.ref dp)])) _
    refine own_top (v' := (.int 0)) (congrArg Value.int (by decide)) ?_
    show Steps p.tables e below (T1.setTop (mkF m 8 #[rv a, iv 0] [(.int 0), (.ref dp)])) _
    refine X1.aaload hx (j := (0 : Int32)) (v := (.ref lo)) (by rw [e1]; exact c2A.1) (State.isArrayOf_alike hZ.alike c2A.2.1) rfl c2A.2.2 c2in c2at (g := (mkF m 8 #[rv a, iv 0] [(.int 0), (.ref dp)])) rfl rfl (hb hby own_d21_8) _ ?_
    show Steps p.tables e below (T1.setTop (mkF m 9 #[rv a, iv 0] [(.ref lo)])) _
    refine XS.iloadN X1.here hx rfl (hb hby own_d21_9) rfl ?_
    show Steps p.tables e below (T1.setTop (mkF m 10 #[rv a, iv 0] [(.int 0), (.ref lo)])) _
    refine XS.sipush X1.here hx rfl (hb hby own_d21_10) ?_
    show Steps p.tables e below (T1.setTop (mkF m 13 #[rv a, iv 0] [(.int 4095), (.int 0), (.ref lo)])) _
    refine XS.iand X1.here hx rfl (hb hby own_d21_13) rfl ?_
    show Steps p.tables e below (T1.setTop (mkF m 14 #[rv a, iv 0] [(.int ((0 : Int32) &&& (4095 : Int32))), (.ref lo)])) _
    refine own_top (v' := (.int 0)) (congrArg Value.int (by decide)) ?_
    show Steps p.tables e below (T1.setTop (mkF m 14 #[rv a, iv 0] [(.int 0), (.ref lo)])) _
    refine X1.laload hx (j := (0 : Int32)) (v := (.long d0)) (by rw [e1]; exact c3A.1) (State.isArrayOf_alike hZ.alike c3A.2.1) c3A.2.2 c3in c3at (g := (mkF m 14 #[rv a, iv 0] [(.int 0), (.ref lo)])) rfl rfl (hb hby own_d21_14) _ ?_
    show Steps p.tables e below (T1.setTop (mkF m 15 #[rv a, iv 0] [(.long d0)])) _
    jvm_step X1.here [X1.here.top, hx, (hb hby own_d21_15), X1.method', Bd.returns, narrow]
    first | (intro acts; rw [hr _ acts rfl rfl rfl]) | rw [hr _ _ rfl rfl rfl]
    exact Steps.refl _
  · show own_dl2_0_Q Z w_CA mr y1 y2 y3 a dp lo k_dp k_lo d0 d1 h0 n0 _ T1.heap _
    rw [e1]
    exact ⟨rfl, N0, rfl⟩
theorem own_dl2_1_ef (m : MethodId) (a : Addr) : entryFrame m #[(.ref a), (.int 1)] 2 = mkF m 0 #[rv a, iv 1] [] := by first | (simp [entryFrame, mkF, argsToLocals, Value.category]; done) | rfl
def own_dl2_1_Q (Z : State) (w_CA : Addr) (mr : Addr) (y1 : Addr) (y2 : Addr) (y3 : Addr) (a : Addr) (dp : Addr) (lo : Addr) (k_dp : ClassId) (k_lo : ClassId) (d0 : Int64) (d1 : Int64) (h0 : Heap) (n0 : Nat) (v : Option Value) (h : Heap) (L : List Loc) : Prop := v = some (.long d1) ∧ Fr n0 L ∧ h = h0
set_option maxRecDepth 65536 in
set_option maxHeartbeats 40000000 in
theorem own_dl2_1 (l : Launch) (Z : State) (a0 : Array Value) (hw : ∀ d ∈ tables_1, d.before a0 Z = true) (ws : List Jvm.Cond) (w_CA : Addr) (mr : Addr) (y1 : Addr) (y2 : Addr) (y3 : Addr) (a : Addr) (dp : Addr) (lo : Addr) (k_dp : ClassId) (k_lo : ClassId) (d0 : Int64) (d1 : Int64) (h0 : Heap) (n0 : Nat) (O0 : Old Z n0 h0) (S_HI : Sta Z Z.heap "java/lang/Integer$IntegerCache" "high" "I" (.int 127)) (S_CA : Sta Z Z.heap "java/lang/Integer$IntegerCache" "cache" "[Ljava/lang/Integer;" (.ref w_CA)) (M_OA : own_Mir Z "[Ljava/lang/Object;" mr) (H_y1 : own_At Z w_CA (129 : Int32) y1) (H_y2 : own_At Z w_CA (130 : Int32) y2) (H_y3 : own_At Z w_CA (131 : Int32) y3) (E_y1 : Exa Z Z.heap y1 "java/lang/Integer") (E_y2 : Exa Z Z.heap y2 "java/lang/Integer") (E_y3 : Exa Z Z.heap y3 "java/lang/Integer") (pE_a : Exa Z h0 a "com/example/libspoke/libspoke/wheel/EntryTable") (pF_a_deadlinePages : Fld Z h0 a "com/example/libspoke/libspoke/wheel/EntryTable" "deadlinePages" "[[J" (.ref dp)) (pV_dp : Arv Z h0 dp k_dp (.array .long) (1 : Int32) [(.ref lo)] .null) (pV_lo : Arv Z h0 lo k_lo .long (16 : Int32) [(.long d0), (.long d1), (.long 0), (.long 0), (.long 0), (.long 0), (.long 0), (.long 0), (.long 0), (.long 0), (.long 0), (.long 0), (.long 0), (.long 0), (.long 0), (.long 0)] (.long 0)) (O_dp : OvrA Z k_dp .long "[J") :
    MetFree l (⟨"com/example/libspoke/libspoke/wheel/EntryTable", "deadline", "(I)J"⟩ : MethodName) (head1 (Jvm.Cond.code (⟨"com/example/libspoke/libspoke/wheel/EntryTable", "deadline", "(I)J"⟩ : MethodName) prog_18_method_9_code 2 (some .long) :: ws) ({ frames := 0, cells := 0, slots := 0, locals := 0 } : Room)) (fun ar U => ar = #[(.ref a), (.int 1)] ∧ Z.Warmed39 U.vm ∧ U.heap = h0) (fun _ _ _ _ _ => True) (fun _ U oc U' => ∃ v L, oc = .returned v ∧ own_dl2_1_Q Z w_CA mr y1 y2 y3 a dp lo k_dp k_lo d0 d1 h0 n0 v U'.heap L ∧ FrameEnd U oc U' L ({ frames := 0, cells := 0, slots := 0, locals := 0 } : Room).cells ({ frames := 0, cells := 0, slots := 0, locals := 0 } : Room).slots) := by
  refine MetFree.of_bodySF (plainFor_of_name own_pn0) hisR ?_
  intro p e s m args below meth c s₁ Bd hml0 hP hK
  obtain ⟨rfl, hZ, hh⟩ := hP
  have hx := Bd.exec
  have hby := Bd.bytes
  have hml : c.maxLocals = 2 := hml0
  have hown : s.vm.findClass "com/example/libspoke/libspoke/wheel/EntryTable" = some m.cls := findClass_of_methodNamed Bd.named
  have hnm := (name_of_methodNamed Bd.named Bd.method).1
  have X0 : Stand p l e ({ frames := 0, cells := 0, slots := 0, locals := 0 } : Room) s m #[(.ref a), (.int 1)] below meth c s₁ [] 0 0 := Stand.of_body Bd
  have e0 : s₁.heap = h0 := by rw [← hh, Bd.state]; rfl
  have N0 := Fr.nil n0
  have pre0 : ∀ t, Steps p.tables e below (s₁.setTop (mkF m 0 #[rv a, iv 1] [])) t → Steps p.tables e below (s₁.setTop (entryFrame m #[(.ref a), (.int 1)] 2)) t := fun t k => castTop (own_dl2_1_ef m a) k
  obtain ⟨T1, X1, e1, st1⟩ := getF X0 hx hZ hown (host := "") (Or.inl (hw _ (own_m 20 rfl))) Via.refl e0 pF_a_deadlinePages (g := (mkF m 1 #[rv a, iv 1] [(.ref a)])) rfl rfl (hb hby own_d21_1)
  obtain ⟨c2, c2A, c2q, c2S, c2N, c2H, c2G⟩ := id pV_dp
  have c2in : ¬ ((0 : Int32) < 0 ∨ c2.slots.size ≤ ((0 : Int32)).toNatClampNeg) := inb_of c2S ⟨by decide, by decide⟩
  have c2at : c2.slots[((0 : Int32)).toNatClampNeg]? = some (.ref lo) := Has.at c2H c2in rfl
  obtain ⟨c3, c3A, c3q, c3S, c3N, c3H, c3G⟩ := id pV_lo
  have c3in : ¬ ((1 : Int32) < 0 ∨ c3.slots.size ≤ ((1 : Int32)).toNatClampNeg) := inb_of c3S ⟨by decide, by decide⟩
  have c3at : c3.slots[((1 : Int32)).toNatClampNeg]? = some (.long d1) := Has.at c3H c3in rfl
  obtain ⟨fs, hr, hrun, hended, hW, hsame⟩ := X1.leave (v := some (.long d1)) (fun h => by rw [Bd.returns] at h; cases h)
  refine ⟨_, _, pre0 _ ?_, hrun, hended, _, _, rfl, ?_, ⟨_, rfl⟩, hW, hsame.mono (by decide) (by decide)⟩
  · show Steps p.tables e below (s₁.setTop (mkF m 0 #[rv a, iv 1] [])) _
    refine XS.aloadN X0.here hx rfl (hb hby own_d21_0) rfl rfl ?_
    show Steps p.tables e below (s₁.setTop (mkF m 1 #[rv a, iv 1] [(.ref a)])) _
    refine st1 _ ?_
    show Steps p.tables e below (T1.setTop (mkF m 4 #[rv a, iv 1] [(.ref dp)])) _
    refine XS.iloadN X1.here hx rfl (hb hby own_d21_4) rfl ?_
    show Steps p.tables e below (T1.setTop (mkF m 5 #[rv a, iv 1] [(.int 1), (.ref dp)])) _
    refine XS.bipush X1.here hx rfl (hb hby own_d21_5) ?_
    show Steps p.tables e below (T1.setTop (mkF m 7 #[rv a, iv 1] [(.int 12), (.int 1), (.ref dp)])) _
    refine XS.iushr X1.here hx rfl (hb hby own_d21_7) rfl ?_
    show Steps p.tables e below (T1.setTop (mkF m 8 #[rv a, iv 1] [(.int (((1 : Int32).toUInt32 >>> ((12 : Int32) &&& 31).toUInt32).toInt32)), (.ref dp)])) _
    refine own_top (v' := (.int 0)) (congrArg Value.int (by decide)) ?_
    show Steps p.tables e below (T1.setTop (mkF m 8 #[rv a, iv 1] [(.int 0), (.ref dp)])) _
    refine X1.aaload hx (j := (0 : Int32)) (v := (.ref lo)) (by rw [e1]; exact c2A.1) (State.isArrayOf_alike hZ.alike c2A.2.1) rfl c2A.2.2 c2in c2at (g := (mkF m 8 #[rv a, iv 1] [(.int 0), (.ref dp)])) rfl rfl (hb hby own_d21_8) _ ?_
    show Steps p.tables e below (T1.setTop (mkF m 9 #[rv a, iv 1] [(.ref lo)])) _
    refine XS.iloadN X1.here hx rfl (hb hby own_d21_9) rfl ?_
    show Steps p.tables e below (T1.setTop (mkF m 10 #[rv a, iv 1] [(.int 1), (.ref lo)])) _
    refine XS.sipush X1.here hx rfl (hb hby own_d21_10) ?_
    show Steps p.tables e below (T1.setTop (mkF m 13 #[rv a, iv 1] [(.int 4095), (.int 1), (.ref lo)])) _
    refine XS.iand X1.here hx rfl (hb hby own_d21_13) rfl ?_
    show Steps p.tables e below (T1.setTop (mkF m 14 #[rv a, iv 1] [(.int ((1 : Int32) &&& (4095 : Int32))), (.ref lo)])) _
    refine own_top (v' := (.int 1)) (congrArg Value.int (by decide)) ?_
    show Steps p.tables e below (T1.setTop (mkF m 14 #[rv a, iv 1] [(.int 1), (.ref lo)])) _
    refine X1.laload hx (j := (1 : Int32)) (v := (.long d1)) (by rw [e1]; exact c3A.1) (State.isArrayOf_alike hZ.alike c3A.2.1) c3A.2.2 c3in c3at (g := (mkF m 14 #[rv a, iv 1] [(.int 1), (.ref lo)])) rfl rfl (hb hby own_d21_14) _ ?_
    show Steps p.tables e below (T1.setTop (mkF m 15 #[rv a, iv 1] [(.long d1)])) _
    jvm_step X1.here [X1.here.top, hx, (hb hby own_d21_15), X1.method', Bd.returns, narrow]
    first | (intro acts; rw [hr _ acts rfl rfl rfl]) | rw [hr _ _ rfl rfl rfl]
    exact Steps.refl _
  · show own_dl2_1_Q Z w_CA mr y1 y2 y3 a dp lo k_dp k_lo d0 d1 h0 n0 _ T1.heap _
    rw [e1]
    exact ⟨rfl, N0, rfl⟩
theorem own_sn_ef (m : MethodId) (a : Addr) : entryFrame m #[(.ref a), (.int 1), (.int 2)] 3 = mkF m 0 #[rv a, iv 1, iv 2] [] := by first | (simp [entryFrame, mkF, argsToLocals, Value.category]; done) | rfl
def own_sn_Q (Z : State) (w_CA : Addr) (mr : Addr) (y1 : Addr) (y2 : Addr) (y3 : Addr) (a : Addr) (lp : Addr) (li : Addr) (k_lp : ClassId) (k_li : ClassId) (h0 : Heap) (n0 : Nat) (v : Option Value) (h : Heap) (L : List Loc) : Prop := v = none ∧ Fr n0 L ∧ Keep h0 h [li] ∧ Arv Z h li k_li .int (64 : Int32) [(.int 1), (.int 0), (.int 0), (.int 0), (.int 2), (.int 0), (.int 0), (.int 1), (.int 3), (.int 0), (.int 0), (.int 0), (.int 4), (.int 0), (.int 0), (.int 0), (.int 5), (.int 0), (.int 0), (.int 0), (.int 6), (.int 0), (.int 0), (.int 0), (.int 7), (.int 0), (.int 0), (.int 0), (.int 8), (.int 0), (.int 0), (.int 0), (.int 9), (.int 0), (.int 0), (.int 0), (.int 10), (.int 0), (.int 0), (.int 0), (.int 11), (.int 0), (.int 0), (.int 0), (.int 12), (.int 0), (.int 0), (.int 0), (.int 13), (.int 0), (.int 0), (.int 0), (.int 14), (.int 0), (.int 0), (.int 0), (.int 15), (.int 0), (.int 0), (.int 0), (.int (-1)), (.int 0), (.int 0), (.int 0)] (.int 0)
set_option maxRecDepth 65536 in
set_option maxHeartbeats 40000000 in
theorem own_sn (l : Launch) (Z : State) (a0 : Array Value) (hw : ∀ d ∈ tables_1, d.before a0 Z = true) (ws : List Jvm.Cond) (w_CA : Addr) (mr : Addr) (y1 : Addr) (y2 : Addr) (y3 : Addr) (a : Addr) (lp : Addr) (li : Addr) (k_lp : ClassId) (k_li : ClassId) (h0 : Heap) (n0 : Nat) (O0 : Old Z n0 h0) (S_HI : Sta Z Z.heap "java/lang/Integer$IntegerCache" "high" "I" (.int 127)) (S_CA : Sta Z Z.heap "java/lang/Integer$IntegerCache" "cache" "[Ljava/lang/Integer;" (.ref w_CA)) (M_OA : own_Mir Z "[Ljava/lang/Object;" mr) (H_y1 : own_At Z w_CA (129 : Int32) y1) (H_y2 : own_At Z w_CA (130 : Int32) y2) (H_y3 : own_At Z w_CA (131 : Int32) y3) (E_y1 : Exa Z Z.heap y1 "java/lang/Integer") (E_y2 : Exa Z Z.heap y2 "java/lang/Integer") (E_y3 : Exa Z Z.heap y3 "java/lang/Integer") (hG : ∀ x ∈ ([a, lp, li] : List Addr), n0 ≤ x) (hN : own_Nd [a, lp, li]) (pE_a : Exa Z h0 a "com/example/libspoke/libspoke/wheel/EntryTable") (pF_a_linkPages : Fld Z h0 a "com/example/libspoke/libspoke/wheel/EntryTable" "linkPages" "[[I" (.ref lp)) (pV_lp : Arv Z h0 lp k_lp (.array .int) (1 : Int32) [(.ref li)] .null) (pV_li : Arv Z h0 li k_li .int (64 : Int32) [(.int 1), (.int 0), (.int 0), (.int 0), (.int 2), (.int 0), (.int 0), (.int 1), (.int 3), (.int 0), (.int 0), (.int 0), (.int 4), (.int 0), (.int 0), (.int 0), (.int 5), (.int 0), (.int 0), (.int 0), (.int 6), (.int 0), (.int 0), (.int 0), (.int 7), (.int 0), (.int 0), (.int 0), (.int 8), (.int 0), (.int 0), (.int 0), (.int 9), (.int 0), (.int 0), (.int 0), (.int 10), (.int 0), (.int 0), (.int 0), (.int 11), (.int 0), (.int 0), (.int 0), (.int 12), (.int 0), (.int 0), (.int 0), (.int 13), (.int 0), (.int 0), (.int 0), (.int 14), (.int 0), (.int 0), (.int 0), (.int 15), (.int 0), (.int 0), (.int 0), (.int (-1)), (.int 0), (.int 0), (.int 0)] (.int 0)) (O_lp : OvrA Z k_lp .int "[I") :
    MetFree l (⟨"com/example/libspoke/libspoke/wheel/EntryTable", "setNext", "(II)V"⟩ : MethodName) (head1 (Jvm.Cond.code (⟨"com/example/libspoke/libspoke/wheel/EntryTable", "setNext", "(II)V"⟩ : MethodName) prog_18_method_12_code 3 none :: ws) ({ frames := 1, cells := 0, slots := 0, locals := 14 } : Room)) (fun ar U => ar = #[(.ref a), (.int 1), (.int 2)] ∧ Z.Warmed39 U.vm ∧ U.heap = h0) (fun _ _ _ _ _ => True) (fun _ U oc U' => ∃ v L, oc = .returned v ∧ own_sn_Q Z w_CA mr y1 y2 y3 a lp li k_lp k_li h0 n0 v U'.heap L ∧ FrameEnd U oc U' L ({ frames := 1, cells := 0, slots := 0, locals := 14 } : Room).cells ({ frames := 1, cells := 0, slots := 0, locals := 14 } : Room).slots) := by
  refine MetFree.of_bodySF (plainFor_of_name own_pn0) hisR ?_
  intro p e s m args below meth c s₁ Bd hml0 hP hK
  obtain ⟨rfl, hZ, hh⟩ := hP
  have hx := Bd.exec
  have hby := Bd.bytes
  have hml : c.maxLocals = 3 := hml0
  have hown : s.vm.findClass "com/example/libspoke/libspoke/wheel/EntryTable" = some m.cls := findClass_of_methodNamed Bd.named
  have hnm := (name_of_methodNamed Bd.named Bd.method).1
  have X0 : Stand p l e ({ frames := 1, cells := 0, slots := 0, locals := 14 } : Room) s m #[(.ref a), (.int 1), (.int 2)] below meth c s₁ [] 0 0 := Stand.of_body Bd
  have e0 : s₁.heap = h0 := by rw [← hh, Bd.state]; rfl
  have N0 := Fr.nil n0
  have pre0 : ∀ t, Steps p.tables e below (s₁.setTop (mkF m 0 #[rv a, iv 1, iv 2] [])) t → Steps p.tables e below (s₁.setTop (entryFrame m #[(.ref a), (.int 1), (.int 2)] 3)) t := fun t k => castTop (own_sn_ef m a) k
  have kp0 := Keep.refl h0 ([li] : List Addr)
  have g_a : n0 ≤ a := hG _ (own_m 0 rfl)
  have g_lp : n0 ≤ lp := hG _ (own_m 1 rfl)
  have g_li : n0 ≤ li := hG _ (own_m 2 rfl)
  obtain ⟨T1, X1, e1, st1⟩ := getF X0 hx hZ hown (host := "") (Or.inl (hw _ (own_m 26 rfl))) Via.refl e0 pF_a_linkPages (g := (mkF m 1 #[rv a, iv 1, iv 2] [(.ref a)])) rfl rfl (hb hby own_d23_1)
  obtain ⟨c2, c2A, c2q, c2S, c2N, c2H, c2G⟩ := id pV_lp
  have c2in : ¬ ((0 : Int32) < 0 ∨ c2.slots.size ≤ ((0 : Int32)).toNatClampNeg) := inb_of c2S ⟨by decide, by decide⟩
  have c2at : c2.slots[((0 : Int32)).toNatClampNeg]? = some (.ref li) := Has.at c2H c2in rfl
  obtain ⟨_, _, ⟨T3, L3, k3, n3⟩, -, X3, ⟨Lc3, hQ3, l3, y3, z3⟩, st3⟩ := Jvm.LawKit.callS X1 hx (y := (⟨"com/example/libspoke/libspoke/wheel/EntryTable", "link", "(II)I"⟩ : MethodName)) hown (mvT hZ (hw _ (own_m 107 rfl))) (mvT hZ (hw _ (own_m 108 rfl))) (mvT hZ (hw _ (own_m 2 rfl))) (mvT hZ (hw _ (own_m 109 rfl))) (by decide) (backOf (W := 1) (own_lk l Z a0 hw [] w_CA mr y1 y2 y3 (1 : Int32) (0 : Int32) h0 n0 O0 S_HI S_CA M_OA H_y1 H_y2 H_y3 E_y1 E_y2 E_y3 ) hZ (hw _ (own_m 109 rfl)) (hw _ (own_m 2 rfl)) (by decide) (by decide)) (g := (mkF m 11 #[rv a, iv 1, iv 2] [(.int 0), (.int 1), (.ref li)])) rfl (by rw [hml]; rfl) (argsL := [(.int 1), (.int 0)]) (rest := [(.ref li)]) (lenOf own_pd3 rfl) rfl (by show 2 * 0 + _ ≤ _; exact Nat.le_of_eq rfl) (hb hby own_d23_11) (fun _ _ => ⟨rfl, e1, (by decide : 0 + 0 ≤ _), (by decide : 0 + 0 ≤ _)⟩)
  dsimp only [Pt.U, Pt.locs, Pt.cells, Pt.slots] at X3 l3 y3 z3 st3 hQ3
  subst l3 y3 z3
  obtain ⟨rfl, N3q, e3⟩ := hQ3
  have N3 := Fr.app N0 N3q
  obtain ⟨c4, c4A, c4q, c4S, c4N, c4H, c4G⟩ := id pV_li
  have c4in : ¬ ((4 : Int32) < 0 ∨ c4.slots.size ≤ ((4 : Int32)).toNatClampNeg) := inb_of c4S ⟨by decide, by decide⟩
  obtain ⟨T5, h5, X5, e5, W5, st5⟩ := stI X3 hx hZ e3 c4A (j := (4 : Int32)) c4in (g := (mkF m 15 #[rv a, iv 1, iv 2] [(.int 2), (.int 4), (.ref li)])) rfl rfl (hb hby own_d23_15)
  have V5 : Arv Z h5 li k_li .int (64 : Int32) [(.int 1), (.int 0), (.int 0), (.int 0), (.int 2), (.int 0), (.int 0), (.int 1), (.int 3), (.int 0), (.int 0), (.int 0), (.int 4), (.int 0), (.int 0), (.int 0), (.int 5), (.int 0), (.int 0), (.int 0), (.int 6), (.int 0), (.int 0), (.int 0), (.int 7), (.int 0), (.int 0), (.int 0), (.int 8), (.int 0), (.int 0), (.int 0), (.int 9), (.int 0), (.int 0), (.int 0), (.int 10), (.int 0), (.int 0), (.int 0), (.int 11), (.int 0), (.int 0), (.int 0), (.int 12), (.int 0), (.int 0), (.int 0), (.int 13), (.int 0), (.int 0), (.int 0), (.int 14), (.int 0), (.int 0), (.int 0), (.int 15), (.int 0), (.int 0), (.int 0), (.int (-1)), (.int 0), (.int 0), (.int 0)] (.int 0) := Arv.set c4A c4q c4S c4N c4H c4G rfl W5 4 rfl (Nat.le_of_ble_eq_true rfl)
  have O6 := O0.wr W5 g_li
  have kp7 := kp0.wr W5 (Or.inl (own_m 0 rfl))
  have N5 := Fr.snoc X5 N3 g_li
  obtain ⟨fs, hr, hrun, hended, hW, hsame⟩ := X5.leave (v := none) (fun _ => rfl)
  refine ⟨_, _, pre0 _ ?_, hrun, hended, _, _, rfl, ?_, ⟨_, rfl⟩, hW, hsame.mono (by decide) (by decide)⟩
  · show Steps p.tables e below (s₁.setTop (mkF m 0 #[rv a, iv 1, iv 2] [])) _
    refine XS.aloadN X0.here hx rfl (hb hby own_d23_0) rfl rfl ?_
    show Steps p.tables e below (s₁.setTop (mkF m 1 #[rv a, iv 1, iv 2] [(.ref a)])) _
    refine st1 _ ?_
    show Steps p.tables e below (T1.setTop (mkF m 4 #[rv a, iv 1, iv 2] [(.ref lp)])) _
    refine XS.iloadN X1.here hx rfl (hb hby own_d23_4) rfl ?_
    show Steps p.tables e below (T1.setTop (mkF m 5 #[rv a, iv 1, iv 2] [(.int 1), (.ref lp)])) _
    refine XS.bipush X1.here hx rfl (hb hby own_d23_5) ?_
    show Steps p.tables e below (T1.setTop (mkF m 7 #[rv a, iv 1, iv 2] [(.int 12), (.int 1), (.ref lp)])) _
    refine XS.iushr X1.here hx rfl (hb hby own_d23_7) rfl ?_
    show Steps p.tables e below (T1.setTop (mkF m 8 #[rv a, iv 1, iv 2] [(.int (((1 : Int32).toUInt32 >>> ((12 : Int32) &&& 31).toUInt32).toInt32)), (.ref lp)])) _
    refine own_top (v' := (.int 0)) (congrArg Value.int (by decide)) ?_
    show Steps p.tables e below (T1.setTop (mkF m 8 #[rv a, iv 1, iv 2] [(.int 0), (.ref lp)])) _
    refine X1.aaload hx (j := (0 : Int32)) (v := (.ref li)) (by rw [e1]; exact c2A.1) (State.isArrayOf_alike hZ.alike c2A.2.1) rfl c2A.2.2 c2in c2at (g := (mkF m 8 #[rv a, iv 1, iv 2] [(.int 0), (.ref lp)])) rfl rfl (hb hby own_d23_8) _ ?_
    show Steps p.tables e below (T1.setTop (mkF m 9 #[rv a, iv 1, iv 2] [(.ref li)])) _
    refine XS.iloadN X1.here hx rfl (hb hby own_d23_9) rfl ?_
    show Steps p.tables e below (T1.setTop (mkF m 10 #[rv a, iv 1, iv 2] [(.int 1), (.ref li)])) _
    refine XS.iconst X1.here hx rfl (hb hby own_d23_10) ?_
    show Steps p.tables e below (T1.setTop (mkF m 11 #[rv a, iv 1, iv 2] [(.int 0), (.int 1), (.ref li)])) _
    refine st3 _ ?_
    show Steps p.tables e below (T3.setTop (mkF m 14 #[rv a, iv 1, iv 2] [(.int ((((1 : Int32) &&& (4095 : Int32)) <<< ((2 : Int32) &&& 31)) + (0 : Int32))), (.ref li)])) _
    refine own_top (v' := (.int 4)) (congrArg Value.int (by decide)) ?_
    show Steps p.tables e below (T3.setTop (mkF m 14 #[rv a, iv 1, iv 2] [(.int 4), (.ref li)])) _
    refine XS.iloadN X3.here hx rfl (hb hby own_d23_14) rfl ?_
    show Steps p.tables e below (T3.setTop (mkF m 15 #[rv a, iv 1, iv 2] [(.int 2), (.int 4), (.ref li)])) _
    refine st5 _ ?_
    show Steps p.tables e below (T5.setTop (mkF m 16 #[rv a, iv 1, iv 2] [])) _
    exact X5.returnOut hx Bd.returns (hb hby own_d23_16) hr
  · show own_sn_Q Z w_CA mr y1 y2 y3 a lp li k_lp k_li h0 n0 _ T5.heap _
    rw [e5]
    exact ⟨rfl, N5, kp7, V5⟩
theorem own_rmv_ef (m : MethodId) (a : Addr) : entryFrame m #[(.ref a), (.int 1)] 3 = mkF m 0 #[rv a, iv 1, .unset] [] := by first | (simp [entryFrame, mkF, argsToLocals, Value.category]; done) | rfl
def own_rmv_Q (Z : State) (w_CA : Addr) (mr : Addr) (y1 : Addr) (y2 : Addr) (y3 : Addr) (a : Addr) (ip : Addr) (dp : Addr) (lp : Addr) (ps : Addr) (pf : Addr) (pg : Addr) (pt : Addr) (io : Addr) (li : Addr) (k_ip : ClassId) (k_io : ClassId) (k_lp : ClassId) (k_li : ClassId) (k_ps : ClassId) (k_pf : ClassId) (h0 : Heap) (n0 : Nat) (v : Option Value) (h : Heap) (L : List Loc) : Prop := v = none ∧ Fr n0 L ∧ Keep h0 h [a, io, li, ps, pf] ∧ Exa Z h a "com/example/libspoke/libspoke/wheel/EntryTable" ∧ Fld Z h a "com/example/libspoke/libspoke/wheel/EntryTable" "itemPages" "[[Ljava/lang/Object;" (.ref ip) ∧ Fld Z h a "com/example/libspoke/libspoke/wheel/EntryTable" "deadlinePages" "[[J" (.ref dp) ∧ Fld Z h a "com/example/libspoke/libspoke/wheel/EntryTable" "linkPages" "[[I" (.ref lp) ∧ Fld Z h a "com/example/libspoke/libspoke/wheel/EntryTable" "pageSizes" "[I" (.ref ps) ∧ Fld Z h a "com/example/libspoke/libspoke/wheel/EntryTable" "pageFirstFree" "[I" (.ref pf) ∧ Fld Z h a "com/example/libspoke/libspoke/wheel/EntryTable" "pageGenerations" "[I" (.ref pg) ∧ Fld Z h a "com/example/libspoke/libspoke/wheel/EntryTable" "pagesWithRoom" "Lcom/example/libspoke/libspoke/wheel/EntryTable$PageSet;" (.ref pt) ∧ Fld Z h a "com/example/libspoke/libspoke/wheel/EntryTable" "sparePage" "I" (.int (-1)) ∧ Fld Z h a "com/example/libspoke/libspoke/wheel/EntryTable" "size" "I" (.int 1) ∧ Fld Z h a "com/example/libspoke/libspoke/wheel/EntryTable" "capacity" "I" (.int 16) ∧ Arv Z h io k_io (.object "java/lang/Object") (16 : Int32) [(.ref y1), .null, .null, .null, .null, .null, .null, .null, .null, .null, .null, .null, .null, .null, .null, .null] .null ∧ Arv Z h li k_li .int (64 : Int32) [(.int 1), (.int 0), (.int 0), (.int 0), (.int 2), (.int 0), (.int 0), (.int 1), (.int 3), (.int 0), (.int 0), (.int 0), (.int 4), (.int 0), (.int 0), (.int 0), (.int 5), (.int 0), (.int 0), (.int 0), (.int 6), (.int 0), (.int 0), (.int 0), (.int 7), (.int 0), (.int 0), (.int 0), (.int 8), (.int 0), (.int 0), (.int 0), (.int 9), (.int 0), (.int 0), (.int 0), (.int 10), (.int 0), (.int 0), (.int 0), (.int 11), (.int 0), (.int 0), (.int 0), (.int 12), (.int 0), (.int 0), (.int 0), (.int 13), (.int 0), (.int 0), (.int 0), (.int 14), (.int 0), (.int 0), (.int 0), (.int 15), (.int 0), (.int 0), (.int 0), (.int (-1)), (.int 0), (.int 0), (.int 0)] (.int 0) ∧ Arv Z h ps k_ps .int (1 : Int32) [(.int 1)] (.int 0) ∧ Arv Z h pf k_pf .int (1 : Int32) [(.int 1)] (.int 0)
set_option maxRecDepth 65536 in
set_option maxHeartbeats 40000000 in
theorem own_rmv (l : Launch) (Z : State) (a0 : Array Value) (hw : ∀ d ∈ tables_1, d.before a0 Z = true) (ws : List Jvm.Cond) (w_CA : Addr) (mr : Addr) (y1 : Addr) (y2 : Addr) (y3 : Addr) (a : Addr) (ip : Addr) (dp : Addr) (lp : Addr) (ps : Addr) (pf : Addr) (pg : Addr) (pt : Addr) (io : Addr) (li : Addr) (k_ip : ClassId) (k_io : ClassId) (k_lp : ClassId) (k_li : ClassId) (k_ps : ClassId) (k_pf : ClassId) (h0 : Heap) (n0 : Nat) (O0 : Old Z n0 h0) (S_HI : Sta Z Z.heap "java/lang/Integer$IntegerCache" "high" "I" (.int 127)) (S_CA : Sta Z Z.heap "java/lang/Integer$IntegerCache" "cache" "[Ljava/lang/Integer;" (.ref w_CA)) (M_OA : own_Mir Z "[Ljava/lang/Object;" mr) (H_y1 : own_At Z w_CA (129 : Int32) y1) (H_y2 : own_At Z w_CA (130 : Int32) y2) (H_y3 : own_At Z w_CA (131 : Int32) y3) (E_y1 : Exa Z Z.heap y1 "java/lang/Integer") (E_y2 : Exa Z Z.heap y2 "java/lang/Integer") (E_y3 : Exa Z Z.heap y3 "java/lang/Integer") (hG : ∀ x ∈ ([a, ip, io, lp, li, ps, pf] : List Addr), n0 ≤ x) (hN : own_Nd [a, ip, io, lp, li, ps, pf]) (pE_a : Exa Z h0 a "com/example/libspoke/libspoke/wheel/EntryTable") (pF_a_itemPages : Fld Z h0 a "com/example/libspoke/libspoke/wheel/EntryTable" "itemPages" "[[Ljava/lang/Object;" (.ref ip)) (pF_a_deadlinePages : Fld Z h0 a "com/example/libspoke/libspoke/wheel/EntryTable" "deadlinePages" "[[J" (.ref dp)) (pF_a_linkPages : Fld Z h0 a "com/example/libspoke/libspoke/wheel/EntryTable" "linkPages" "[[I" (.ref lp)) (pF_a_pageSizes : Fld Z h0 a "com/example/libspoke/libspoke/wheel/EntryTable" "pageSizes" "[I" (.ref ps)) (pF_a_pageFirstFree : Fld Z h0 a "com/example/libspoke/libspoke/wheel/EntryTable" "pageFirstFree" "[I" (.ref pf)) (pF_a_pageGenerations : Fld Z h0 a "com/example/libspoke/libspoke/wheel/EntryTable" "pageGenerations" "[I" (.ref pg)) (pF_a_pagesWithRoom : Fld Z h0 a "com/example/libspoke/libspoke/wheel/EntryTable" "pagesWithRoom" "Lcom/example/libspoke/libspoke/wheel/EntryTable$PageSet;" (.ref pt)) (pF_a_sparePage : Fld Z h0 a "com/example/libspoke/libspoke/wheel/EntryTable" "sparePage" "I" (.int (-1))) (pF_a_size : Fld Z h0 a "com/example/libspoke/libspoke/wheel/EntryTable" "size" "I" (.int 2)) (pF_a_capacity : Fld Z h0 a "com/example/libspoke/libspoke/wheel/EntryTable" "capacity" "I" (.int 16)) (pV_ip : Arv Z h0 ip k_ip (.array (.object "java/lang/Object")) (1 : Int32) [(.ref io)] .null) (pV_io : Arv Z h0 io k_io (.object "java/lang/Object") (16 : Int32) [(.ref y1), (.ref y2), .null, .null, .null, .null, .null, .null, .null, .null, .null, .null, .null, .null, .null, .null] .null) (pV_lp : Arv Z h0 lp k_lp (.array .int) (1 : Int32) [(.ref li)] .null) (pV_li : Arv Z h0 li k_li .int (64 : Int32) [(.int 1), (.int 0), (.int 0), (.int 0), (.int 2), (.int 0), (.int 0), (.int 0), (.int 3), (.int 0), (.int 0), (.int 0), (.int 4), (.int 0), (.int 0), (.int 0), (.int 5), (.int 0), (.int 0), (.int 0), (.int 6), (.int 0), (.int 0), (.int 0), (.int 7), (.int 0), (.int 0), (.int 0), (.int 8), (.int 0), (.int 0), (.int 0), (.int 9), (.int 0), (.int 0), (.int 0), (.int 10), (.int 0), (.int 0), (.int 0), (.int 11), (.int 0), (.int 0), (.int 0), (.int 12), (.int 0), (.int 0), (.int 0), (.int 13), (.int 0), (.int 0), (.int 0), (.int 14), (.int 0), (.int 0), (.int 0), (.int 15), (.int 0), (.int 0), (.int 0), (.int (-1)), (.int 0), (.int 0), (.int 0)] (.int 0)) (pV_ps : Arv Z h0 ps k_ps .int (1 : Int32) [(.int 2)] (.int 0)) (pV_pf : Arv Z h0 pf k_pf .int (1 : Int32) [(.int 2)] (.int 0)) (O_ip : OvrA Z k_ip (.object "java/lang/Object") "[Ljava/lang/Object;") (O_io : Ovr Z k_io "java/lang/Object") (O_lp : OvrA Z k_lp .int "[I") :
    MetFree l (⟨"com/example/libspoke/libspoke/wheel/EntryTable", "remove", "(I)V"⟩ : MethodName) (head1 (Jvm.Cond.code (⟨"com/example/libspoke/libspoke/wheel/EntryTable", "remove", "(I)V"⟩ : MethodName) prog_18_method_3_code 3 none :: ws) ({ frames := 2, cells := 0, slots := 0, locals := 30 } : Room)) (fun ar U => ar = #[(.ref a), (.int 1)] ∧ Z.Warmed39 U.vm ∧ U.heap = h0) (fun _ _ _ _ _ => True) (fun _ U oc U' => ∃ v L, oc = .returned v ∧ own_rmv_Q Z w_CA mr y1 y2 y3 a ip dp lp ps pf pg pt io li k_ip k_io k_lp k_li k_ps k_pf h0 n0 v U'.heap L ∧ FrameEnd U oc U' L ({ frames := 2, cells := 0, slots := 0, locals := 30 } : Room).cells ({ frames := 2, cells := 0, slots := 0, locals := 30 } : Room).slots) := by
  refine MetFree.of_bodySF (plainFor_of_name own_pn0) hisR ?_
  intro p e s m args below meth c s₁ Bd hml0 hP hK
  obtain ⟨rfl, hZ, hh⟩ := hP
  have hx := Bd.exec
  have hby := Bd.bytes
  have hml : c.maxLocals = 3 := hml0
  have hown : s.vm.findClass "com/example/libspoke/libspoke/wheel/EntryTable" = some m.cls := findClass_of_methodNamed Bd.named
  have hnm := (name_of_methodNamed Bd.named Bd.method).1
  have X0 : Stand p l e ({ frames := 2, cells := 0, slots := 0, locals := 30 } : Room) s m #[(.ref a), (.int 1)] below meth c s₁ [] 0 0 := Stand.of_body Bd
  have e0 : s₁.heap = h0 := by rw [← hh, Bd.state]; rfl
  have N0 := Fr.nil n0
  have pre0 : ∀ t, Steps p.tables e below (s₁.setTop (mkF m 0 #[rv a, iv 1, .unset] [])) t → Steps p.tables e below (s₁.setTop (entryFrame m #[(.ref a), (.int 1)] 3)) t := fun t k => castTop (own_rmv_ef m a) k
  have kp0 := Keep.refl h0 ([a, io, li, ps, pf] : List Addr)
  have g_a : n0 ≤ a := hG _ (own_m 0 rfl)
  have g_ip : n0 ≤ ip := hG _ (own_m 1 rfl)
  have g_io : n0 ≤ io := hG _ (own_m 2 rfl)
  have g_lp : n0 ≤ lp := hG _ (own_m 3 rfl)
  have g_li : n0 ≤ li := hG _ (own_m 4 rfl)
  have g_ps : n0 ≤ ps := hG _ (own_m 5 rfl)
  have g_pf : n0 ≤ pf := hG _ (own_m 6 rfl)
  obtain ⟨T1, X1, e1, st1⟩ := getF X0 hx hZ hown (host := "") (Or.inl (hw _ (own_m 14 rfl))) Via.refl e0 pF_a_itemPages (g := (mkF m 6 #[rv a, iv 1, iv 0] [(.ref a)])) rfl rfl (hb hby own_d22_6)
  obtain ⟨c2, c2A, c2q, c2S, c2N, c2H, c2G⟩ := id pV_ip
  have c2in : ¬ ((0 : Int32) < 0 ∨ c2.slots.size ≤ ((0 : Int32)).toNatClampNeg) := inb_of c2S ⟨by decide, by decide⟩
  have c2at : c2.slots[((0 : Int32)).toNatClampNeg]? = some (.ref io) := Has.at c2H c2in rfl
  obtain ⟨c3, c3A, c3q, c3S, c3N, c3H, c3G⟩ := id pV_io
  have c3in : ¬ ((1 : Int32) < 0 ∨ c3.slots.size ≤ ((1 : Int32)).toNatClampNeg) := inb_of c3S ⟨by decide, by decide⟩
  obtain ⟨T4, h4, X4, e4, W4, st4⟩ := stR X1 hx hZ e1 c3A (j := (1 : Int32)) c3in rfl (Or.inl rfl) (g := (mkF m 17 #[rv a, iv 1, iv 0] [.null, (.int 1), (.ref io)])) rfl rfl (hb hby own_d22_17)
  have V4 : Arv Z h4 io k_io (.object "java/lang/Object") (16 : Int32) [(.ref y1), .null, .null, .null, .null, .null, .null, .null, .null, .null, .null, .null, .null, .null, .null, .null] .null := Arv.set c3A c3q c3S c3N c3H c3G rfl W4 1 rfl (Nat.le_of_ble_eq_true rfl)
  have O5 := O0.wr W4 g_io
  have kp6 := kp0.wr W4 (Or.inl (own_m 1 rfl))
  have N4 := Fr.snoc X4 N0 g_io
  have n7 : a ≠ io := (own_ne hN (i := 0) (j := 2) rfl rfl (by decide))
  have f8 := (pF_a_linkPages.other W4 (Or.inl n7))
  obtain ⟨T9, X9, e9, st9⟩ := getF X4 hx hZ hown (host := "") (Or.inl (hw _ (own_m 26 rfl))) Via.refl e4 f8 (g := (mkF m 19 #[rv a, iv 1, iv 0] [(.ref a)])) rfl rfl (hb hby own_d22_19)
  have n10 : lp ≠ io := (Ne.symm (own_ne hN (i := 2) (j := 3) rfl rfl (by decide)))
  have f11 := (pV_lp.other W4 n10)
  obtain ⟨c12, c12A, c12q, c12S, c12N, c12H, c12G⟩ := id f11
  have c12in : ¬ ((0 : Int32) < 0 ∨ c12.slots.size ≤ ((0 : Int32)).toNatClampNeg) := inb_of c12S ⟨by decide, by decide⟩
  have c12at : c12.slots[((0 : Int32)).toNatClampNeg]? = some (.ref li) := Has.at c12H c12in rfl
  obtain ⟨_, _, ⟨T13, L13, k13, n13⟩, -, X13, ⟨Lc13, hQ13, l13, y13, z13⟩, st13⟩ := Jvm.LawKit.callS X9 hx (y := (⟨"com/example/libspoke/libspoke/wheel/EntryTable", "link", "(II)I"⟩ : MethodName)) hown (mvT hZ (hw _ (own_m 107 rfl))) (mvT hZ (hw _ (own_m 108 rfl))) (mvT hZ (hw _ (own_m 2 rfl))) (mvT hZ (hw _ (own_m 109 rfl))) (by decide) (backOf (W := 1) (own_lk l Z a0 hw [] w_CA mr y1 y2 y3 (1 : Int32) (3 : Int32) h4 n0 O5 S_HI S_CA M_OA H_y1 H_y2 H_y3 E_y1 E_y2 E_y3 ) hZ (hw _ (own_m 109 rfl)) (hw _ (own_m 2 rfl)) (by decide) (by decide)) (g := (mkF m 26 #[rv a, iv 1, iv 0] [(.int 3), (.int 1), (.ref li)])) rfl (by rw [hml]; rfl) (argsL := [(.int 1), (.int 3)]) (rest := [(.ref li)]) (lenOf own_pd3 rfl) rfl (by show 2 * 0 + _ ≤ _; exact Nat.le_of_eq rfl) (hb hby own_d22_26) (fun _ _ => ⟨rfl, e9, (by decide : 0 + 0 ≤ _), (by decide : 0 + 0 ≤ _)⟩)
  dsimp only [Pt.U, Pt.locs, Pt.cells, Pt.slots] at X13 l13 y13 z13 st13 hQ13
  subst l13 y13 z13
  obtain ⟨rfl, N13q, e13⟩ := hQ13
  have N13 := Fr.app N4 N13q
  have n14 : li ≠ io := (Ne.symm (own_ne hN (i := 2) (j := 4) rfl rfl (by decide)))
  have f15 := (pV_li.other W4 n14)
  obtain ⟨c16, c16A, c16q, c16S, c16N, c16H, c16G⟩ := id f15
  have c16in : ¬ ((7 : Int32) < 0 ∨ c16.slots.size ≤ ((7 : Int32)).toNatClampNeg) := inb_of c16S ⟨by decide, by decide⟩
  have c16at : c16.slots[((7 : Int32)).toNatClampNeg]? = some (.int 0) := Has.at c16H c16in rfl
  obtain ⟨c17, c17A, c17q, c17S, c17N, c17H, c17G⟩ := id f15
  have c17in : ¬ ((7 : Int32) < 0 ∨ c17.slots.size ≤ ((7 : Int32)).toNatClampNeg) := inb_of c17S ⟨by decide, by decide⟩
  obtain ⟨T18, h18, X18, e18, W18, st18⟩ := stI X13 hx hZ e13 c17A (j := (7 : Int32)) c17in (g := (mkF m 33 #[rv a, iv 1, iv 0] [(.int 1), (.int 7), (.ref li)])) rfl rfl (hb hby own_d22_33)
  have V18 : Arv Z h18 li k_li .int (64 : Int32) [(.int 1), (.int 0), (.int 0), (.int 0), (.int 2), (.int 0), (.int 0), (.int 1), (.int 3), (.int 0), (.int 0), (.int 0), (.int 4), (.int 0), (.int 0), (.int 0), (.int 5), (.int 0), (.int 0), (.int 0), (.int 6), (.int 0), (.int 0), (.int 0), (.int 7), (.int 0), (.int 0), (.int 0), (.int 8), (.int 0), (.int 0), (.int 0), (.int 9), (.int 0), (.int 0), (.int 0), (.int 10), (.int 0), (.int 0), (.int 0), (.int 11), (.int 0), (.int 0), (.int 0), (.int 12), (.int 0), (.int 0), (.int 0), (.int 13), (.int 0), (.int 0), (.int 0), (.int 14), (.int 0), (.int 0), (.int 0), (.int 15), (.int 0), (.int 0), (.int 0), (.int (-1)), (.int 0), (.int 0), (.int 0)] (.int 0) := Arv.set c17A c17q c17S c17N c17H c17G rfl W18 7 rfl (Nat.le_of_ble_eq_true rfl)
  have O19 := O5.wr W18 g_li
  have kp20 := kp6.wr W18 (Or.inl (own_m 2 rfl))
  have N18 := Fr.snoc X18 N13 g_li
  have n21 : a ≠ li := (own_ne hN (i := 0) (j := 4) rfl rfl (by decide))
  have f22 := ((pF_a_pageFirstFree.other W4 (Or.inl n7)).other W18 (Or.inl n21))
  obtain ⟨T23, X23, e23, st23⟩ := getF X18 hx hZ hown (host := "") (Or.inl (hw _ (own_m 30 rfl))) Via.refl e18 f22 (g := (mkF m 35 #[rv a, iv 1, iv 0] [(.ref a)])) rfl rfl (hb hby own_d22_35)
  have n24 : pf ≠ io := (Ne.symm (own_ne hN (i := 2) (j := 6) rfl rfl (by decide)))
  have n25 : pf ≠ li := (Ne.symm (own_ne hN (i := 4) (j := 6) rfl rfl (by decide)))
  have f26 := ((pV_pf.other W4 n24).other W18 n25)
  obtain ⟨c27, c27A, c27q, c27S, c27N, c27H, c27G⟩ := id f26
  have c27in : ¬ ((0 : Int32) < 0 ∨ c27.slots.size ≤ ((0 : Int32)).toNatClampNeg) := inb_of c27S ⟨by decide, by decide⟩
  have c27at : c27.slots[((0 : Int32)).toNatClampNeg]? = some (.int 2) := Has.at c27H c27in rfl
  obtain ⟨T28, X28, e28, st28⟩ := getF X23 hx hZ hown (host := "") (Or.inl (hw _ (own_m 30 rfl))) Via.refl e23 f22 (g := (mkF m 55 #[rv a, iv 1, iv 0] [(.ref a), (.int 1), (.ref a)])) rfl rfl (hb hby own_d22_55)
  obtain ⟨c29, c29A, c29q, c29S, c29N, c29H, c29G⟩ := id f26
  have c29in : ¬ ((0 : Int32) < 0 ∨ c29.slots.size ≤ ((0 : Int32)).toNatClampNeg) := inb_of c29S ⟨by decide, by decide⟩
  have c29at : c29.slots[((0 : Int32)).toNatClampNeg]? = some (.int 2) := Has.at c29H c29in rfl
  have n30 : lp ≠ li := (own_ne hN (i := 3) (j := 4) rfl rfl (by decide))
  have n31 : a ≠ lp := (own_ne hN (i := 0) (j := 3) rfl rfl (by decide))
  have f32 := ((pE_a.wr W4).wr W18)
  have f33 := (f8.other W18 (Or.inl n21))
  have f34 := (f11.other W18 n30)
  obtain ⟨cq35, kq35, q35a, q35b, q35c⟩ := isOf hZ e28 f32
  obtain ⟨_, _, ⟨T35, L35, k35, n35⟩, -, X35, ⟨Lc35, hQ35, l35, y35, z35⟩, st35⟩ := X28.virtualBack hx (y := (⟨"com/example/libspoke/libspoke/wheel/EntryTable", "setNext", "(II)V"⟩ : MethodName)) (z := (⟨"com/example/libspoke/libspoke/wheel/EntryTable", "setNext", "(II)V"⟩ : MethodName)) hown (mvT hZ (hw _ (own_m 146 rfl))) (mvT hZ (hw _ (own_m 147 rfl))) (notFace_of_selects (args := #[]) (mvT hZ (hw _ (own_m 149 rfl)))) (mvT hZ (hw _ (own_m 149 rfl))) (mvT hZ (hw _ (own_m 148 rfl))) (by decide) (backOf (W := 0) (own_sn l Z a0 hw [] w_CA mr y1 y2 y3 a lp li k_lp k_li h18 n0 O19 S_HI S_CA M_OA H_y1 H_y2 H_y3 E_y1 E_y2 E_y3 (allS g_a (allS g_lp (allS g_li all0))) (own_ndc (allS n31 (allS n21 all0)) (own_ndc (allS n30 all0) (own_ndc all0 own_nd0))) f32 f33 f34 V18 O_lp) hZ (hw _ (own_m 150 rfl)) (hw _ (own_m 2 rfl)) (by decide) (by decide)) q35a q35c (g := (mkF m 60 #[rv a, iv 1, iv 0] [(.int 2), (.int 1), (.ref a)])) rfl (by rw [hml]; rfl) (Steps.refl _) (argsL := [(.int 1), (.int 2)]) (rest := []) (lenOf own_pd15 rfl) rfl (by show 2 * 0 + _ ≤ _; exact Nat.le_of_eq rfl) (hb hby own_d22_60) (fun _ _ => ⟨rfl, e28, (by decide : 0 + 0 ≤ _), (by decide : 0 + 0 ≤ _)⟩)
  dsimp only [Pt.U, Pt.locs, Pt.cells, Pt.slots] at X35 l35 y35 z35 st35 hQ35
  subst l35 y35 z35
  obtain ⟨rfl, N35q, K35, q36⟩ := hQ35
  have N35 := Fr.app N18 N35q
  have O37 := O19.keep K35 (allS g_li all0)
  have kp38 := kp20.trans K35 ((allS (P := fun x => x ∈ ([a, io, li, ps, pf] : List Addr) ∨ h0.size ≤ x) (Or.inl (own_m 2 rfl)) all0))
  have f39 := (f22.keep K35 (ninS n21 nin0))
  obtain ⟨T40, X40, e40, st40⟩ := getF X35 hx hZ hown (host := "") (Or.inl (hw _ (own_m 30 rfl))) Via.refl rfl f39 (g := (mkF m 64 #[rv a, iv 1, iv 0] [(.ref a)])) rfl rfl (hb hby own_d22_64)
  have f41 := (f26.keep K35 (ninS n25 nin0))
  obtain ⟨c42, c42A, c42q, c42S, c42N, c42H, c42G⟩ := id f41
  have c42in : ¬ ((0 : Int32) < 0 ∨ c42.slots.size ≤ ((0 : Int32)).toNatClampNeg) := inb_of c42S ⟨by decide, by decide⟩
  obtain ⟨T43, h43, X43, e43, W43, st43⟩ := stI X40 hx hZ e40 c42A (j := (0 : Int32)) c42in (g := (mkF m 69 #[rv a, iv 1, iv 0] [(.int 1), (.int 0), (.ref pf)])) rfl rfl (hb hby own_d22_69)
  have V43 : Arv Z h43 pf k_pf .int (1 : Int32) [(.int 1)] (.int 0) := Arv.set c42A c42q c42S c42N c42H c42G rfl W43 0 rfl (Nat.le_of_ble_eq_true rfl)
  have O44 := O37.wr W43 g_pf
  have kp45 := kp38.wr W43 (Or.inl (own_m 4 rfl))
  have N43 := Fr.snoc X43 N35 g_pf
  have n46 : a ≠ pf := (own_ne hN (i := 0) (j := 6) rfl rfl (by decide))
  have f47 := ((((pF_a_size.other W4 (Or.inl n7)).other W18 (Or.inl n21)).keep K35 (ninS n21 nin0)).other W43 (Or.inl n46))
  obtain ⟨T48, X48, e48, st48⟩ := getF X43 hx hZ hown (host := "") (Or.inl (hw _ (own_m 126 rfl))) Via.refl e43 f47 (g := (mkF m 72 #[rv a, iv 1, iv 0] [(.ref a), (.ref a)])) rfl rfl (hb hby own_d22_72)
  have f49 := ((f32.keep K35).wr W43)
  obtain ⟨T50, h50, X50, e50, W50, st50⟩ := putF X48 hx hZ hown (host := "") (Or.inl (hw _ (own_m 126 rfl))) Via.refl e48 f47 f49 (Or.inl (hw _ (own_m 127 rfl))) (hw _ (own_m 1 rfl)) (ty := .int) (by decide) rfl rfl (g := (mkF m 77 #[rv a, iv 1, iv 0] [(.int 1), (.ref a)])) rfl rfl (hb hby own_d22_77)
  have Fw50 := f47.same W50
  have O51 := O44.wr W50 g_a
  have kp52 := kp45.wr W50 (Or.inl (own_m 0 rfl))
  have N50 := Fr.snoc X50 N43 g_a
  have f53 := (((((pF_a_pageSizes.other W4 (Or.inl n7)).other W18 (Or.inl n21)).keep K35 (ninS n21 nin0)).other W43 (Or.inl n46)).other W50 (Or.inr (slot_ne (Or.inl (hw _ (own_m 29 rfl))) (Or.inl (hw _ (own_m 127 rfl))) (by decide) (t := (.array .int)) (t' := .int) (by decide) (by decide))))
  obtain ⟨T54, X54, e54, st54⟩ := getF X50 hx hZ hown (host := "") (Or.inl (hw _ (own_m 28 rfl))) Via.refl e50 f53 (g := (mkF m 81 #[rv a, iv 1, iv 0] [(.ref a)])) rfl rfl (hb hby own_d22_81)
  have n55 : ps ≠ io := (Ne.symm (own_ne hN (i := 2) (j := 5) rfl rfl (by decide)))
  have n56 : ps ≠ li := (Ne.symm (own_ne hN (i := 4) (j := 5) rfl rfl (by decide)))
  have n57 : ps ≠ pf := (own_ne hN (i := 5) (j := 6) rfl rfl (by decide))
  have n58 : ps ≠ a := (Ne.symm (own_ne hN (i := 0) (j := 5) rfl rfl (by decide)))
  have f59 := (((((pV_ps.other W4 n55).other W18 n56).keep K35 (ninS n56 nin0)).other W43 n57).other W50 n58)
  obtain ⟨c60, c60A, c60q, c60S, c60N, c60H, c60G⟩ := id f59
  have c60in : ¬ ((0 : Int32) < 0 ∨ c60.slots.size ≤ ((0 : Int32)).toNatClampNeg) := inb_of c60S ⟨by decide, by decide⟩
  have c60at : c60.slots[((0 : Int32)).toNatClampNeg]? = some (.int 2) := Has.at c60H c60in rfl
  obtain ⟨c61, c61A, c61q, c61S, c61N, c61H, c61G⟩ := id f59
  have c61in : ¬ ((0 : Int32) < 0 ∨ c61.slots.size ≤ ((0 : Int32)).toNatClampNeg) := inb_of c61S ⟨by decide, by decide⟩
  obtain ⟨T62, h62, X62, e62, W62, st62⟩ := stI X54 hx hZ e54 c61A (j := (0 : Int32)) c61in (g := (mkF m 90 #[rv a, iv 1, iv 0] [(.int 1), (.int 0), (.ref ps), (.int 1)])) rfl rfl (hb hby own_d22_90)
  have V62 : Arv Z h62 ps k_ps .int (1 : Int32) [(.int 1)] (.int 0) := Arv.set c61A c61q c61S c61N c61H c61G rfl W62 0 rfl (Nat.le_of_ble_eq_true rfl)
  have O63 := O51.wr W62 g_ps
  have kp64 := kp52.wr W62 (Or.inl (own_m 3 rfl))
  have N62 := Fr.snoc X62 N50 g_ps
  have f65 := ((f49.wr W50).wr W62)
  have n66 : a ≠ ps := (own_ne hN (i := 0) (j := 5) rfl rfl (by decide))
  have f67 := ((((((pF_a_itemPages.other W4 (Or.inl n7)).other W18 (Or.inl n21)).keep K35 (ninS n21 nin0)).other W43 (Or.inl n46)).other W50 (Or.inr (slot_ne (Or.inl (hw _ (own_m 15 rfl))) (Or.inl (hw _ (own_m 127 rfl))) (by decide) (t := (.array (.array (.object "java/lang/Object")))) (t' := .int) (by decide) (by decide)))).other W62 (Or.inl n66))
  have f68 := ((((((pF_a_deadlinePages.other W4 (Or.inl n7)).other W18 (Or.inl n21)).keep K35 (ninS n21 nin0)).other W43 (Or.inl n46)).other W50 (Or.inr (slot_ne (Or.inl (hw _ (own_m 21 rfl))) (Or.inl (hw _ (own_m 127 rfl))) (by decide) (t := (.array (.array .long))) (t' := .int) (by decide) (by decide)))).other W62 (Or.inl n66))
  have f69 := ((((f33.keep K35 (ninS n21 nin0)).other W43 (Or.inl n46)).other W50 (Or.inr (slot_ne (Or.inl (hw _ (own_m 27 rfl))) (Or.inl (hw _ (own_m 127 rfl))) (by decide) (t := (.array (.array .int))) (t' := .int) (by decide) (by decide)))).other W62 (Or.inl n66))
  have f70 := (f53.other W62 (Or.inl n66))
  have f71 := (((f39.other W43 (Or.inl n46)).other W50 (Or.inr (slot_ne (Or.inl (hw _ (own_m 31 rfl))) (Or.inl (hw _ (own_m 127 rfl))) (by decide) (t := (.array .int)) (t' := .int) (by decide) (by decide)))).other W62 (Or.inl n66))
  have f72 := ((((((pF_a_pageGenerations.other W4 (Or.inl n7)).other W18 (Or.inl n21)).keep K35 (ninS n21 nin0)).other W43 (Or.inl n46)).other W50 (Or.inr (slot_ne (Or.inl (hw _ (own_m 33 rfl))) (Or.inl (hw _ (own_m 127 rfl))) (by decide) (t := (.array .int)) (t' := .int) (by decide) (by decide)))).other W62 (Or.inl n66))
  have f73 := ((((((pF_a_pagesWithRoom.other W4 (Or.inl n7)).other W18 (Or.inl n21)).keep K35 (ninS n21 nin0)).other W43 (Or.inl n46)).other W50 (Or.inr (slot_ne (Or.inr (hw _ (own_m 46 rfl))) (Or.inl (hw _ (own_m 127 rfl))) (by decide) (t := (.object "com/example/libspoke/libspoke/wheel/EntryTable$PageSet")) (t' := .int) (by decide) (by decide)))).other W62 (Or.inl n66))
  have f74 := ((((((pF_a_sparePage.other W4 (Or.inl n7)).other W18 (Or.inl n21)).keep K35 (ninS n21 nin0)).other W43 (Or.inl n46)).other W50 (Or.inr (slot_ne (Or.inl (hw _ (own_m 48 rfl))) (Or.inl (hw _ (own_m 127 rfl))) (by decide) (t := .int) (t' := .int) (by decide) (by decide)))).other W62 (Or.inl n66))
  have f75 := (Fw50.other W62 (Or.inl n66))
  have f76 := ((((((pF_a_capacity.other W4 (Or.inl n7)).other W18 (Or.inl n21)).keep K35 (ninS n21 nin0)).other W43 (Or.inl n46)).other W50 (Or.inr (slot_ne (Or.inl (hw _ (own_m 71 rfl))) (Or.inl (hw _ (own_m 127 rfl))) (by decide) (t := .int) (t' := .int) (by decide) (by decide)))).other W62 (Or.inl n66))
  have n77 : io ≠ li := (own_ne hN (i := 2) (j := 4) rfl rfl (by decide))
  have n78 : io ≠ pf := (own_ne hN (i := 2) (j := 6) rfl rfl (by decide))
  have n79 : io ≠ ps := (own_ne hN (i := 2) (j := 5) rfl rfl (by decide))
  have f80 := (((((V4.other W18 n77).keep K35 (ninS n77 nin0)).other W43 n78).other W50 (Ne.symm n7)).other W62 n79)
  have n81 : li ≠ pf := (own_ne hN (i := 4) (j := 6) rfl rfl (by decide))
  have n82 : li ≠ ps := (own_ne hN (i := 4) (j := 5) rfl rfl (by decide))
  have f83 := (((q36.other W43 n81).other W50 (Ne.symm n21)).other W62 n82)
  have f84 := ((V43.other W50 (Ne.symm n46)).other W62 (Ne.symm n57))
  obtain ⟨fs, hr, hrun, hended, hW, hsame⟩ := X62.leave (v := none) (fun _ => rfl)
  refine ⟨_, _, pre0 _ ?_, hrun, hended, _, _, rfl, ?_, ⟨_, rfl⟩, hW, hsame.mono (by decide) (by decide)⟩
  · show Steps p.tables e below (s₁.setTop (mkF m 0 #[rv a, iv 1, .unset] [])) _
    refine XS.iloadN X0.here hx rfl (hb hby own_d22_0) rfl ?_
    show Steps p.tables e below (s₁.setTop (mkF m 1 #[rv a, iv 1, .unset] [(.int 1)])) _
    refine XS.bipush X0.here hx rfl (hb hby own_d22_1) ?_
    show Steps p.tables e below (s₁.setTop (mkF m 3 #[rv a, iv 1, .unset] [(.int 12), (.int 1)])) _
    refine XS.iushr X0.here hx rfl (hb hby own_d22_3) rfl ?_
    show Steps p.tables e below (s₁.setTop (mkF m 4 #[rv a, iv 1, .unset] [(.int (((1 : Int32).toUInt32 >>> ((12 : Int32) &&& 31).toUInt32).toInt32))])) _
    refine own_top (v' := (.int 0)) (congrArg Value.int (by decide)) ?_
    show Steps p.tables e below (s₁.setTop (mkF m 4 #[rv a, iv 1, .unset] [(.int 0)])) _
    refine XS.istoreN X0.here hx rfl (hb hby own_d22_4) rfl (l' := #[rv a, iv 1, iv 0]) rfl ?_
    show Steps p.tables e below (s₁.setTop (mkF m 5 #[rv a, iv 1, iv 0] [])) _
    refine XS.aloadN X0.here hx rfl (hb hby own_d22_5) rfl rfl ?_
    show Steps p.tables e below (s₁.setTop (mkF m 6 #[rv a, iv 1, iv 0] [(.ref a)])) _
    refine st1 _ ?_
    show Steps p.tables e below (T1.setTop (mkF m 9 #[rv a, iv 1, iv 0] [(.ref ip)])) _
    refine XS.iloadN X1.here hx rfl (hb hby own_d22_9) rfl ?_
    show Steps p.tables e below (T1.setTop (mkF m 10 #[rv a, iv 1, iv 0] [(.int 0), (.ref ip)])) _
    refine X1.aaload hx (j := (0 : Int32)) (v := (.ref io)) (by rw [e1]; exact c2A.1) (State.isArrayOf_alike hZ.alike c2A.2.1) rfl c2A.2.2 c2in c2at (g := (mkF m 10 #[rv a, iv 1, iv 0] [(.int 0), (.ref ip)])) rfl rfl (hb hby own_d22_10) _ ?_
    show Steps p.tables e below (T1.setTop (mkF m 11 #[rv a, iv 1, iv 0] [(.ref io)])) _
    refine XS.iloadN X1.here hx rfl (hb hby own_d22_11) rfl ?_
    show Steps p.tables e below (T1.setTop (mkF m 12 #[rv a, iv 1, iv 0] [(.int 1), (.ref io)])) _
    refine XS.sipush X1.here hx rfl (hb hby own_d22_12) ?_
    show Steps p.tables e below (T1.setTop (mkF m 15 #[rv a, iv 1, iv 0] [(.int 4095), (.int 1), (.ref io)])) _
    refine XS.iand X1.here hx rfl (hb hby own_d22_15) rfl ?_
    show Steps p.tables e below (T1.setTop (mkF m 16 #[rv a, iv 1, iv 0] [(.int ((1 : Int32) &&& (4095 : Int32))), (.ref io)])) _
    refine own_top (v' := (.int 1)) (congrArg Value.int (by decide)) ?_
    show Steps p.tables e below (T1.setTop (mkF m 16 #[rv a, iv 1, iv 0] [(.int 1), (.ref io)])) _
    refine XS.aconstNull X1.here hx rfl (hb hby own_d22_16) ?_
    show Steps p.tables e below (T1.setTop (mkF m 17 #[rv a, iv 1, iv 0] [.null, (.int 1), (.ref io)])) _
    refine st4 _ ?_
    show Steps p.tables e below (T4.setTop (mkF m 18 #[rv a, iv 1, iv 0] [])) _
    refine XS.aloadN X4.here hx rfl (hb hby own_d22_18) rfl rfl ?_
    show Steps p.tables e below (T4.setTop (mkF m 19 #[rv a, iv 1, iv 0] [(.ref a)])) _
    refine st9 _ ?_
    show Steps p.tables e below (T9.setTop (mkF m 22 #[rv a, iv 1, iv 0] [(.ref lp)])) _
    refine XS.iloadN X9.here hx rfl (hb hby own_d22_22) rfl ?_
    show Steps p.tables e below (T9.setTop (mkF m 23 #[rv a, iv 1, iv 0] [(.int 0), (.ref lp)])) _
    refine X9.aaload hx (j := (0 : Int32)) (v := (.ref li)) (by rw [e9]; exact c12A.1) (State.isArrayOf_alike hZ.alike c12A.2.1) rfl c12A.2.2 c12in c12at (g := (mkF m 23 #[rv a, iv 1, iv 0] [(.int 0), (.ref lp)])) rfl rfl (hb hby own_d22_23) _ ?_
    show Steps p.tables e below (T9.setTop (mkF m 24 #[rv a, iv 1, iv 0] [(.ref li)])) _
    refine XS.iloadN X9.here hx rfl (hb hby own_d22_24) rfl ?_
    show Steps p.tables e below (T9.setTop (mkF m 25 #[rv a, iv 1, iv 0] [(.int 1), (.ref li)])) _
    refine XS.iconst X9.here hx rfl (hb hby own_d22_25) ?_
    show Steps p.tables e below (T9.setTop (mkF m 26 #[rv a, iv 1, iv 0] [(.int 3), (.int 1), (.ref li)])) _
    refine st13 _ ?_
    show Steps p.tables e below (T13.setTop (mkF m 29 #[rv a, iv 1, iv 0] [(.int ((((1 : Int32) &&& (4095 : Int32)) <<< ((2 : Int32) &&& 31)) + (3 : Int32))), (.ref li)])) _
    refine own_top (v' := (.int 7)) (congrArg Value.int (by decide)) ?_
    show Steps p.tables e below (T13.setTop (mkF m 29 #[rv a, iv 1, iv 0] [(.int 7), (.ref li)])) _
    refine XT.dup2 X13.here hx rfl (hb hby own_d22_29) rfl rfl rfl ?_
    show Steps p.tables e below (T13.setTop (mkF m 30 #[rv a, iv 1, iv 0] [(.int 7), (.ref li), (.int 7), (.ref li)])) _
    refine X13.iaload hx (j := (7 : Int32)) (v := (.int 0)) (by rw [e13]; exact c16A.1) (State.isArrayOf_alike hZ.alike c16A.2.1) c16A.2.2 c16in c16at (g := (mkF m 30 #[rv a, iv 1, iv 0] [(.int 7), (.ref li), (.int 7), (.ref li)])) rfl rfl (hb hby own_d22_30) _ ?_
    show Steps p.tables e below (T13.setTop (mkF m 31 #[rv a, iv 1, iv 0] [(.int 0), (.int 7), (.ref li)])) _
    refine XS.iconst X13.here hx rfl (hb hby own_d22_31) ?_
    show Steps p.tables e below (T13.setTop (mkF m 32 #[rv a, iv 1, iv 0] [(.int 1), (.int 0), (.int 7), (.ref li)])) _
    refine XS.iadd X13.here hx rfl (hb hby own_d22_32) rfl ?_
    show Steps p.tables e below (T13.setTop (mkF m 33 #[rv a, iv 1, iv 0] [(.int ((0 : Int32) + (1 : Int32))), (.int 7), (.ref li)])) _
    refine own_top (v' := (.int 1)) (congrArg Value.int (by decide)) ?_
    show Steps p.tables e below (T13.setTop (mkF m 33 #[rv a, iv 1, iv 0] [(.int 1), (.int 7), (.ref li)])) _
    refine st18 _ ?_
    show Steps p.tables e below (T18.setTop (mkF m 34 #[rv a, iv 1, iv 0] [])) _
    refine XS.aloadN X18.here hx rfl (hb hby own_d22_34) rfl rfl ?_
    show Steps p.tables e below (T18.setTop (mkF m 35 #[rv a, iv 1, iv 0] [(.ref a)])) _
    refine st23 _ ?_
    show Steps p.tables e below (T23.setTop (mkF m 38 #[rv a, iv 1, iv 0] [(.ref pf)])) _
    refine XS.iloadN X23.here hx rfl (hb hby own_d22_38) rfl ?_
    show Steps p.tables e below (T23.setTop (mkF m 39 #[rv a, iv 1, iv 0] [(.int 0), (.ref pf)])) _
    refine X23.iaload hx (j := (0 : Int32)) (v := (.int 2)) (by rw [e23]; exact c27A.1) (State.isArrayOf_alike hZ.alike c27A.2.1) c27A.2.2 c27in c27at (g := (mkF m 39 #[rv a, iv 1, iv 0] [(.int 0), (.ref pf)])) rfl rfl (hb hby own_d22_39) _ ?_
    show Steps p.tables e below (T23.setTop (mkF m 40 #[rv a, iv 1, iv 0] [(.int 2)])) _
    refine XS.iconst X23.here hx rfl (hb hby own_d22_40) ?_
    show Steps p.tables e below (T23.setTop (mkF m 41 #[rv a, iv 1, iv 0] [(.int (-1)), (.int 2)])) _
    refine XS.icmpYes X23.here hx rfl (pc0 := 41) (pc' := 52) rfl (hb hby own_d22_41) rfl (feq (by decide)).2 (by decide) (by decide) ?_
    show Steps p.tables e below (T23.setTop (mkF m 52 #[rv a, iv 1, iv 0] [])) _
    refine XS.aloadN X23.here hx rfl (hb hby own_d22_52) rfl rfl ?_
    show Steps p.tables e below (T23.setTop (mkF m 53 #[rv a, iv 1, iv 0] [(.ref a)])) _
    refine XS.iloadN X23.here hx rfl (hb hby own_d22_53) rfl ?_
    show Steps p.tables e below (T23.setTop (mkF m 54 #[rv a, iv 1, iv 0] [(.int 1), (.ref a)])) _
    refine XS.aloadN X23.here hx rfl (hb hby own_d22_54) rfl rfl ?_
    show Steps p.tables e below (T23.setTop (mkF m 55 #[rv a, iv 1, iv 0] [(.ref a), (.int 1), (.ref a)])) _
    refine st28 _ ?_
    show Steps p.tables e below (T28.setTop (mkF m 58 #[rv a, iv 1, iv 0] [(.ref pf), (.int 1), (.ref a)])) _
    refine XS.iloadN X28.here hx rfl (hb hby own_d22_58) rfl ?_
    show Steps p.tables e below (T28.setTop (mkF m 59 #[rv a, iv 1, iv 0] [(.int 0), (.ref pf), (.int 1), (.ref a)])) _
    refine X28.iaload hx (j := (0 : Int32)) (v := (.int 2)) (by rw [e28]; exact c29A.1) (State.isArrayOf_alike hZ.alike c29A.2.1) c29A.2.2 c29in c29at (g := (mkF m 59 #[rv a, iv 1, iv 0] [(.int 0), (.ref pf), (.int 1), (.ref a)])) rfl rfl (hb hby own_d22_59) _ ?_
    show Steps p.tables e below (T28.setTop (mkF m 60 #[rv a, iv 1, iv 0] [(.int 2), (.int 1), (.ref a)])) _
    refine st35.trans ?_
    show Steps p.tables e below (T35.setTop (mkF m 63 #[rv a, iv 1, iv 0] [])) _
    refine XS.aloadN X35.here hx rfl (hb hby own_d22_63) rfl rfl ?_
    show Steps p.tables e below (T35.setTop (mkF m 64 #[rv a, iv 1, iv 0] [(.ref a)])) _
    refine st40 _ ?_
    show Steps p.tables e below (T40.setTop (mkF m 67 #[rv a, iv 1, iv 0] [(.ref pf)])) _
    refine XS.iloadN X40.here hx rfl (hb hby own_d22_67) rfl ?_
    show Steps p.tables e below (T40.setTop (mkF m 68 #[rv a, iv 1, iv 0] [(.int 0), (.ref pf)])) _
    refine XS.iloadN X40.here hx rfl (hb hby own_d22_68) rfl ?_
    show Steps p.tables e below (T40.setTop (mkF m 69 #[rv a, iv 1, iv 0] [(.int 1), (.int 0), (.ref pf)])) _
    refine st43 _ ?_
    show Steps p.tables e below (T43.setTop (mkF m 70 #[rv a, iv 1, iv 0] [])) _
    refine XS.aloadN X43.here hx rfl (hb hby own_d22_70) rfl rfl ?_
    show Steps p.tables e below (T43.setTop (mkF m 71 #[rv a, iv 1, iv 0] [(.ref a)])) _
    refine XS.dup X43.here hx rfl (hb hby own_d22_71) rfl rfl ?_
    show Steps p.tables e below (T43.setTop (mkF m 72 #[rv a, iv 1, iv 0] [(.ref a), (.ref a)])) _
    refine st48 _ ?_
    show Steps p.tables e below (T48.setTop (mkF m 75 #[rv a, iv 1, iv 0] [(.int 2), (.ref a)])) _
    refine XS.iconst X48.here hx rfl (hb hby own_d22_75) ?_
    show Steps p.tables e below (T48.setTop (mkF m 76 #[rv a, iv 1, iv 0] [(.int 1), (.int 2), (.ref a)])) _
    refine XS.isub X48.here hx rfl (hb hby own_d22_76) rfl ?_
    show Steps p.tables e below (T48.setTop (mkF m 77 #[rv a, iv 1, iv 0] [(.int ((2 : Int32) - (1 : Int32))), (.ref a)])) _
    refine own_top (v' := (.int 1)) (congrArg Value.int (by decide)) ?_
    show Steps p.tables e below (T48.setTop (mkF m 77 #[rv a, iv 1, iv 0] [(.int 1), (.ref a)])) _
    refine st50 _ ?_
    show Steps p.tables e below (T50.setTop (mkF m 80 #[rv a, iv 1, iv 0] [])) _
    refine XS.aloadN X50.here hx rfl (hb hby own_d22_80) rfl rfl ?_
    show Steps p.tables e below (T50.setTop (mkF m 81 #[rv a, iv 1, iv 0] [(.ref a)])) _
    refine st54 _ ?_
    show Steps p.tables e below (T54.setTop (mkF m 84 #[rv a, iv 1, iv 0] [(.ref ps)])) _
    refine XS.iloadN X54.here hx rfl (hb hby own_d22_84) rfl ?_
    show Steps p.tables e below (T54.setTop (mkF m 85 #[rv a, iv 1, iv 0] [(.int 0), (.ref ps)])) _
    refine XT.dup2 X54.here hx rfl (hb hby own_d22_85) rfl rfl rfl ?_
    show Steps p.tables e below (T54.setTop (mkF m 86 #[rv a, iv 1, iv 0] [(.int 0), (.ref ps), (.int 0), (.ref ps)])) _
    refine X54.iaload hx (j := (0 : Int32)) (v := (.int 2)) (by rw [e54]; exact c60A.1) (State.isArrayOf_alike hZ.alike c60A.2.1) c60A.2.2 c60in c60at (g := (mkF m 86 #[rv a, iv 1, iv 0] [(.int 0), (.ref ps), (.int 0), (.ref ps)])) rfl rfl (hb hby own_d22_86) _ ?_
    show Steps p.tables e below (T54.setTop (mkF m 87 #[rv a, iv 1, iv 0] [(.int 2), (.int 0), (.ref ps)])) _
    refine XS.iconst X54.here hx rfl (hb hby own_d22_87) ?_
    show Steps p.tables e below (T54.setTop (mkF m 88 #[rv a, iv 1, iv 0] [(.int 1), (.int 2), (.int 0), (.ref ps)])) _
    refine XS.isub X54.here hx rfl (hb hby own_d22_88) rfl ?_
    show Steps p.tables e below (T54.setTop (mkF m 89 #[rv a, iv 1, iv 0] [(.int ((2 : Int32) - (1 : Int32))), (.int 0), (.ref ps)])) _
    refine own_top (v' := (.int 1)) (congrArg Value.int (by decide)) ?_
    show Steps p.tables e below (T54.setTop (mkF m 89 #[rv a, iv 1, iv 0] [(.int 1), (.int 0), (.ref ps)])) _
    refine own_dupX2 X54.here hx rfl (hb hby own_d22_89) rfl rfl rfl rfl ?_
    show Steps p.tables e below (T54.setTop (mkF m 90 #[rv a, iv 1, iv 0] [(.int 1), (.int 0), (.ref ps), (.int 1)])) _
    refine st62 _ ?_
    show Steps p.tables e below (T62.setTop (mkF m 91 #[rv a, iv 1, iv 0] [(.int 1)])) _
    refine XS.ifYes X62.here hx rfl (pc0 := 91) (pc' := 99) rfl (hb hby own_d22_91) rfl ((if0 _ _).trans (feq (by decide)).2) (by decide) (by decide) ?_
    show Steps p.tables e below (T62.setTop (mkF m 99 #[rv a, iv 1, iv 0] [])) _
    exact X62.returnOut hx Bd.returns (hb hby own_d22_99) hr
  · show own_rmv_Q Z w_CA mr y1 y2 y3 a ip dp lp ps pf pg pt io li k_ip k_io k_lp k_li k_ps k_pf h0 n0 _ T62.heap _
    rw [e62]
    exact ⟨rfl, N62, kp64, f65, f67, f68, f69, f70, f71, f72, f73, f74, f75, f76, f80, f83, V62, f84⟩
theorem own_nx7_ef (m : MethodId) (a : Addr) : entryFrame m #[(.ref a), (.int 1)] 2 = mkF m 0 #[rv a, iv 1] [] := by first | (simp [entryFrame, mkF, argsToLocals, Value.category]; done) | rfl
def own_nx7_Q (Z : State) (w_CA : Addr) (mr : Addr) (y1 : Addr) (y2 : Addr) (y3 : Addr) (a : Addr) (lp : Addr) (li : Addr) (k_lp : ClassId) (k_li : ClassId) (h0 : Heap) (n0 : Nat) (v : Option Value) (h : Heap) (L : List Loc) : Prop := v = some (.int 2) ∧ Fr n0 L ∧ h = h0
set_option maxRecDepth 65536 in
set_option maxHeartbeats 40000000 in
theorem own_nx7 (l : Launch) (Z : State) (a0 : Array Value) (hw : ∀ d ∈ tables_1, d.before a0 Z = true) (ws : List Jvm.Cond) (w_CA : Addr) (mr : Addr) (y1 : Addr) (y2 : Addr) (y3 : Addr) (a : Addr) (lp : Addr) (li : Addr) (k_lp : ClassId) (k_li : ClassId) (h0 : Heap) (n0 : Nat) (O0 : Old Z n0 h0) (S_HI : Sta Z Z.heap "java/lang/Integer$IntegerCache" "high" "I" (.int 127)) (S_CA : Sta Z Z.heap "java/lang/Integer$IntegerCache" "cache" "[Ljava/lang/Integer;" (.ref w_CA)) (M_OA : own_Mir Z "[Ljava/lang/Object;" mr) (H_y1 : own_At Z w_CA (129 : Int32) y1) (H_y2 : own_At Z w_CA (130 : Int32) y2) (H_y3 : own_At Z w_CA (131 : Int32) y3) (E_y1 : Exa Z Z.heap y1 "java/lang/Integer") (E_y2 : Exa Z Z.heap y2 "java/lang/Integer") (E_y3 : Exa Z Z.heap y3 "java/lang/Integer") (pE_a : Exa Z h0 a "com/example/libspoke/libspoke/wheel/EntryTable") (pF_a_linkPages : Fld Z h0 a "com/example/libspoke/libspoke/wheel/EntryTable" "linkPages" "[[I" (.ref lp)) (pV_lp : Arv Z h0 lp k_lp (.array .int) (1 : Int32) [(.ref li)] .null) (pV_li : Arv Z h0 li k_li .int (64 : Int32) [(.int 1), (.int 0), (.int 0), (.int 0), (.int 2), (.int 0), (.int 0), (.int 1), (.int 3), (.int 0), (.int 0), (.int 0), (.int 4), (.int 0), (.int 0), (.int 0), (.int 5), (.int 0), (.int 0), (.int 0), (.int 6), (.int 0), (.int 0), (.int 0), (.int 7), (.int 0), (.int 0), (.int 0), (.int 8), (.int 0), (.int 0), (.int 0), (.int 9), (.int 0), (.int 0), (.int 0), (.int 10), (.int 0), (.int 0), (.int 0), (.int 11), (.int 0), (.int 0), (.int 0), (.int 12), (.int 0), (.int 0), (.int 0), (.int 13), (.int 0), (.int 0), (.int 0), (.int 14), (.int 0), (.int 0), (.int 0), (.int 15), (.int 0), (.int 0), (.int 0), (.int (-1)), (.int 0), (.int 0), (.int 0)] (.int 0)) (O_lp : OvrA Z k_lp .int "[I") :
    MetFree l (⟨"com/example/libspoke/libspoke/wheel/EntryTable", "next", "(I)I"⟩ : MethodName) (head1 (Jvm.Cond.code (⟨"com/example/libspoke/libspoke/wheel/EntryTable", "next", "(I)I"⟩ : MethodName) prog_18_method_11_code 2 (some .int) :: ws) ({ frames := 1, cells := 0, slots := 0, locals := 14 } : Room)) (fun ar U => ar = #[(.ref a), (.int 1)] ∧ Z.Warmed39 U.vm ∧ U.heap = h0) (fun _ _ _ _ _ => True) (fun _ U oc U' => ∃ v L, oc = .returned v ∧ own_nx7_Q Z w_CA mr y1 y2 y3 a lp li k_lp k_li h0 n0 v U'.heap L ∧ FrameEnd U oc U' L ({ frames := 1, cells := 0, slots := 0, locals := 14 } : Room).cells ({ frames := 1, cells := 0, slots := 0, locals := 14 } : Room).slots) := by
  refine MetFree.of_bodySF (plainFor_of_name own_pn0) hisR ?_
  intro p e s m args below meth c s₁ Bd hml0 hP hK
  obtain ⟨rfl, hZ, hh⟩ := hP
  have hx := Bd.exec
  have hby := Bd.bytes
  have hml : c.maxLocals = 2 := hml0
  have hown : s.vm.findClass "com/example/libspoke/libspoke/wheel/EntryTable" = some m.cls := findClass_of_methodNamed Bd.named
  have hnm := (name_of_methodNamed Bd.named Bd.method).1
  have X0 : Stand p l e ({ frames := 1, cells := 0, slots := 0, locals := 14 } : Room) s m #[(.ref a), (.int 1)] below meth c s₁ [] 0 0 := Stand.of_body Bd
  have e0 : s₁.heap = h0 := by rw [← hh, Bd.state]; rfl
  have N0 := Fr.nil n0
  have pre0 : ∀ t, Steps p.tables e below (s₁.setTop (mkF m 0 #[rv a, iv 1] [])) t → Steps p.tables e below (s₁.setTop (entryFrame m #[(.ref a), (.int 1)] 2)) t := fun t k => castTop (own_nx7_ef m a) k
  obtain ⟨T1, X1, e1, st1⟩ := getF X0 hx hZ hown (host := "") (Or.inl (hw _ (own_m 26 rfl))) Via.refl e0 pF_a_linkPages (g := (mkF m 1 #[rv a, iv 1] [(.ref a)])) rfl rfl (hb hby own_d17_1)
  obtain ⟨c2, c2A, c2q, c2S, c2N, c2H, c2G⟩ := id pV_lp
  have c2in : ¬ ((0 : Int32) < 0 ∨ c2.slots.size ≤ ((0 : Int32)).toNatClampNeg) := inb_of c2S ⟨by decide, by decide⟩
  have c2at : c2.slots[((0 : Int32)).toNatClampNeg]? = some (.ref li) := Has.at c2H c2in rfl
  obtain ⟨_, _, ⟨T3, L3, k3, n3⟩, -, X3, ⟨Lc3, hQ3, l3, y3, z3⟩, st3⟩ := Jvm.LawKit.callS X1 hx (y := (⟨"com/example/libspoke/libspoke/wheel/EntryTable", "link", "(II)I"⟩ : MethodName)) hown (mvT hZ (hw _ (own_m 107 rfl))) (mvT hZ (hw _ (own_m 108 rfl))) (mvT hZ (hw _ (own_m 2 rfl))) (mvT hZ (hw _ (own_m 109 rfl))) (by decide) (backOf (W := 1) (own_lk l Z a0 hw [] w_CA mr y1 y2 y3 (1 : Int32) (0 : Int32) h0 n0 O0 S_HI S_CA M_OA H_y1 H_y2 H_y3 E_y1 E_y2 E_y3 ) hZ (hw _ (own_m 109 rfl)) (hw _ (own_m 2 rfl)) (by decide) (by decide)) (g := (mkF m 11 #[rv a, iv 1] [(.int 0), (.int 1), (.ref li)])) rfl (by rw [hml]; rfl) (argsL := [(.int 1), (.int 0)]) (rest := [(.ref li)]) (lenOf own_pd3 rfl) rfl (by show 2 * 0 + _ ≤ _; exact Nat.le_of_eq rfl) (hb hby own_d17_11) (fun _ _ => ⟨rfl, e1, (by decide : 0 + 0 ≤ _), (by decide : 0 + 0 ≤ _)⟩)
  dsimp only [Pt.U, Pt.locs, Pt.cells, Pt.slots] at X3 l3 y3 z3 st3 hQ3
  subst l3 y3 z3
  obtain ⟨rfl, N3q, e3⟩ := hQ3
  have N3 := Fr.app N0 N3q
  obtain ⟨c4, c4A, c4q, c4S, c4N, c4H, c4G⟩ := id pV_li
  have c4in : ¬ ((4 : Int32) < 0 ∨ c4.slots.size ≤ ((4 : Int32)).toNatClampNeg) := inb_of c4S ⟨by decide, by decide⟩
  have c4at : c4.slots[((4 : Int32)).toNatClampNeg]? = some (.int 2) := Has.at c4H c4in rfl
  obtain ⟨fs, hr, hrun, hended, hW, hsame⟩ := X3.leave (v := some (.int 2)) (fun h => by rw [Bd.returns] at h; cases h)
  refine ⟨_, _, pre0 _ ?_, hrun, hended, _, _, rfl, ?_, ⟨_, rfl⟩, hW, hsame.mono (by decide) (by decide)⟩
  · show Steps p.tables e below (s₁.setTop (mkF m 0 #[rv a, iv 1] [])) _
    refine XS.aloadN X0.here hx rfl (hb hby own_d17_0) rfl rfl ?_
    show Steps p.tables e below (s₁.setTop (mkF m 1 #[rv a, iv 1] [(.ref a)])) _
    refine st1 _ ?_
    show Steps p.tables e below (T1.setTop (mkF m 4 #[rv a, iv 1] [(.ref lp)])) _
    refine XS.iloadN X1.here hx rfl (hb hby own_d17_4) rfl ?_
    show Steps p.tables e below (T1.setTop (mkF m 5 #[rv a, iv 1] [(.int 1), (.ref lp)])) _
    refine XS.bipush X1.here hx rfl (hb hby own_d17_5) ?_
    show Steps p.tables e below (T1.setTop (mkF m 7 #[rv a, iv 1] [(.int 12), (.int 1), (.ref lp)])) _
    refine XS.iushr X1.here hx rfl (hb hby own_d17_7) rfl ?_
    show Steps p.tables e below (T1.setTop (mkF m 8 #[rv a, iv 1] [(.int (((1 : Int32).toUInt32 >>> ((12 : Int32) &&& 31).toUInt32).toInt32)), (.ref lp)])) _
    refine own_top (v' := (.int 0)) (congrArg Value.int (by decide)) ?_
    show Steps p.tables e below (T1.setTop (mkF m 8 #[rv a, iv 1] [(.int 0), (.ref lp)])) _
    refine X1.aaload hx (j := (0 : Int32)) (v := (.ref li)) (by rw [e1]; exact c2A.1) (State.isArrayOf_alike hZ.alike c2A.2.1) rfl c2A.2.2 c2in c2at (g := (mkF m 8 #[rv a, iv 1] [(.int 0), (.ref lp)])) rfl rfl (hb hby own_d17_8) _ ?_
    show Steps p.tables e below (T1.setTop (mkF m 9 #[rv a, iv 1] [(.ref li)])) _
    refine XS.iloadN X1.here hx rfl (hb hby own_d17_9) rfl ?_
    show Steps p.tables e below (T1.setTop (mkF m 10 #[rv a, iv 1] [(.int 1), (.ref li)])) _
    refine XS.iconst X1.here hx rfl (hb hby own_d17_10) ?_
    show Steps p.tables e below (T1.setTop (mkF m 11 #[rv a, iv 1] [(.int 0), (.int 1), (.ref li)])) _
    refine st3 _ ?_
    show Steps p.tables e below (T3.setTop (mkF m 14 #[rv a, iv 1] [(.int ((((1 : Int32) &&& (4095 : Int32)) <<< ((2 : Int32) &&& 31)) + (0 : Int32))), (.ref li)])) _
    refine own_top (v' := (.int 4)) (congrArg Value.int (by decide)) ?_
    show Steps p.tables e below (T3.setTop (mkF m 14 #[rv a, iv 1] [(.int 4), (.ref li)])) _
    refine X3.iaload hx (j := (4 : Int32)) (v := (.int 2)) (by rw [e3]; exact c4A.1) (State.isArrayOf_alike hZ.alike c4A.2.1) c4A.2.2 c4in c4at (g := (mkF m 14 #[rv a, iv 1] [(.int 4), (.ref li)])) rfl rfl (hb hby own_d17_14) _ ?_
    show Steps p.tables e below (T3.setTop (mkF m 15 #[rv a, iv 1] [(.int 2)])) _
    exact retI X3 hx Bd.returns (hb hby own_d17_15) hr
  · show own_nx7_Q Z w_CA mr y1 y2 y3 a lp li k_lp k_li h0 n0 _ T3.heap _
    rw [e3]
    exact ⟨rfl, N3, rfl⟩
theorem own_sd2_1_ef (m : MethodId) (a : Addr) (q0 : Int64) : entryFrame m #[(.ref a), (.int 1), (.long q0)] 4 = mkF m 0 #[rv a, iv 1, .val (.long q0), .second] [] := by first | (simp [entryFrame, mkF, argsToLocals, Value.category]; done) | rfl
def own_sd2_1_Q (Z : State) (w_CA : Addr) (mr : Addr) (y1 : Addr) (y2 : Addr) (y3 : Addr) (a : Addr) (dp : Addr) (lo : Addr) (k_dp : ClassId) (k_lo : ClassId) (d0 : Int64) (d1 : Int64) (q0 : Int64) (h0 : Heap) (n0 : Nat) (v : Option Value) (h : Heap) (L : List Loc) : Prop := v = none ∧ Fr n0 L ∧ Keep h0 h [lo] ∧ Arv Z h lo k_lo .long (16 : Int32) [(.long d0), (.long q0), (.long 0), (.long 0), (.long 0), (.long 0), (.long 0), (.long 0), (.long 0), (.long 0), (.long 0), (.long 0), (.long 0), (.long 0), (.long 0), (.long 0)] (.long 0)
set_option maxRecDepth 65536 in
set_option maxHeartbeats 40000000 in
theorem own_sd2_1 (l : Launch) (Z : State) (a0 : Array Value) (hw : ∀ d ∈ tables_1, d.before a0 Z = true) (ws : List Jvm.Cond) (w_CA : Addr) (mr : Addr) (y1 : Addr) (y2 : Addr) (y3 : Addr) (a : Addr) (dp : Addr) (lo : Addr) (k_dp : ClassId) (k_lo : ClassId) (d0 : Int64) (d1 : Int64) (q0 : Int64) (h0 : Heap) (n0 : Nat) (O0 : Old Z n0 h0) (S_HI : Sta Z Z.heap "java/lang/Integer$IntegerCache" "high" "I" (.int 127)) (S_CA : Sta Z Z.heap "java/lang/Integer$IntegerCache" "cache" "[Ljava/lang/Integer;" (.ref w_CA)) (M_OA : own_Mir Z "[Ljava/lang/Object;" mr) (H_y1 : own_At Z w_CA (129 : Int32) y1) (H_y2 : own_At Z w_CA (130 : Int32) y2) (H_y3 : own_At Z w_CA (131 : Int32) y3) (E_y1 : Exa Z Z.heap y1 "java/lang/Integer") (E_y2 : Exa Z Z.heap y2 "java/lang/Integer") (E_y3 : Exa Z Z.heap y3 "java/lang/Integer") (hG : ∀ x ∈ ([a, dp, lo] : List Addr), n0 ≤ x) (hN : own_Nd [a, dp, lo]) (pE_a : Exa Z h0 a "com/example/libspoke/libspoke/wheel/EntryTable") (pF_a_deadlinePages : Fld Z h0 a "com/example/libspoke/libspoke/wheel/EntryTable" "deadlinePages" "[[J" (.ref dp)) (pV_dp : Arv Z h0 dp k_dp (.array .long) (1 : Int32) [(.ref lo)] .null) (pV_lo : Arv Z h0 lo k_lo .long (16 : Int32) [(.long d0), (.long d1), (.long 0), (.long 0), (.long 0), (.long 0), (.long 0), (.long 0), (.long 0), (.long 0), (.long 0), (.long 0), (.long 0), (.long 0), (.long 0), (.long 0)] (.long 0)) (O_dp : OvrA Z k_dp .long "[J") :
    MetFree l (⟨"com/example/libspoke/libspoke/wheel/EntryTable", "setDeadline", "(IJ)V"⟩ : MethodName) (head1 (Jvm.Cond.code (⟨"com/example/libspoke/libspoke/wheel/EntryTable", "setDeadline", "(IJ)V"⟩ : MethodName) prog_18_method_10_code 4 none :: ws) ({ frames := 0, cells := 0, slots := 0, locals := 0 } : Room)) (fun ar U => ar = #[(.ref a), (.int 1), (.long q0)] ∧ Z.Warmed39 U.vm ∧ U.heap = h0) (fun _ _ _ _ _ => True) (fun _ U oc U' => ∃ v L, oc = .returned v ∧ own_sd2_1_Q Z w_CA mr y1 y2 y3 a dp lo k_dp k_lo d0 d1 q0 h0 n0 v U'.heap L ∧ FrameEnd U oc U' L ({ frames := 0, cells := 0, slots := 0, locals := 0 } : Room).cells ({ frames := 0, cells := 0, slots := 0, locals := 0 } : Room).slots) := by
  refine MetFree.of_bodySF (plainFor_of_name own_pn0) hisR ?_
  intro p e s m args below meth c s₁ Bd hml0 hP hK
  obtain ⟨rfl, hZ, hh⟩ := hP
  have hx := Bd.exec
  have hby := Bd.bytes
  have hml : c.maxLocals = 4 := hml0
  have hown : s.vm.findClass "com/example/libspoke/libspoke/wheel/EntryTable" = some m.cls := findClass_of_methodNamed Bd.named
  have hnm := (name_of_methodNamed Bd.named Bd.method).1
  have X0 : Stand p l e ({ frames := 0, cells := 0, slots := 0, locals := 0 } : Room) s m #[(.ref a), (.int 1), (.long q0)] below meth c s₁ [] 0 0 := Stand.of_body Bd
  have e0 : s₁.heap = h0 := by rw [← hh, Bd.state]; rfl
  have N0 := Fr.nil n0
  have pre0 : ∀ t, Steps p.tables e below (s₁.setTop (mkF m 0 #[rv a, iv 1, .val (.long q0), .second] [])) t → Steps p.tables e below (s₁.setTop (entryFrame m #[(.ref a), (.int 1), (.long q0)] 4)) t := fun t k => castTop (own_sd2_1_ef m a q0) k
  have kp0 := Keep.refl h0 ([lo] : List Addr)
  have g_a : n0 ≤ a := hG _ (own_m 0 rfl)
  have g_dp : n0 ≤ dp := hG _ (own_m 1 rfl)
  have g_lo : n0 ≤ lo := hG _ (own_m 2 rfl)
  obtain ⟨T1, X1, e1, st1⟩ := getF X0 hx hZ hown (host := "") (Or.inl (hw _ (own_m 20 rfl))) Via.refl e0 pF_a_deadlinePages (g := (mkF m 1 #[rv a, iv 1, .val (.long q0), .second] [(.ref a)])) rfl rfl (hb hby own_d18_1)
  obtain ⟨c2, c2A, c2q, c2S, c2N, c2H, c2G⟩ := id pV_dp
  have c2in : ¬ ((0 : Int32) < 0 ∨ c2.slots.size ≤ ((0 : Int32)).toNatClampNeg) := inb_of c2S ⟨by decide, by decide⟩
  have c2at : c2.slots[((0 : Int32)).toNatClampNeg]? = some (.ref lo) := Has.at c2H c2in rfl
  obtain ⟨c3, c3A, c3q, c3S, c3N, c3H, c3G⟩ := id pV_lo
  have c3in : ¬ ((1 : Int32) < 0 ∨ c3.slots.size ≤ ((1 : Int32)).toNatClampNeg) := inb_of c3S ⟨by decide, by decide⟩
  obtain ⟨T4, h4, X4, e4, W4, st4⟩ := stJ X1 hx hZ e1 c3A (j := (1 : Int32)) c3in (g := (mkF m 15 #[rv a, iv 1, .val (.long q0), .second] [(.long q0), (.int 1), (.ref lo)])) rfl rfl (hb hby own_d18_15)
  have V4 : Arv Z h4 lo k_lo .long (16 : Int32) [(.long d0), (.long q0), (.long 0), (.long 0), (.long 0), (.long 0), (.long 0), (.long 0), (.long 0), (.long 0), (.long 0), (.long 0), (.long 0), (.long 0), (.long 0), (.long 0)] (.long 0) := Arv.set c3A c3q c3S c3N c3H c3G rfl W4 1 rfl (Nat.le_of_ble_eq_true rfl)
  have O5 := O0.wr W4 g_lo
  have kp6 := kp0.wr W4 (Or.inl (own_m 0 rfl))
  have N4 := Fr.snoc X4 N0 g_lo
  obtain ⟨fs, hr, hrun, hended, hW, hsame⟩ := X4.leave (v := none) (fun _ => rfl)
  refine ⟨_, _, pre0 _ ?_, hrun, hended, _, _, rfl, ?_, ⟨_, rfl⟩, hW, hsame.mono (by decide) (by decide)⟩
  · show Steps p.tables e below (s₁.setTop (mkF m 0 #[rv a, iv 1, .val (.long q0), .second] [])) _
    refine XS.aloadN X0.here hx rfl (hb hby own_d18_0) rfl rfl ?_
    show Steps p.tables e below (s₁.setTop (mkF m 1 #[rv a, iv 1, .val (.long q0), .second] [(.ref a)])) _
    refine st1 _ ?_
    show Steps p.tables e below (T1.setTop (mkF m 4 #[rv a, iv 1, .val (.long q0), .second] [(.ref dp)])) _
    refine XS.iloadN X1.here hx rfl (hb hby own_d18_4) rfl ?_
    show Steps p.tables e below (T1.setTop (mkF m 5 #[rv a, iv 1, .val (.long q0), .second] [(.int 1), (.ref dp)])) _
    refine XS.bipush X1.here hx rfl (hb hby own_d18_5) ?_
    show Steps p.tables e below (T1.setTop (mkF m 7 #[rv a, iv 1, .val (.long q0), .second] [(.int 12), (.int 1), (.ref dp)])) _
    refine XS.iushr X1.here hx rfl (hb hby own_d18_7) rfl ?_
    show Steps p.tables e below (T1.setTop (mkF m 8 #[rv a, iv 1, .val (.long q0), .second] [(.int (((1 : Int32).toUInt32 >>> ((12 : Int32) &&& 31).toUInt32).toInt32)), (.ref dp)])) _
    refine own_top (v' := (.int 0)) (congrArg Value.int (by decide)) ?_
    show Steps p.tables e below (T1.setTop (mkF m 8 #[rv a, iv 1, .val (.long q0), .second] [(.int 0), (.ref dp)])) _
    refine X1.aaload hx (j := (0 : Int32)) (v := (.ref lo)) (by rw [e1]; exact c2A.1) (State.isArrayOf_alike hZ.alike c2A.2.1) rfl c2A.2.2 c2in c2at (g := (mkF m 8 #[rv a, iv 1, .val (.long q0), .second] [(.int 0), (.ref dp)])) rfl rfl (hb hby own_d18_8) _ ?_
    show Steps p.tables e below (T1.setTop (mkF m 9 #[rv a, iv 1, .val (.long q0), .second] [(.ref lo)])) _
    refine XS.iloadN X1.here hx rfl (hb hby own_d18_9) rfl ?_
    show Steps p.tables e below (T1.setTop (mkF m 10 #[rv a, iv 1, .val (.long q0), .second] [(.int 1), (.ref lo)])) _
    refine XS.sipush X1.here hx rfl (hb hby own_d18_10) ?_
    show Steps p.tables e below (T1.setTop (mkF m 13 #[rv a, iv 1, .val (.long q0), .second] [(.int 4095), (.int 1), (.ref lo)])) _
    refine XS.iand X1.here hx rfl (hb hby own_d18_13) rfl ?_
    show Steps p.tables e below (T1.setTop (mkF m 14 #[rv a, iv 1, .val (.long q0), .second] [(.int ((1 : Int32) &&& (4095 : Int32))), (.ref lo)])) _
    refine own_top (v' := (.int 1)) (congrArg Value.int (by decide)) ?_
    show Steps p.tables e below (T1.setTop (mkF m 14 #[rv a, iv 1, .val (.long q0), .second] [(.int 1), (.ref lo)])) _
    refine XS.lloadN X1.here hx rfl (hb hby own_d18_14) rfl ?_
    show Steps p.tables e below (T1.setTop (mkF m 15 #[rv a, iv 1, .val (.long q0), .second] [(.long q0), (.int 1), (.ref lo)])) _
    refine st4 _ ?_
    show Steps p.tables e below (T4.setTop (mkF m 16 #[rv a, iv 1, .val (.long q0), .second] [])) _
    exact X4.returnOut hx Bd.returns (hb hby own_d18_16) hr
  · show own_sd2_1_Q Z w_CA mr y1 y2 y3 a dp lo k_dp k_lo d0 d1 q0 h0 n0 _ T4.heap _
    rw [e4]
    exact ⟨rfl, N4, kp6, V4⟩
theorem own_add7_ef (m : MethodId) (y3 : Addr) (a : Addr) (q0 : Int64) : entryFrame m #[(.ref a), (.ref y3), (.long q0)] 6 = mkF m 0 #[rv a, rv y3, .val (.long q0), .second, .unset, .unset] [] := by first | (simp [entryFrame, mkF, argsToLocals, Value.category]; done) | rfl
def own_add7_Q (Z : State) (w_CA : Addr) (mr : Addr) (y1 : Addr) (y2 : Addr) (y3 : Addr) (a : Addr) (ip : Addr) (dp : Addr) (lp : Addr) (ps : Addr) (pf : Addr) (pg : Addr) (pt : Addr) (io : Addr) (lo : Addr) (li : Addr) (pb : Addr) (wb : Addr) (k_ip : ClassId) (k_io : ClassId) (k_dp : ClassId) (k_lo : ClassId) (k_lp : ClassId) (k_li : ClassId) (k_ps : ClassId) (k_pf : ClassId) (k_pb : ClassId) (k_wb : ClassId) (d0 : Int64) (d1 : Int64) (q0 : Int64) (h0 : Heap) (n0 : Nat) (v : Option Value) (h : Heap) (L : List Loc) : Prop := v = some (.int 1) ∧ Fr n0 L ∧ Keep h0 h [a, io, lo, ps, pf] ∧ Exa Z h a "com/example/libspoke/libspoke/wheel/EntryTable" ∧ Fld Z h a "com/example/libspoke/libspoke/wheel/EntryTable" "itemPages" "[[Ljava/lang/Object;" (.ref ip) ∧ Fld Z h a "com/example/libspoke/libspoke/wheel/EntryTable" "deadlinePages" "[[J" (.ref dp) ∧ Fld Z h a "com/example/libspoke/libspoke/wheel/EntryTable" "linkPages" "[[I" (.ref lp) ∧ Fld Z h a "com/example/libspoke/libspoke/wheel/EntryTable" "pageSizes" "[I" (.ref ps) ∧ Fld Z h a "com/example/libspoke/libspoke/wheel/EntryTable" "pageFirstFree" "[I" (.ref pf) ∧ Fld Z h a "com/example/libspoke/libspoke/wheel/EntryTable" "pageGenerations" "[I" (.ref pg) ∧ Fld Z h a "com/example/libspoke/libspoke/wheel/EntryTable" "pagesWithRoom" "Lcom/example/libspoke/libspoke/wheel/EntryTable$PageSet;" (.ref pt) ∧ Fld Z h a "com/example/libspoke/libspoke/wheel/EntryTable" "sparePage" "I" (.int (-1)) ∧ Fld Z h a "com/example/libspoke/libspoke/wheel/EntryTable" "size" "I" (.int 2) ∧ Fld Z h a "com/example/libspoke/libspoke/wheel/EntryTable" "capacity" "I" (.int 16) ∧ Arv Z h io k_io (.object "java/lang/Object") (16 : Int32) [(.ref y1), (.ref y3), .null, .null, .null, .null, .null, .null, .null, .null, .null, .null, .null, .null, .null, .null] .null ∧ Arv Z h lo k_lo .long (16 : Int32) [(.long d0), (.long q0), (.long 0), (.long 0), (.long 0), (.long 0), (.long 0), (.long 0), (.long 0), (.long 0), (.long 0), (.long 0), (.long 0), (.long 0), (.long 0), (.long 0)] (.long 0) ∧ Arv Z h ps k_ps .int (1 : Int32) [(.int 2)] (.int 0) ∧ Arv Z h pf k_pf .int (1 : Int32) [(.int 2)] (.int 0)
set_option maxRecDepth 65536 in
set_option maxHeartbeats 40000000 in
theorem own_add7 (l : Launch) (Z : State) (a0 : Array Value) (hw : ∀ d ∈ tables_1, d.before a0 Z = true) (ws : List Jvm.Cond) (w_CA : Addr) (mr : Addr) (y1 : Addr) (y2 : Addr) (y3 : Addr) (a : Addr) (ip : Addr) (dp : Addr) (lp : Addr) (ps : Addr) (pf : Addr) (pg : Addr) (pt : Addr) (io : Addr) (lo : Addr) (li : Addr) (pb : Addr) (wb : Addr) (k_ip : ClassId) (k_io : ClassId) (k_dp : ClassId) (k_lo : ClassId) (k_lp : ClassId) (k_li : ClassId) (k_ps : ClassId) (k_pf : ClassId) (k_pb : ClassId) (k_wb : ClassId) (d0 : Int64) (d1 : Int64) (q0 : Int64) (h0 : Heap) (n0 : Nat) (O0 : Old Z n0 h0) (S_HI : Sta Z Z.heap "java/lang/Integer$IntegerCache" "high" "I" (.int 127)) (S_CA : Sta Z Z.heap "java/lang/Integer$IntegerCache" "cache" "[Ljava/lang/Integer;" (.ref w_CA)) (M_OA : own_Mir Z "[Ljava/lang/Object;" mr) (H_y1 : own_At Z w_CA (129 : Int32) y1) (H_y2 : own_At Z w_CA (130 : Int32) y2) (H_y3 : own_At Z w_CA (131 : Int32) y3) (E_y1 : Exa Z Z.heap y1 "java/lang/Integer") (E_y2 : Exa Z Z.heap y2 "java/lang/Integer") (E_y3 : Exa Z Z.heap y3 "java/lang/Integer") (hG : ∀ x ∈ ([a, ip, io, dp, lo, lp, li, ps, pf, pt, pb, wb] : List Addr), n0 ≤ x) (hN : own_Nd [a, ip, io, dp, lo, lp, li, ps, pf, pt, pb, wb]) (pE_a : Exa Z h0 a "com/example/libspoke/libspoke/wheel/EntryTable") (pF_a_itemPages : Fld Z h0 a "com/example/libspoke/libspoke/wheel/EntryTable" "itemPages" "[[Ljava/lang/Object;" (.ref ip)) (pF_a_deadlinePages : Fld Z h0 a "com/example/libspoke/libspoke/wheel/EntryTable" "deadlinePages" "[[J" (.ref dp)) (pF_a_linkPages : Fld Z h0 a "com/example/libspoke/libspoke/wheel/EntryTable" "linkPages" "[[I" (.ref lp)) (pF_a_pageSizes : Fld Z h0 a "com/example/libspoke/libspoke/wheel/EntryTable" "pageSizes" "[I" (.ref ps)) (pF_a_pageFirstFree : Fld Z h0 a "com/example/libspoke/libspoke/wheel/EntryTable" "pageFirstFree" "[I" (.ref pf)) (pF_a_pageGenerations : Fld Z h0 a "com/example/libspoke/libspoke/wheel/EntryTable" "pageGenerations" "[I" (.ref pg)) (pF_a_pagesWithRoom : Fld Z h0 a "com/example/libspoke/libspoke/wheel/EntryTable" "pagesWithRoom" "Lcom/example/libspoke/libspoke/wheel/EntryTable$PageSet;" (.ref pt)) (pF_a_sparePage : Fld Z h0 a "com/example/libspoke/libspoke/wheel/EntryTable" "sparePage" "I" (.int (-1))) (pF_a_size : Fld Z h0 a "com/example/libspoke/libspoke/wheel/EntryTable" "size" "I" (.int 1)) (pF_a_capacity : Fld Z h0 a "com/example/libspoke/libspoke/wheel/EntryTable" "capacity" "I" (.int 16)) (pV_ip : Arv Z h0 ip k_ip (.array (.object "java/lang/Object")) (1 : Int32) [(.ref io)] .null) (pV_io : Arv Z h0 io k_io (.object "java/lang/Object") (16 : Int32) [(.ref y1), .null, .null, .null, .null, .null, .null, .null, .null, .null, .null, .null, .null, .null, .null, .null] .null) (pV_dp : Arv Z h0 dp k_dp (.array .long) (1 : Int32) [(.ref lo)] .null) (pV_lo : Arv Z h0 lo k_lo .long (16 : Int32) [(.long d0), (.long d1), (.long 0), (.long 0), (.long 0), (.long 0), (.long 0), (.long 0), (.long 0), (.long 0), (.long 0), (.long 0), (.long 0), (.long 0), (.long 0), (.long 0)] (.long 0)) (pV_lp : Arv Z h0 lp k_lp (.array .int) (1 : Int32) [(.ref li)] .null) (pV_li : Arv Z h0 li k_li .int (64 : Int32) [(.int 1), (.int 0), (.int 0), (.int 0), (.int 2), (.int 0), (.int 0), (.int 1), (.int 3), (.int 0), (.int 0), (.int 0), (.int 4), (.int 0), (.int 0), (.int 0), (.int 5), (.int 0), (.int 0), (.int 0), (.int 6), (.int 0), (.int 0), (.int 0), (.int 7), (.int 0), (.int 0), (.int 0), (.int 8), (.int 0), (.int 0), (.int 0), (.int 9), (.int 0), (.int 0), (.int 0), (.int 10), (.int 0), (.int 0), (.int 0), (.int 11), (.int 0), (.int 0), (.int 0), (.int 12), (.int 0), (.int 0), (.int 0), (.int 13), (.int 0), (.int 0), (.int 0), (.int 14), (.int 0), (.int 0), (.int 0), (.int 15), (.int 0), (.int 0), (.int 0), (.int (-1)), (.int 0), (.int 0), (.int 0)] (.int 0)) (pV_ps : Arv Z h0 ps k_ps .int (1 : Int32) [(.int 1)] (.int 0)) (pV_pf : Arv Z h0 pf k_pf .int (1 : Int32) [(.int 1)] (.int 0)) (pE_pt : Exa Z h0 pt "com/example/libspoke/libspoke/wheel/EntryTable$PageSet") (pF_pt_pageBits : Fld Z h0 pt "com/example/libspoke/libspoke/wheel/EntryTable$PageSet" "pageBits" "[J" (.ref pb)) (pF_pt_wordBits : Fld Z h0 pt "com/example/libspoke/libspoke/wheel/EntryTable$PageSet" "wordBits" "[J" (.ref wb)) (pV_pb : Arv Z h0 pb k_pb .long (1 : Int32) [(.long 1)] (.long 0)) (pV_wb : Arv Z h0 wb k_wb .long (1 : Int32) [(.long 1)] (.long 0)) (O_ip : OvrA Z k_ip (.object "java/lang/Object") "[Ljava/lang/Object;") (O_io : Ovr Z k_io "java/lang/Object") (O_dp : OvrA Z k_dp .long "[J") (O_lp : OvrA Z k_lp .int "[I") :
    MetFree l (⟨"com/example/libspoke/libspoke/wheel/EntryTable", "add", "(Ljava/lang/Object;J)I"⟩ : MethodName) (head1 (Jvm.Cond.code (⟨"com/example/libspoke/libspoke/wheel/EntryTable", "add", "(Ljava/lang/Object;J)I"⟩ : MethodName) prog_18_method_2_code 6 (some .int) :: ws) ({ frames := 3, cells := 0, slots := 0, locals := 42 } : Room)) (fun ar U => ar = #[(.ref a), (.ref y3), (.long q0)] ∧ Z.Warmed39 U.vm ∧ U.heap = h0) (fun _ _ _ _ _ => True) (fun _ U oc U' => ∃ v L, oc = .returned v ∧ own_add7_Q Z w_CA mr y1 y2 y3 a ip dp lp ps pf pg pt io lo li pb wb k_ip k_io k_dp k_lo k_lp k_li k_ps k_pf k_pb k_wb d0 d1 q0 h0 n0 v U'.heap L ∧ FrameEnd U oc U' L ({ frames := 3, cells := 0, slots := 0, locals := 42 } : Room).cells ({ frames := 3, cells := 0, slots := 0, locals := 42 } : Room).slots) := by
  refine MetFree.of_bodySF (plainFor_of_name own_pn0) hisR ?_
  intro p e s m args below meth c s₁ Bd hml0 hP hK
  obtain ⟨rfl, hZ, hh⟩ := hP
  have hx := Bd.exec
  have hby := Bd.bytes
  have hml : c.maxLocals = 6 := hml0
  have hown : s.vm.findClass "com/example/libspoke/libspoke/wheel/EntryTable" = some m.cls := findClass_of_methodNamed Bd.named
  have hnm := (name_of_methodNamed Bd.named Bd.method).1
  have X0 : Stand p l e ({ frames := 3, cells := 0, slots := 0, locals := 42 } : Room) s m #[(.ref a), (.ref y3), (.long q0)] below meth c s₁ [] 0 0 := Stand.of_body Bd
  have e0 : s₁.heap = h0 := by rw [← hh, Bd.state]; rfl
  have N0 := Fr.nil n0
  have pre0 : ∀ t, Steps p.tables e below (s₁.setTop (mkF m 0 #[rv a, rv y3, .val (.long q0), .second, .unset, .unset] [])) t → Steps p.tables e below (s₁.setTop (entryFrame m #[(.ref a), (.ref y3), (.long q0)] 6)) t := fun t k => castTop (own_add7_ef m y3 a q0) k
  have kp0 := Keep.refl h0 ([a, io, lo, ps, pf] : List Addr)
  have g_a : n0 ≤ a := hG _ (own_m 0 rfl)
  have g_ip : n0 ≤ ip := hG _ (own_m 1 rfl)
  have g_io : n0 ≤ io := hG _ (own_m 2 rfl)
  have g_dp : n0 ≤ dp := hG _ (own_m 3 rfl)
  have g_lo : n0 ≤ lo := hG _ (own_m 4 rfl)
  have g_lp : n0 ≤ lp := hG _ (own_m 5 rfl)
  have g_li : n0 ≤ li := hG _ (own_m 6 rfl)
  have g_ps : n0 ≤ ps := hG _ (own_m 7 rfl)
  have g_pf : n0 ≤ pf := hG _ (own_m 8 rfl)
  have g_pt : n0 ≤ pt := hG _ (own_m 9 rfl)
  have g_pb : n0 ≤ pb := hG _ (own_m 10 rfl)
  have g_wb : n0 ≤ wb := hG _ (own_m 11 rfl)
  obtain ⟨T1, X1, e1, st1⟩ := getF X0 hx hZ hown (host := "") (Or.inl (hw _ (own_m 45 rfl))) Via.refl e0 pF_a_pagesWithRoom (g := (mkF m 1 #[rv a, rv y3, .val (.long q0), .second, .unset, .unset] [(.ref a)])) rfl rfl (hb hby own_d5_1)
  obtain ⟨cq2, kq2, q2a, q2b, q2c⟩ := isOf hZ e1 pE_pt
  obtain ⟨_, _, ⟨T2, L2, k2, n2⟩, -, X2, ⟨Lc2, hQ2, l2, y2, z2⟩, st2⟩ := X1.virtualBack hx (y := (⟨"com/example/libspoke/libspoke/wheel/EntryTable$PageSet", "lowest", "()I"⟩ : MethodName)) (z := (⟨"com/example/libspoke/libspoke/wheel/EntryTable$PageSet", "lowest", "()I"⟩ : MethodName)) hown (mvT hZ (hw _ (own_m 61 rfl))) (mvT hZ (hw _ (own_m 62 rfl))) (notFace_of_selects (args := #[]) (mvT hZ (hw _ (own_m 64 rfl)))) (mvT hZ (hw _ (own_m 64 rfl))) (mvT hZ (hw _ (own_m 63 rfl))) (by decide) (backOf (W := 0) (own_low1 l Z a0 hw [] w_CA mr y1 y2 y3 pt pb wb k_pb k_wb h0 n0 O0 S_HI S_CA M_OA H_y1 H_y2 H_y3 E_y1 E_y2 E_y3 pE_pt pF_pt_pageBits pF_pt_wordBits pV_pb pV_wb) hZ (hw _ (own_m 65 rfl)) (hw _ (own_m 36 rfl)) (by decide) (by decide)) q2a q2c (g := (mkF m 4 #[rv a, rv y3, .val (.long q0), .second, .unset, .unset] [(.ref pt)])) rfl (by rw [hml]; rfl) (Steps.refl _) (argsL := []) (rest := []) (lenOf own_pd10 rfl) rfl (by show 2 * 0 + _ ≤ _; exact Nat.le_of_eq rfl) (hb hby own_d5_4) (fun _ _ => ⟨rfl, e1, (by decide : 0 + 0 ≤ _), (by decide : 0 + 0 ≤ _)⟩)
  dsimp only [Pt.U, Pt.locs, Pt.cells, Pt.slots] at X2 l2 y2 z2 st2 hQ2
  subst l2 y2 z2
  obtain ⟨rfl, N2q, e2⟩ := hQ2
  have N2 := Fr.app N0 N2q
  obtain ⟨T3, X3, e3, st3⟩ := getF X2 hx hZ hown (host := "") (Or.inl (hw _ (own_m 30 rfl))) Via.refl e2 pF_a_pageFirstFree (g := (mkF m 22 #[rv a, rv y3, .val (.long q0), .second, iv 0, .unset] [(.ref a)])) rfl rfl (hb hby own_d5_22)
  obtain ⟨c4, c4A, c4q, c4S, c4N, c4H, c4G⟩ := id pV_pf
  have c4in : ¬ ((0 : Int32) < 0 ∨ c4.slots.size ≤ ((0 : Int32)).toNatClampNeg) := inb_of c4S ⟨by decide, by decide⟩
  have c4at : c4.slots[((0 : Int32)).toNatClampNeg]? = some (.int 1) := Has.at c4H c4in rfl
  obtain ⟨T5, X5, e5, st5⟩ := getF X3 hx hZ hown (host := "") (Or.inl (hw _ (own_m 30 rfl))) Via.refl e3 pF_a_pageFirstFree (g := (mkF m 31 #[rv a, rv y3, .val (.long q0), .second, iv 0, iv 1] [(.ref a)])) rfl rfl (hb hby own_d5_31)
  obtain ⟨cq6, kq6, q6a, q6b, q6c⟩ := isOf hZ e5 pE_a
  obtain ⟨_, _, ⟨T6, L6, k6, n6⟩, -, X6, ⟨Lc6, hQ6, l6, y6, z6⟩, st6⟩ := X5.virtualBack hx (y := (⟨"com/example/libspoke/libspoke/wheel/EntryTable", "next", "(I)I"⟩ : MethodName)) (z := (⟨"com/example/libspoke/libspoke/wheel/EntryTable", "next", "(I)I"⟩ : MethodName)) hown (mvT hZ (hw _ (own_m 115 rfl))) (mvT hZ (hw _ (own_m 116 rfl))) (notFace_of_selects (args := #[]) (mvT hZ (hw _ (own_m 118 rfl)))) (mvT hZ (hw _ (own_m 118 rfl))) (mvT hZ (hw _ (own_m 117 rfl))) (by decide) (backOf (W := 2) (own_nx7 l Z a0 hw [] w_CA mr y1 y2 y3 a lp li k_lp k_li h0 n0 O0 S_HI S_CA M_OA H_y1 H_y2 H_y3 E_y1 E_y2 E_y3 pE_a pF_a_linkPages pV_lp pV_li O_lp) hZ (hw _ (own_m 119 rfl)) (hw _ (own_m 2 rfl)) (by decide) (by decide)) q6a q6c (g := (mkF m 39 #[rv a, rv y3, .val (.long q0), .second, iv 0, iv 1] [(.int 1), (.ref a), (.int 0), (.ref pf)])) rfl (by rw [hml]; rfl) (Steps.refl _) (argsL := [(.int 1)]) (rest := [(.int 0), (.ref pf)]) (lenOf own_pd0 rfl) rfl (by show 2 * 0 + _ ≤ _; exact Nat.le_of_eq rfl) (hb hby own_d5_39) (fun _ _ => ⟨rfl, e5, (by decide : 0 + 0 ≤ _), (by decide : 0 + 0 ≤ _)⟩)
  dsimp only [Pt.U, Pt.locs, Pt.cells, Pt.slots] at X6 l6 y6 z6 st6 hQ6
  subst l6 y6 z6
  obtain ⟨rfl, N6q, e6⟩ := hQ6
  have N6 := Fr.app N2 N6q
  obtain ⟨c7, c7A, c7q, c7S, c7N, c7H, c7G⟩ := id pV_pf
  have c7in : ¬ ((0 : Int32) < 0 ∨ c7.slots.size ≤ ((0 : Int32)).toNatClampNeg) := inb_of c7S ⟨by decide, by decide⟩
  obtain ⟨T8, h8, X8, e8, W8, st8⟩ := stI X6 hx hZ e6 c7A (j := (0 : Int32)) c7in (g := (mkF m 42 #[rv a, rv y3, .val (.long q0), .second, iv 0, iv 1] [(.int 2), (.int 0), (.ref pf)])) rfl rfl (hb hby own_d5_42)
  have V8 : Arv Z h8 pf k_pf .int (1 : Int32) [(.int 2)] (.int 0) := Arv.set c7A c7q c7S c7N c7H c7G rfl W8 0 rfl (Nat.le_of_ble_eq_true rfl)
  have O9 := O0.wr W8 g_pf
  have kp10 := kp0.wr W8 (Or.inl (own_m 4 rfl))
  have N8 := Fr.snoc X8 N6 g_pf
  have n11 : a ≠ pf := (own_ne hN (i := 0) (j := 8) rfl rfl (by decide))
  have f12 := (pF_a_pageFirstFree.other W8 (Or.inl n11))
  obtain ⟨T13, X13, e13, st13⟩ := getF X8 hx hZ hown (host := "") (Or.inl (hw _ (own_m 30 rfl))) Via.refl e8 f12 (g := (mkF m 44 #[rv a, rv y3, .val (.long q0), .second, iv 0, iv 1] [(.ref a)])) rfl rfl (hb hby own_d5_44)
  obtain ⟨c14, c14A, c14q, c14S, c14N, c14H, c14G⟩ := id V8
  have c14in : ¬ ((0 : Int32) < 0 ∨ c14.slots.size ≤ ((0 : Int32)).toNatClampNeg) := inb_of c14S ⟨by decide, by decide⟩
  have c14at : c14.slots[((0 : Int32)).toNatClampNeg]? = some (.int 2) := Has.at c14H c14in rfl
  have f15 := (pF_a_sparePage.other W8 (Or.inl n11))
  obtain ⟨T16, X16, e16, st16⟩ := getF X13 hx hZ hown (host := "") (Or.inl (hw _ (own_m 47 rfl))) Via.refl e13 f15 (g := (mkF m 66 #[rv a, rv y3, .val (.long q0), .second, iv 0, iv 1] [(.ref a), (.int 0)])) rfl rfl (hb hby own_d5_66)
  have f17 := (pF_a_pageSizes.other W8 (Or.inl n11))
  obtain ⟨T18, X18, e18, st18⟩ := getF X16 hx hZ hown (host := "") (Or.inl (hw _ (own_m 28 rfl))) Via.refl e16 f17 (g := (mkF m 78 #[rv a, rv y3, .val (.long q0), .second, iv 0, iv 1] [(.ref a)])) rfl rfl (hb hby own_d5_78)
  have n19 : ps ≠ pf := (own_ne hN (i := 7) (j := 8) rfl rfl (by decide))
  have f20 := (pV_ps.other W8 n19)
  obtain ⟨c21, c21A, c21q, c21S, c21N, c21H, c21G⟩ := id f20
  have c21in : ¬ ((0 : Int32) < 0 ∨ c21.slots.size ≤ ((0 : Int32)).toNatClampNeg) := inb_of c21S ⟨by decide, by decide⟩
  have c21at : c21.slots[((0 : Int32)).toNatClampNeg]? = some (.int 1) := Has.at c21H c21in rfl
  obtain ⟨c22, c22A, c22q, c22S, c22N, c22H, c22G⟩ := id f20
  have c22in : ¬ ((0 : Int32) < 0 ∨ c22.slots.size ≤ ((0 : Int32)).toNatClampNeg) := inb_of c22S ⟨by decide, by decide⟩
  obtain ⟨T23, h23, X23, e23, W23, st23⟩ := stI X18 hx hZ e18 c22A (j := (0 : Int32)) c22in (g := (mkF m 87 #[rv a, rv y3, .val (.long q0), .second, iv 0, iv 1] [(.int 2), (.int 0), (.ref ps)])) rfl rfl (hb hby own_d5_87)
  have V23 : Arv Z h23 ps k_ps .int (1 : Int32) [(.int 2)] (.int 0) := Arv.set c22A c22q c22S c22N c22H c22G rfl W23 0 rfl (Nat.le_of_ble_eq_true rfl)
  have O24 := O9.wr W23 g_ps
  have kp25 := kp10.wr W23 (Or.inl (own_m 3 rfl))
  have N23 := Fr.snoc X23 N8 g_ps
  have n26 : a ≠ ps := (own_ne hN (i := 0) (j := 7) rfl rfl (by decide))
  have f27 := ((pF_a_itemPages.other W8 (Or.inl n11)).other W23 (Or.inl n26))
  obtain ⟨T28, X28, e28, st28⟩ := getF X23 hx hZ hown (host := "") (Or.inl (hw _ (own_m 14 rfl))) Via.refl e23 f27 (g := (mkF m 89 #[rv a, rv y3, .val (.long q0), .second, iv 0, iv 1] [(.ref a)])) rfl rfl (hb hby own_d5_89)
  have n29 : ip ≠ pf := (own_ne hN (i := 1) (j := 8) rfl rfl (by decide))
  have n30 : ip ≠ ps := (own_ne hN (i := 1) (j := 7) rfl rfl (by decide))
  have f31 := ((pV_ip.other W8 n29).other W23 n30)
  obtain ⟨c32, c32A, c32q, c32S, c32N, c32H, c32G⟩ := id f31
  have c32in : ¬ ((0 : Int32) < 0 ∨ c32.slots.size ≤ ((0 : Int32)).toNatClampNeg) := inb_of c32S ⟨by decide, by decide⟩
  have c32at : c32.slots[((0 : Int32)).toNatClampNeg]? = some (.ref io) := Has.at c32H c32in rfl
  have n33 : io ≠ pf := (own_ne hN (i := 2) (j := 8) rfl rfl (by decide))
  have n34 : io ≠ ps := (own_ne hN (i := 2) (j := 7) rfl rfl (by decide))
  have f35 := ((pV_io.other W8 n33).other W23 n34)
  obtain ⟨c36, c36A, c36q, c36S, c36N, c36H, c36G⟩ := id f35
  have c36in : ¬ ((1 : Int32) < 0 ∨ c36.slots.size ≤ ((1 : Int32)).toNatClampNeg) := inb_of c36S ⟨by decide, by decide⟩
  obtain ⟨T37, h37, X37, e37, W37, st37⟩ := stR X28 hx hZ e28 c36A (j := (1 : Int32)) c36in rfl (Sto.ofV c36A c36q O_io (Ins.of_exa (E_y3.ext O24.2) (hw _ (own_m 120 rfl)))) (g := (mkF m 102 #[rv a, rv y3, .val (.long q0), .second, iv 0, iv 1] [(.ref y3), (.int 1), (.ref io)])) rfl rfl (hb hby own_d5_102)
  have V37 : Arv Z h37 io k_io (.object "java/lang/Object") (16 : Int32) [(.ref y1), (.ref y3), .null, .null, .null, .null, .null, .null, .null, .null, .null, .null, .null, .null, .null, .null] .null := Arv.set c36A c36q c36S c36N c36H c36G rfl W37 1 rfl (Nat.le_of_ble_eq_true rfl)
  have O38 := O24.wr W37 g_io
  have kp39 := kp25.wr W37 (Or.inl (own_m 1 rfl))
  have N37 := Fr.snoc X37 N23 g_io
  have n40 : dp ≠ lo := (own_ne hN (i := 3) (j := 4) rfl rfl (by decide))
  have n41 : a ≠ lo := (own_ne hN (i := 0) (j := 4) rfl rfl (by decide))
  have n42 : a ≠ dp := (own_ne hN (i := 0) (j := 3) rfl rfl (by decide))
  have f43 := (((pE_a.wr W8).wr W23).wr W37)
  have n44 : a ≠ io := (own_ne hN (i := 0) (j := 2) rfl rfl (by decide))
  have f45 := (((pF_a_deadlinePages.other W8 (Or.inl n11)).other W23 (Or.inl n26)).other W37 (Or.inl n44))
  have n46 : dp ≠ pf := (own_ne hN (i := 3) (j := 8) rfl rfl (by decide))
  have n47 : dp ≠ ps := (own_ne hN (i := 3) (j := 7) rfl rfl (by decide))
  have n48 : dp ≠ io := (Ne.symm (own_ne hN (i := 2) (j := 3) rfl rfl (by decide)))
  have f49 := (((pV_dp.other W8 n46).other W23 n47).other W37 n48)
  have n50 : lo ≠ pf := (own_ne hN (i := 4) (j := 8) rfl rfl (by decide))
  have n51 : lo ≠ ps := (own_ne hN (i := 4) (j := 7) rfl rfl (by decide))
  have n52 : lo ≠ io := (Ne.symm (own_ne hN (i := 2) (j := 4) rfl rfl (by decide)))
  have f53 := (((pV_lo.other W8 n50).other W23 n51).other W37 n52)
  obtain ⟨cq54, kq54, q54a, q54b, q54c⟩ := isOf hZ e37 f43
  obtain ⟨_, _, ⟨T54, L54, k54, n54⟩, -, X54, ⟨Lc54, hQ54, l54, y54, z54⟩, st54⟩ := X37.virtualBack hx (y := (⟨"com/example/libspoke/libspoke/wheel/EntryTable", "setDeadline", "(IJ)V"⟩ : MethodName)) (z := (⟨"com/example/libspoke/libspoke/wheel/EntryTable", "setDeadline", "(IJ)V"⟩ : MethodName)) hown (mvT hZ (hw _ (own_m 121 rfl))) (mvT hZ (hw _ (own_m 122 rfl))) (notFace_of_selects (args := #[]) (mvT hZ (hw _ (own_m 124 rfl)))) (mvT hZ (hw _ (own_m 124 rfl))) (mvT hZ (hw _ (own_m 123 rfl))) (by decide) (backOf (W := 0) (own_sd2_1 l Z a0 hw [] w_CA mr y1 y2 y3 a dp lo k_dp k_lo d0 d1 q0 h37 n0 O38 S_HI S_CA M_OA H_y1 H_y2 H_y3 E_y1 E_y2 E_y3 (allS g_a (allS g_dp (allS g_lo all0))) (own_ndc (allS n42 (allS n41 all0)) (own_ndc (allS n40 all0) (own_ndc all0 own_nd0))) f43 f45 f49 f53 O_dp) hZ (hw _ (own_m 125 rfl)) (hw _ (own_m 2 rfl)) (by decide) (by decide)) q54a q54c (g := (mkF m 107 #[rv a, rv y3, .val (.long q0), .second, iv 0, iv 1] [(.long q0), (.int 1), (.ref a)])) rfl (by rw [hml]; rfl) (Steps.refl _) (argsL := [(.int 1), (.long q0)]) (rest := []) (lenOf own_pd11 rfl) rfl (by show 2 * 0 + _ ≤ _; exact Nat.le_of_eq rfl) (hb hby own_d5_107) (fun _ _ => ⟨rfl, e37, (by decide : 0 + 0 ≤ _), (by decide : 0 + 0 ≤ _)⟩)
  dsimp only [Pt.U, Pt.locs, Pt.cells, Pt.slots] at X54 l54 y54 z54 st54 hQ54
  subst l54 y54 z54
  obtain ⟨rfl, N54q, K54, q55⟩ := hQ54
  have N54 := Fr.app N37 N54q
  have O56 := O38.keep K54 (allS g_lo all0)
  have kp57 := kp39.trans K54 ((allS (P := fun x => x ∈ ([a, io, lo, ps, pf] : List Addr) ∨ h0.size ≤ x) (Or.inl (own_m 2 rfl)) all0))
  have f58 := ((((pF_a_size.other W8 (Or.inl n11)).other W23 (Or.inl n26)).other W37 (Or.inl n44)).keep K54 (ninS n41 nin0))
  obtain ⟨T59, X59, e59, st59⟩ := getF X54 hx hZ hown (host := "") (Or.inl (hw _ (own_m 126 rfl))) Via.refl rfl f58 (g := (mkF m 112 #[rv a, rv y3, .val (.long q0), .second, iv 0, iv 1] [(.ref a), (.ref a)])) rfl rfl (hb hby own_d5_112)
  have f60 := (f43.keep K54)
  obtain ⟨T61, h61, X61, e61, W61, st61⟩ := putF X59 hx hZ hown (host := "") (Or.inl (hw _ (own_m 126 rfl))) Via.refl e59 f58 f60 (Or.inl (hw _ (own_m 127 rfl))) (hw _ (own_m 1 rfl)) (ty := .int) (by decide) rfl rfl (g := (mkF m 117 #[rv a, rv y3, .val (.long q0), .second, iv 0, iv 1] [(.int 2), (.ref a)])) rfl rfl (hb hby own_d5_117)
  have Fw61 := f58.same W61
  have O62 := O56.wr W61 g_a
  have kp63 := kp57.wr W61 (Or.inl (own_m 0 rfl))
  have N61 := Fr.snoc X61 N54 g_a
  have f64 := (f60.wr W61)
  have f65 := (((f27.other W37 (Or.inl n44)).keep K54 (ninS n41 nin0)).other W61 (Or.inr (slot_ne (Or.inl (hw _ (own_m 15 rfl))) (Or.inl (hw _ (own_m 127 rfl))) (by decide) (t := (.array (.array (.object "java/lang/Object")))) (t' := .int) (by decide) (by decide))))
  have f66 := ((f45.keep K54 (ninS n41 nin0)).other W61 (Or.inr (slot_ne (Or.inl (hw _ (own_m 21 rfl))) (Or.inl (hw _ (own_m 127 rfl))) (by decide) (t := (.array (.array .long))) (t' := .int) (by decide) (by decide))))
  have f67 := (((((pF_a_linkPages.other W8 (Or.inl n11)).other W23 (Or.inl n26)).other W37 (Or.inl n44)).keep K54 (ninS n41 nin0)).other W61 (Or.inr (slot_ne (Or.inl (hw _ (own_m 27 rfl))) (Or.inl (hw _ (own_m 127 rfl))) (by decide) (t := (.array (.array .int))) (t' := .int) (by decide) (by decide))))
  have f68 := ((((f17.other W23 (Or.inl n26)).other W37 (Or.inl n44)).keep K54 (ninS n41 nin0)).other W61 (Or.inr (slot_ne (Or.inl (hw _ (own_m 29 rfl))) (Or.inl (hw _ (own_m 127 rfl))) (by decide) (t := (.array .int)) (t' := .int) (by decide) (by decide))))
  have f69 := ((((f12.other W23 (Or.inl n26)).other W37 (Or.inl n44)).keep K54 (ninS n41 nin0)).other W61 (Or.inr (slot_ne (Or.inl (hw _ (own_m 31 rfl))) (Or.inl (hw _ (own_m 127 rfl))) (by decide) (t := (.array .int)) (t' := .int) (by decide) (by decide))))
  have f70 := (((((pF_a_pageGenerations.other W8 (Or.inl n11)).other W23 (Or.inl n26)).other W37 (Or.inl n44)).keep K54 (ninS n41 nin0)).other W61 (Or.inr (slot_ne (Or.inl (hw _ (own_m 33 rfl))) (Or.inl (hw _ (own_m 127 rfl))) (by decide) (t := (.array .int)) (t' := .int) (by decide) (by decide))))
  have f71 := (((((pF_a_pagesWithRoom.other W8 (Or.inl n11)).other W23 (Or.inl n26)).other W37 (Or.inl n44)).keep K54 (ninS n41 nin0)).other W61 (Or.inr (slot_ne (Or.inr (hw _ (own_m 46 rfl))) (Or.inl (hw _ (own_m 127 rfl))) (by decide) (t := (.object "com/example/libspoke/libspoke/wheel/EntryTable$PageSet")) (t' := .int) (by decide) (by decide))))
  have f72 := ((((f15.other W23 (Or.inl n26)).other W37 (Or.inl n44)).keep K54 (ninS n41 nin0)).other W61 (Or.inr (slot_ne (Or.inl (hw _ (own_m 48 rfl))) (Or.inl (hw _ (own_m 127 rfl))) (by decide) (t := .int) (t' := .int) (by decide) (by decide))))
  have f73 := (((((pF_a_capacity.other W8 (Or.inl n11)).other W23 (Or.inl n26)).other W37 (Or.inl n44)).keep K54 (ninS n41 nin0)).other W61 (Or.inr (slot_ne (Or.inl (hw _ (own_m 71 rfl))) (Or.inl (hw _ (own_m 127 rfl))) (by decide) (t := .int) (t' := .int) (by decide) (by decide))))
  have n74 : io ≠ lo := (own_ne hN (i := 2) (j := 4) rfl rfl (by decide))
  have f75 := ((V37.keep K54 (ninS n74 nin0)).other W61 (Ne.symm n44))
  have f76 := (q55.other W61 (Ne.symm n41))
  have f77 := (((V23.other W37 (Ne.symm n34)).keep K54 (ninS (Ne.symm n51) nin0)).other W61 (Ne.symm n26))
  have f78 := ((((V8.other W23 (Ne.symm n19)).other W37 (Ne.symm n33)).keep K54 (ninS (Ne.symm n50) nin0)).other W61 (Ne.symm n11))
  obtain ⟨fs, hr, hrun, hended, hW, hsame⟩ := X61.leave (v := some (.int 1)) (fun h => by rw [Bd.returns] at h; cases h)
  refine ⟨_, _, pre0 _ ?_, hrun, hended, _, _, rfl, ?_, ⟨_, rfl⟩, hW, hsame.mono (by decide) (by decide)⟩
  · show Steps p.tables e below (s₁.setTop (mkF m 0 #[rv a, rv y3, .val (.long q0), .second, .unset, .unset] [])) _
    refine XS.aloadN X0.here hx rfl (hb hby own_d5_0) rfl rfl ?_
    show Steps p.tables e below (s₁.setTop (mkF m 1 #[rv a, rv y3, .val (.long q0), .second, .unset, .unset] [(.ref a)])) _
    refine st1 _ ?_
    show Steps p.tables e below (T1.setTop (mkF m 4 #[rv a, rv y3, .val (.long q0), .second, .unset, .unset] [(.ref pt)])) _
    refine st2.trans ?_
    show Steps p.tables e below (T2.setTop (mkF m 7 #[rv a, rv y3, .val (.long q0), .second, .unset, .unset] [(.int 0)])) _
    refine XS.istore X2.here hx rfl (hb hby own_d5_7) rfl (l' := #[rv a, rv y3, .val (.long q0), .second, iv 0, .unset]) rfl ?_
    show Steps p.tables e below (T2.setTop (mkF m 9 #[rv a, rv y3, .val (.long q0), .second, iv 0, .unset] [])) _
    refine XS.iload X2.here hx rfl (hb hby own_d5_9) rfl ?_
    show Steps p.tables e below (T2.setTop (mkF m 11 #[rv a, rv y3, .val (.long q0), .second, iv 0, .unset] [(.int 0)])) _
    refine XS.iconst X2.here hx rfl (hb hby own_d5_11) ?_
    show Steps p.tables e below (T2.setTop (mkF m 12 #[rv a, rv y3, .val (.long q0), .second, iv 0, .unset] [(.int (-1)), (.int 0)])) _
    refine XS.icmpYes X2.here hx rfl (pc0 := 12) (pc' := 21) rfl (hb hby own_d5_12) rfl (feq (by decide)).2 (by decide) (by decide) ?_
    show Steps p.tables e below (T2.setTop (mkF m 21 #[rv a, rv y3, .val (.long q0), .second, iv 0, .unset] [])) _
    refine XS.aloadN X2.here hx rfl (hb hby own_d5_21) rfl rfl ?_
    show Steps p.tables e below (T2.setTop (mkF m 22 #[rv a, rv y3, .val (.long q0), .second, iv 0, .unset] [(.ref a)])) _
    refine st3 _ ?_
    show Steps p.tables e below (T3.setTop (mkF m 25 #[rv a, rv y3, .val (.long q0), .second, iv 0, .unset] [(.ref pf)])) _
    refine XS.iload X3.here hx rfl (hb hby own_d5_25) rfl ?_
    show Steps p.tables e below (T3.setTop (mkF m 27 #[rv a, rv y3, .val (.long q0), .second, iv 0, .unset] [(.int 0), (.ref pf)])) _
    refine X3.iaload hx (j := (0 : Int32)) (v := (.int 1)) (by rw [e3]; exact c4A.1) (State.isArrayOf_alike hZ.alike c4A.2.1) c4A.2.2 c4in c4at (g := (mkF m 27 #[rv a, rv y3, .val (.long q0), .second, iv 0, .unset] [(.int 0), (.ref pf)])) rfl rfl (hb hby own_d5_27) _ ?_
    show Steps p.tables e below (T3.setTop (mkF m 28 #[rv a, rv y3, .val (.long q0), .second, iv 0, .unset] [(.int 1)])) _
    refine XS.istore X3.here hx rfl (hb hby own_d5_28) rfl (l' := #[rv a, rv y3, .val (.long q0), .second, iv 0, iv 1]) rfl ?_
    show Steps p.tables e below (T3.setTop (mkF m 30 #[rv a, rv y3, .val (.long q0), .second, iv 0, iv 1] [])) _
    refine XS.aloadN X3.here hx rfl (hb hby own_d5_30) rfl rfl ?_
    show Steps p.tables e below (T3.setTop (mkF m 31 #[rv a, rv y3, .val (.long q0), .second, iv 0, iv 1] [(.ref a)])) _
    refine st5 _ ?_
    show Steps p.tables e below (T5.setTop (mkF m 34 #[rv a, rv y3, .val (.long q0), .second, iv 0, iv 1] [(.ref pf)])) _
    refine XS.iload X5.here hx rfl (hb hby own_d5_34) rfl ?_
    show Steps p.tables e below (T5.setTop (mkF m 36 #[rv a, rv y3, .val (.long q0), .second, iv 0, iv 1] [(.int 0), (.ref pf)])) _
    refine XS.aloadN X5.here hx rfl (hb hby own_d5_36) rfl rfl ?_
    show Steps p.tables e below (T5.setTop (mkF m 37 #[rv a, rv y3, .val (.long q0), .second, iv 0, iv 1] [(.ref a), (.int 0), (.ref pf)])) _
    refine XS.iload X5.here hx rfl (hb hby own_d5_37) rfl ?_
    show Steps p.tables e below (T5.setTop (mkF m 39 #[rv a, rv y3, .val (.long q0), .second, iv 0, iv 1] [(.int 1), (.ref a), (.int 0), (.ref pf)])) _
    refine st6.trans ?_
    show Steps p.tables e below (T6.setTop (mkF m 42 #[rv a, rv y3, .val (.long q0), .second, iv 0, iv 1] [(.int 2), (.int 0), (.ref pf)])) _
    refine st8 _ ?_
    show Steps p.tables e below (T8.setTop (mkF m 43 #[rv a, rv y3, .val (.long q0), .second, iv 0, iv 1] [])) _
    refine XS.aloadN X8.here hx rfl (hb hby own_d5_43) rfl rfl ?_
    show Steps p.tables e below (T8.setTop (mkF m 44 #[rv a, rv y3, .val (.long q0), .second, iv 0, iv 1] [(.ref a)])) _
    refine st13 _ ?_
    show Steps p.tables e below (T13.setTop (mkF m 47 #[rv a, rv y3, .val (.long q0), .second, iv 0, iv 1] [(.ref pf)])) _
    refine XS.iload X13.here hx rfl (hb hby own_d5_47) rfl ?_
    show Steps p.tables e below (T13.setTop (mkF m 49 #[rv a, rv y3, .val (.long q0), .second, iv 0, iv 1] [(.int 0), (.ref pf)])) _
    refine X13.iaload hx (j := (0 : Int32)) (v := (.int 2)) (by rw [e13]; exact c14A.1) (State.isArrayOf_alike hZ.alike c14A.2.1) c14A.2.2 c14in c14at (g := (mkF m 49 #[rv a, rv y3, .val (.long q0), .second, iv 0, iv 1] [(.int 0), (.ref pf)])) rfl rfl (hb hby own_d5_49) _ ?_
    show Steps p.tables e below (T13.setTop (mkF m 50 #[rv a, rv y3, .val (.long q0), .second, iv 0, iv 1] [(.int 2)])) _
    refine XS.iconst X13.here hx rfl (hb hby own_d5_50) ?_
    show Steps p.tables e below (T13.setTop (mkF m 51 #[rv a, rv y3, .val (.long q0), .second, iv 0, iv 1] [(.int (-1)), (.int 2)])) _
    refine XS.icmpYes X13.here hx rfl (pc0 := 51) (pc' := 63) rfl (hb hby own_d5_51) rfl (feq (by decide)).2 (by decide) (by decide) ?_
    show Steps p.tables e below (T13.setTop (mkF m 63 #[rv a, rv y3, .val (.long q0), .second, iv 0, iv 1] [])) _
    refine XS.iload X13.here hx rfl (hb hby own_d5_63) rfl ?_
    show Steps p.tables e below (T13.setTop (mkF m 65 #[rv a, rv y3, .val (.long q0), .second, iv 0, iv 1] [(.int 0)])) _
    refine XS.aloadN X13.here hx rfl (hb hby own_d5_65) rfl rfl ?_
    show Steps p.tables e below (T13.setTop (mkF m 66 #[rv a, rv y3, .val (.long q0), .second, iv 0, iv 1] [(.ref a), (.int 0)])) _
    refine st16 _ ?_
    show Steps p.tables e below (T16.setTop (mkF m 69 #[rv a, rv y3, .val (.long q0), .second, iv 0, iv 1] [(.int (-1)), (.int 0)])) _
    refine XS.icmpYes X16.here hx rfl (pc0 := 69) (pc' := 77) rfl (hb hby own_d5_69) rfl (feq (by decide)).2 (by decide) (by decide) ?_
    show Steps p.tables e below (T16.setTop (mkF m 77 #[rv a, rv y3, .val (.long q0), .second, iv 0, iv 1] [])) _
    refine XS.aloadN X16.here hx rfl (hb hby own_d5_77) rfl rfl ?_
    show Steps p.tables e below (T16.setTop (mkF m 78 #[rv a, rv y3, .val (.long q0), .second, iv 0, iv 1] [(.ref a)])) _
    refine st18 _ ?_
    show Steps p.tables e below (T18.setTop (mkF m 81 #[rv a, rv y3, .val (.long q0), .second, iv 0, iv 1] [(.ref ps)])) _
    refine XS.iload X18.here hx rfl (hb hby own_d5_81) rfl ?_
    show Steps p.tables e below (T18.setTop (mkF m 83 #[rv a, rv y3, .val (.long q0), .second, iv 0, iv 1] [(.int 0), (.ref ps)])) _
    refine XT.dup2 X18.here hx rfl (hb hby own_d5_83) rfl rfl rfl ?_
    show Steps p.tables e below (T18.setTop (mkF m 84 #[rv a, rv y3, .val (.long q0), .second, iv 0, iv 1] [(.int 0), (.ref ps), (.int 0), (.ref ps)])) _
    refine X18.iaload hx (j := (0 : Int32)) (v := (.int 1)) (by rw [e18]; exact c21A.1) (State.isArrayOf_alike hZ.alike c21A.2.1) c21A.2.2 c21in c21at (g := (mkF m 84 #[rv a, rv y3, .val (.long q0), .second, iv 0, iv 1] [(.int 0), (.ref ps), (.int 0), (.ref ps)])) rfl rfl (hb hby own_d5_84) _ ?_
    show Steps p.tables e below (T18.setTop (mkF m 85 #[rv a, rv y3, .val (.long q0), .second, iv 0, iv 1] [(.int 1), (.int 0), (.ref ps)])) _
    refine XS.iconst X18.here hx rfl (hb hby own_d5_85) ?_
    show Steps p.tables e below (T18.setTop (mkF m 86 #[rv a, rv y3, .val (.long q0), .second, iv 0, iv 1] [(.int 1), (.int 1), (.int 0), (.ref ps)])) _
    refine XS.iadd X18.here hx rfl (hb hby own_d5_86) rfl ?_
    show Steps p.tables e below (T18.setTop (mkF m 87 #[rv a, rv y3, .val (.long q0), .second, iv 0, iv 1] [(.int ((1 : Int32) + (1 : Int32))), (.int 0), (.ref ps)])) _
    refine own_top (v' := (.int 2)) (congrArg Value.int (by decide)) ?_
    show Steps p.tables e below (T18.setTop (mkF m 87 #[rv a, rv y3, .val (.long q0), .second, iv 0, iv 1] [(.int 2), (.int 0), (.ref ps)])) _
    refine st23 _ ?_
    show Steps p.tables e below (T23.setTop (mkF m 88 #[rv a, rv y3, .val (.long q0), .second, iv 0, iv 1] [])) _
    refine XS.aloadN X23.here hx rfl (hb hby own_d5_88) rfl rfl ?_
    show Steps p.tables e below (T23.setTop (mkF m 89 #[rv a, rv y3, .val (.long q0), .second, iv 0, iv 1] [(.ref a)])) _
    refine st28 _ ?_
    show Steps p.tables e below (T28.setTop (mkF m 92 #[rv a, rv y3, .val (.long q0), .second, iv 0, iv 1] [(.ref ip)])) _
    refine XS.iload X28.here hx rfl (hb hby own_d5_92) rfl ?_
    show Steps p.tables e below (T28.setTop (mkF m 94 #[rv a, rv y3, .val (.long q0), .second, iv 0, iv 1] [(.int 0), (.ref ip)])) _
    refine X28.aaload hx (j := (0 : Int32)) (v := (.ref io)) (by rw [e28]; exact c32A.1) (State.isArrayOf_alike hZ.alike c32A.2.1) rfl c32A.2.2 c32in c32at (g := (mkF m 94 #[rv a, rv y3, .val (.long q0), .second, iv 0, iv 1] [(.int 0), (.ref ip)])) rfl rfl (hb hby own_d5_94) _ ?_
    show Steps p.tables e below (T28.setTop (mkF m 95 #[rv a, rv y3, .val (.long q0), .second, iv 0, iv 1] [(.ref io)])) _
    refine XS.iload X28.here hx rfl (hb hby own_d5_95) rfl ?_
    show Steps p.tables e below (T28.setTop (mkF m 97 #[rv a, rv y3, .val (.long q0), .second, iv 0, iv 1] [(.int 1), (.ref io)])) _
    refine XS.sipush X28.here hx rfl (hb hby own_d5_97) ?_
    show Steps p.tables e below (T28.setTop (mkF m 100 #[rv a, rv y3, .val (.long q0), .second, iv 0, iv 1] [(.int 4095), (.int 1), (.ref io)])) _
    refine XS.iand X28.here hx rfl (hb hby own_d5_100) rfl ?_
    show Steps p.tables e below (T28.setTop (mkF m 101 #[rv a, rv y3, .val (.long q0), .second, iv 0, iv 1] [(.int ((1 : Int32) &&& (4095 : Int32))), (.ref io)])) _
    refine own_top (v' := (.int 1)) (congrArg Value.int (by decide)) ?_
    show Steps p.tables e below (T28.setTop (mkF m 101 #[rv a, rv y3, .val (.long q0), .second, iv 0, iv 1] [(.int 1), (.ref io)])) _
    refine XS.aloadN X28.here hx rfl (hb hby own_d5_101) rfl rfl ?_
    show Steps p.tables e below (T28.setTop (mkF m 102 #[rv a, rv y3, .val (.long q0), .second, iv 0, iv 1] [(.ref y3), (.int 1), (.ref io)])) _
    refine st37 _ ?_
    show Steps p.tables e below (T37.setTop (mkF m 103 #[rv a, rv y3, .val (.long q0), .second, iv 0, iv 1] [])) _
    refine XS.aloadN X37.here hx rfl (hb hby own_d5_103) rfl rfl ?_
    show Steps p.tables e below (T37.setTop (mkF m 104 #[rv a, rv y3, .val (.long q0), .second, iv 0, iv 1] [(.ref a)])) _
    refine XS.iload X37.here hx rfl (hb hby own_d5_104) rfl ?_
    show Steps p.tables e below (T37.setTop (mkF m 106 #[rv a, rv y3, .val (.long q0), .second, iv 0, iv 1] [(.int 1), (.ref a)])) _
    refine XS.lloadN X37.here hx rfl (hb hby own_d5_106) rfl ?_
    show Steps p.tables e below (T37.setTop (mkF m 107 #[rv a, rv y3, .val (.long q0), .second, iv 0, iv 1] [(.long q0), (.int 1), (.ref a)])) _
    refine st54.trans ?_
    show Steps p.tables e below (T54.setTop (mkF m 110 #[rv a, rv y3, .val (.long q0), .second, iv 0, iv 1] [])) _
    refine XS.aloadN X54.here hx rfl (hb hby own_d5_110) rfl rfl ?_
    show Steps p.tables e below (T54.setTop (mkF m 111 #[rv a, rv y3, .val (.long q0), .second, iv 0, iv 1] [(.ref a)])) _
    refine XS.dup X54.here hx rfl (hb hby own_d5_111) rfl rfl ?_
    show Steps p.tables e below (T54.setTop (mkF m 112 #[rv a, rv y3, .val (.long q0), .second, iv 0, iv 1] [(.ref a), (.ref a)])) _
    refine st59 _ ?_
    show Steps p.tables e below (T59.setTop (mkF m 115 #[rv a, rv y3, .val (.long q0), .second, iv 0, iv 1] [(.int 1), (.ref a)])) _
    refine XS.iconst X59.here hx rfl (hb hby own_d5_115) ?_
    show Steps p.tables e below (T59.setTop (mkF m 116 #[rv a, rv y3, .val (.long q0), .second, iv 0, iv 1] [(.int 1), (.int 1), (.ref a)])) _
    refine XS.iadd X59.here hx rfl (hb hby own_d5_116) rfl ?_
    show Steps p.tables e below (T59.setTop (mkF m 117 #[rv a, rv y3, .val (.long q0), .second, iv 0, iv 1] [(.int ((1 : Int32) + (1 : Int32))), (.ref a)])) _
    refine own_top (v' := (.int 2)) (congrArg Value.int (by decide)) ?_
    show Steps p.tables e below (T59.setTop (mkF m 117 #[rv a, rv y3, .val (.long q0), .second, iv 0, iv 1] [(.int 2), (.ref a)])) _
    refine st61 _ ?_
    show Steps p.tables e below (T61.setTop (mkF m 120 #[rv a, rv y3, .val (.long q0), .second, iv 0, iv 1] [])) _
    refine XS.iload X61.here hx rfl (hb hby own_d5_120) rfl ?_
    show Steps p.tables e below (T61.setTop (mkF m 122 #[rv a, rv y3, .val (.long q0), .second, iv 0, iv 1] [(.int 1)])) _
    exact retI X61 hx Bd.returns (hb hby own_d5_122) hr
  · show own_add7_Q Z w_CA mr y1 y2 y3 a ip dp lp ps pf pg pt io lo li pb wb k_ip k_io k_dp k_lo k_lp k_li k_ps k_pf k_pb k_wb d0 d1 q0 h0 n0 _ T61.heap _
    rw [e61]
    exact ⟨rfl, N61, kp63, f64, f65, f66, f67, f68, f69, f70, f71, f72, Fw61, f73, f75, f76, f77, f78⟩
theorem own_sd2_0_ef (m : MethodId) (a : Addr) (q0 : Int64) : entryFrame m #[(.ref a), (.int 0), (.long q0)] 4 = mkF m 0 #[rv a, iv 0, .val (.long q0), .second] [] := by first | (simp [entryFrame, mkF, argsToLocals, Value.category]; done) | rfl
def own_sd2_0_Q (Z : State) (w_CA : Addr) (mr : Addr) (y1 : Addr) (y2 : Addr) (y3 : Addr) (a : Addr) (dp : Addr) (lo : Addr) (k_dp : ClassId) (k_lo : ClassId) (d0 : Int64) (d1 : Int64) (q0 : Int64) (h0 : Heap) (n0 : Nat) (v : Option Value) (h : Heap) (L : List Loc) : Prop := v = none ∧ Fr n0 L ∧ Keep h0 h [lo] ∧ Arv Z h lo k_lo .long (16 : Int32) [(.long q0), (.long d1), (.long 0), (.long 0), (.long 0), (.long 0), (.long 0), (.long 0), (.long 0), (.long 0), (.long 0), (.long 0), (.long 0), (.long 0), (.long 0), (.long 0)] (.long 0)
set_option maxRecDepth 65536 in
set_option maxHeartbeats 40000000 in
theorem own_sd2_0 (l : Launch) (Z : State) (a0 : Array Value) (hw : ∀ d ∈ tables_1, d.before a0 Z = true) (ws : List Jvm.Cond) (w_CA : Addr) (mr : Addr) (y1 : Addr) (y2 : Addr) (y3 : Addr) (a : Addr) (dp : Addr) (lo : Addr) (k_dp : ClassId) (k_lo : ClassId) (d0 : Int64) (d1 : Int64) (q0 : Int64) (h0 : Heap) (n0 : Nat) (O0 : Old Z n0 h0) (S_HI : Sta Z Z.heap "java/lang/Integer$IntegerCache" "high" "I" (.int 127)) (S_CA : Sta Z Z.heap "java/lang/Integer$IntegerCache" "cache" "[Ljava/lang/Integer;" (.ref w_CA)) (M_OA : own_Mir Z "[Ljava/lang/Object;" mr) (H_y1 : own_At Z w_CA (129 : Int32) y1) (H_y2 : own_At Z w_CA (130 : Int32) y2) (H_y3 : own_At Z w_CA (131 : Int32) y3) (E_y1 : Exa Z Z.heap y1 "java/lang/Integer") (E_y2 : Exa Z Z.heap y2 "java/lang/Integer") (E_y3 : Exa Z Z.heap y3 "java/lang/Integer") (hG : ∀ x ∈ ([a, dp, lo] : List Addr), n0 ≤ x) (hN : own_Nd [a, dp, lo]) (pE_a : Exa Z h0 a "com/example/libspoke/libspoke/wheel/EntryTable") (pF_a_deadlinePages : Fld Z h0 a "com/example/libspoke/libspoke/wheel/EntryTable" "deadlinePages" "[[J" (.ref dp)) (pV_dp : Arv Z h0 dp k_dp (.array .long) (1 : Int32) [(.ref lo)] .null) (pV_lo : Arv Z h0 lo k_lo .long (16 : Int32) [(.long d0), (.long d1), (.long 0), (.long 0), (.long 0), (.long 0), (.long 0), (.long 0), (.long 0), (.long 0), (.long 0), (.long 0), (.long 0), (.long 0), (.long 0), (.long 0)] (.long 0)) (O_dp : OvrA Z k_dp .long "[J") :
    MetFree l (⟨"com/example/libspoke/libspoke/wheel/EntryTable", "setDeadline", "(IJ)V"⟩ : MethodName) (head1 (Jvm.Cond.code (⟨"com/example/libspoke/libspoke/wheel/EntryTable", "setDeadline", "(IJ)V"⟩ : MethodName) prog_18_method_10_code 4 none :: ws) ({ frames := 0, cells := 0, slots := 0, locals := 0 } : Room)) (fun ar U => ar = #[(.ref a), (.int 0), (.long q0)] ∧ Z.Warmed39 U.vm ∧ U.heap = h0) (fun _ _ _ _ _ => True) (fun _ U oc U' => ∃ v L, oc = .returned v ∧ own_sd2_0_Q Z w_CA mr y1 y2 y3 a dp lo k_dp k_lo d0 d1 q0 h0 n0 v U'.heap L ∧ FrameEnd U oc U' L ({ frames := 0, cells := 0, slots := 0, locals := 0 } : Room).cells ({ frames := 0, cells := 0, slots := 0, locals := 0 } : Room).slots) := by
  refine MetFree.of_bodySF (plainFor_of_name own_pn0) hisR ?_
  intro p e s m args below meth c s₁ Bd hml0 hP hK
  obtain ⟨rfl, hZ, hh⟩ := hP
  have hx := Bd.exec
  have hby := Bd.bytes
  have hml : c.maxLocals = 4 := hml0
  have hown : s.vm.findClass "com/example/libspoke/libspoke/wheel/EntryTable" = some m.cls := findClass_of_methodNamed Bd.named
  have hnm := (name_of_methodNamed Bd.named Bd.method).1
  have X0 : Stand p l e ({ frames := 0, cells := 0, slots := 0, locals := 0 } : Room) s m #[(.ref a), (.int 0), (.long q0)] below meth c s₁ [] 0 0 := Stand.of_body Bd
  have e0 : s₁.heap = h0 := by rw [← hh, Bd.state]; rfl
  have N0 := Fr.nil n0
  have pre0 : ∀ t, Steps p.tables e below (s₁.setTop (mkF m 0 #[rv a, iv 0, .val (.long q0), .second] [])) t → Steps p.tables e below (s₁.setTop (entryFrame m #[(.ref a), (.int 0), (.long q0)] 4)) t := fun t k => castTop (own_sd2_0_ef m a q0) k
  have kp0 := Keep.refl h0 ([lo] : List Addr)
  have g_a : n0 ≤ a := hG _ (own_m 0 rfl)
  have g_dp : n0 ≤ dp := hG _ (own_m 1 rfl)
  have g_lo : n0 ≤ lo := hG _ (own_m 2 rfl)
  obtain ⟨T1, X1, e1, st1⟩ := getF X0 hx hZ hown (host := "") (Or.inl (hw _ (own_m 20 rfl))) Via.refl e0 pF_a_deadlinePages (g := (mkF m 1 #[rv a, iv 0, .val (.long q0), .second] [(.ref a)])) rfl rfl (hb hby own_d18_1)
  obtain ⟨c2, c2A, c2q, c2S, c2N, c2H, c2G⟩ := id pV_dp
  have c2in : ¬ ((0 : Int32) < 0 ∨ c2.slots.size ≤ ((0 : Int32)).toNatClampNeg) := inb_of c2S ⟨by decide, by decide⟩
  have c2at : c2.slots[((0 : Int32)).toNatClampNeg]? = some (.ref lo) := Has.at c2H c2in rfl
  obtain ⟨c3, c3A, c3q, c3S, c3N, c3H, c3G⟩ := id pV_lo
  have c3in : ¬ ((0 : Int32) < 0 ∨ c3.slots.size ≤ ((0 : Int32)).toNatClampNeg) := inb_of c3S ⟨by decide, by decide⟩
  obtain ⟨T4, h4, X4, e4, W4, st4⟩ := stJ X1 hx hZ e1 c3A (j := (0 : Int32)) c3in (g := (mkF m 15 #[rv a, iv 0, .val (.long q0), .second] [(.long q0), (.int 0), (.ref lo)])) rfl rfl (hb hby own_d18_15)
  have V4 : Arv Z h4 lo k_lo .long (16 : Int32) [(.long q0), (.long d1), (.long 0), (.long 0), (.long 0), (.long 0), (.long 0), (.long 0), (.long 0), (.long 0), (.long 0), (.long 0), (.long 0), (.long 0), (.long 0), (.long 0)] (.long 0) := Arv.set c3A c3q c3S c3N c3H c3G rfl W4 0 rfl (Nat.le_of_ble_eq_true rfl)
  have O5 := O0.wr W4 g_lo
  have kp6 := kp0.wr W4 (Or.inl (own_m 0 rfl))
  have N4 := Fr.snoc X4 N0 g_lo
  obtain ⟨fs, hr, hrun, hended, hW, hsame⟩ := X4.leave (v := none) (fun _ => rfl)
  refine ⟨_, _, pre0 _ ?_, hrun, hended, _, _, rfl, ?_, ⟨_, rfl⟩, hW, hsame.mono (by decide) (by decide)⟩
  · show Steps p.tables e below (s₁.setTop (mkF m 0 #[rv a, iv 0, .val (.long q0), .second] [])) _
    refine XS.aloadN X0.here hx rfl (hb hby own_d18_0) rfl rfl ?_
    show Steps p.tables e below (s₁.setTop (mkF m 1 #[rv a, iv 0, .val (.long q0), .second] [(.ref a)])) _
    refine st1 _ ?_
    show Steps p.tables e below (T1.setTop (mkF m 4 #[rv a, iv 0, .val (.long q0), .second] [(.ref dp)])) _
    refine XS.iloadN X1.here hx rfl (hb hby own_d18_4) rfl ?_
    show Steps p.tables e below (T1.setTop (mkF m 5 #[rv a, iv 0, .val (.long q0), .second] [(.int 0), (.ref dp)])) _
    refine XS.bipush X1.here hx rfl (hb hby own_d18_5) ?_
    show Steps p.tables e below (T1.setTop (mkF m 7 #[rv a, iv 0, .val (.long q0), .second] [(.int 12), (.int 0), (.ref dp)])) _
    refine XS.iushr X1.here hx rfl (hb hby own_d18_7) rfl ?_
    show Steps p.tables e below (T1.setTop (mkF m 8 #[rv a, iv 0, .val (.long q0), .second] [(.int (((0 : Int32).toUInt32 >>> ((12 : Int32) &&& 31).toUInt32).toInt32)), (.ref dp)])) _
    refine own_top (v' := (.int 0)) (congrArg Value.int (by decide)) ?_
    show Steps p.tables e below (T1.setTop (mkF m 8 #[rv a, iv 0, .val (.long q0), .second] [(.int 0), (.ref dp)])) _
    refine X1.aaload hx (j := (0 : Int32)) (v := (.ref lo)) (by rw [e1]; exact c2A.1) (State.isArrayOf_alike hZ.alike c2A.2.1) rfl c2A.2.2 c2in c2at (g := (mkF m 8 #[rv a, iv 0, .val (.long q0), .second] [(.int 0), (.ref dp)])) rfl rfl (hb hby own_d18_8) _ ?_
    show Steps p.tables e below (T1.setTop (mkF m 9 #[rv a, iv 0, .val (.long q0), .second] [(.ref lo)])) _
    refine XS.iloadN X1.here hx rfl (hb hby own_d18_9) rfl ?_
    show Steps p.tables e below (T1.setTop (mkF m 10 #[rv a, iv 0, .val (.long q0), .second] [(.int 0), (.ref lo)])) _
    refine XS.sipush X1.here hx rfl (hb hby own_d18_10) ?_
    show Steps p.tables e below (T1.setTop (mkF m 13 #[rv a, iv 0, .val (.long q0), .second] [(.int 4095), (.int 0), (.ref lo)])) _
    refine XS.iand X1.here hx rfl (hb hby own_d18_13) rfl ?_
    show Steps p.tables e below (T1.setTop (mkF m 14 #[rv a, iv 0, .val (.long q0), .second] [(.int ((0 : Int32) &&& (4095 : Int32))), (.ref lo)])) _
    refine own_top (v' := (.int 0)) (congrArg Value.int (by decide)) ?_
    show Steps p.tables e below (T1.setTop (mkF m 14 #[rv a, iv 0, .val (.long q0), .second] [(.int 0), (.ref lo)])) _
    refine XS.lloadN X1.here hx rfl (hb hby own_d18_14) rfl ?_
    show Steps p.tables e below (T1.setTop (mkF m 15 #[rv a, iv 0, .val (.long q0), .second] [(.long q0), (.int 0), (.ref lo)])) _
    refine st4 _ ?_
    show Steps p.tables e below (T4.setTop (mkF m 16 #[rv a, iv 0, .val (.long q0), .second] [])) _
    exact X4.returnOut hx Bd.returns (hb hby own_d18_16) hr
  · show own_sd2_0_Q Z w_CA mr y1 y2 y3 a dp lo k_dp k_lo d0 d1 q0 h0 n0 _ T4.heap _
    rw [e4]
    exact ⟨rfl, N4, kp6, V4⟩
theorem own_law_ef (m : MethodId) (p0 : Int64) (p1 : Int64) (p2 : Int64) (p3 : Int64) (p4 : Int32) : entryFrame m #[(.long p0), (.long p1), (.long p2), (.long p3), (.int p4)] maxLocals = mkF m 0 #[.val (.long p0), .second, .val (.long p1), .second, .val (.long p2), .second, .val (.long p3), .second, iv p4, .unset, .unset, .unset, .unset, .unset, .unset, .unset] [] := by first | (simp [entryFrame, mkF, argsToLocals, Value.category, maxLocals]; done) | rfl
def own_law_Q (Z : State) (w_CA : Addr) (mr : Addr) (y1 : Addr) (y2 : Addr) (y3 : Addr) (p0 : Int64) (p1 : Int64) (p2 : Int64) (p3 : Int64) (p4 : Int32) (h0 : Heap) (n0 : Nat) (v : Option Value) (h : Heap) (L : List Loc) : Prop := v = some (.int 1) ∧ Fr n0 L
set_option maxRecDepth 65536 in
set_option maxHeartbeats 40000000 in
theorem own_law (l : Launch) (Z : State) (a0 : Array Value) (hw : ∀ d ∈ tables_1, d.before a0 Z = true) (ws : List Jvm.Cond) (w_CA : Addr) (mr : Addr) (y1 : Addr) (y2 : Addr) (y3 : Addr) (p0 : Int64) (p1 : Int64) (p2 : Int64) (p3 : Int64) (p4 : Int32) (h0 : Heap) (n0 : Nat) (O0 : Old Z n0 h0) (S_HI : Sta Z Z.heap "java/lang/Integer$IntegerCache" "high" "I" (.int 127)) (S_CA : Sta Z Z.heap "java/lang/Integer$IntegerCache" "cache" "[Ljava/lang/Integer;" (.ref w_CA)) (M_OA : own_Mir Z "[Ljava/lang/Object;" mr) (H_y1 : own_At Z w_CA (129 : Int32) y1) (H_y2 : own_At Z w_CA (130 : Int32) y2) (H_y3 : own_At Z w_CA (131 : Int32) y3) (E_y1 : Exa Z Z.heap y1 "java/lang/Integer") (E_y2 : Exa Z Z.heap y2 "java/lang/Integer") (E_y3 : Exa Z Z.heap y3 "java/lang/Integer") :
    MetFree l x (head1 (Jvm.Cond.code x code maxLocals ret :: ws) room_1) (fun ar U => ar = #[(.long p0), (.long p1), (.long p2), (.long p3), (.int p4)] ∧ Z.Warmed39 U.vm ∧ U.heap = h0) (fun _ _ _ _ _ => True) (fun _ U oc U' => ∃ v L, oc = .returned v ∧ own_law_Q Z w_CA mr y1 y2 y3 p0 p1 p2 p3 p4 h0 n0 v U'.heap L ∧ FrameEnd U oc U' L 40 320) := by
  refine MetFree.of_bodySF (plainFor_of_name own_pn5) hisR ?_
  intro p e s m args below meth c s₁ Bd hml0 hP hK
  obtain ⟨rfl, hZ, hh⟩ := hP
  have hx := Bd.exec
  have hby := Bd.bytes
  have hml : c.maxLocals = 16 := hml0
  have hown : s.vm.findClass "com/example/libspoke/libspoke/wheel/EntryTableDeadlinePinLaw" = some m.cls := findClass_of_methodNamed Bd.named
  have hnm := (name_of_methodNamed Bd.named Bd.method).1
  have X0 : Stand p l e room_1 s m #[(.long p0), (.long p1), (.long p2), (.long p3), (.int p4)] below meth c s₁ [] 0 0 := Stand.of_body Bd
  have e0 : s₁.heap = h0 := by rw [← hh, Bd.state]; rfl
  have N0 := Fr.nil n0
  have pre0 : ∀ t, Steps p.tables e below (s₁.setTop (mkF m 0 #[.val (.long p0), .second, .val (.long p1), .second, .val (.long p2), .second, .val (.long p3), .second, iv p4, .unset, .unset, .unset, .unset, .unset, .unset, .unset] [])) t → Steps p.tables e below (s₁.setTop (entryFrame m #[(.long p0), (.long p1), (.long p2), (.long p3), (.int p4)] maxLocals)) t := fun t k => castTop (own_law_ef m p0 p1 p2 p3 p4) k
  obtain ⟨T1, h1, X1, e1, E1, A1, D1, -, st1⟩ := newO X0 hx hZ hown (hw _ (own_m 0 rfl)) (hw _ (own_m 1 rfl)) (hw _ (own_m 2 rfl)) e0 (g := (mkF m 0 #[.val (.long p0), .second, .val (.long p1), .second, .val (.long p2), .second, .val (.long p3), .second, iv p4, .unset, .unset, .unset, .unset, .unset, .unset, .unset] [])) rfl (hb hby at_0) (by decide) (by decide)
  obtain ⟨b1, g1⟩ : ∃ z, z = h0.size := ⟨_, rfl⟩
  rw [← g1] at A1 D1 st1
  have gg_b1 : n0 ≤ b1 := g1 ▸ own_le O0
  have O2 := O0.ext E1
  have F_itemPages_b1 : Fld Z h1 b1 "com/example/libspoke/libspoke/wheel/EntryTable" "itemPages" "[[Ljava/lang/Object;" .null := D1 (Or.inl (hw _ (own_m 15 rfl))) (ty := (.array (.array (.object "java/lang/Object")))) (by decide)
  have F_deadlinePages_b1 : Fld Z h1 b1 "com/example/libspoke/libspoke/wheel/EntryTable" "deadlinePages" "[[J" .null := D1 (Or.inl (hw _ (own_m 21 rfl))) (ty := (.array (.array .long))) (by decide)
  have F_linkPages_b1 : Fld Z h1 b1 "com/example/libspoke/libspoke/wheel/EntryTable" "linkPages" "[[I" .null := D1 (Or.inl (hw _ (own_m 27 rfl))) (ty := (.array (.array .int))) (by decide)
  have F_pageSizes_b1 : Fld Z h1 b1 "com/example/libspoke/libspoke/wheel/EntryTable" "pageSizes" "[I" .null := D1 (Or.inl (hw _ (own_m 29 rfl))) (ty := (.array .int)) (by decide)
  have F_pageFirstFree_b1 : Fld Z h1 b1 "com/example/libspoke/libspoke/wheel/EntryTable" "pageFirstFree" "[I" .null := D1 (Or.inl (hw _ (own_m 31 rfl))) (ty := (.array .int)) (by decide)
  have F_pageGenerations_b1 : Fld Z h1 b1 "com/example/libspoke/libspoke/wheel/EntryTable" "pageGenerations" "[I" .null := D1 (Or.inl (hw _ (own_m 33 rfl))) (ty := (.array .int)) (by decide)
  have F_pagesWithRoom_b1 : Fld Z h1 b1 "com/example/libspoke/libspoke/wheel/EntryTable" "pagesWithRoom" "Lcom/example/libspoke/libspoke/wheel/EntryTable$PageSet;" .null := D1 (Or.inr (hw _ (own_m 46 rfl))) (ty := (.object "com/example/libspoke/libspoke/wheel/EntryTable$PageSet")) (by decide)
  have F_sparePage_b1 : Fld Z h1 b1 "com/example/libspoke/libspoke/wheel/EntryTable" "sparePage" "I" (.int 0) := D1 (Or.inl (hw _ (own_m 48 rfl))) (ty := .int) (by decide)
  have F_capacity_b1 : Fld Z h1 b1 "com/example/libspoke/libspoke/wheel/EntryTable" "capacity" "I" (.int 0) := D1 (Or.inl (hw _ (own_m 71 rfl))) (ty := .int) (by decide)
  have F_size_b1 : Fld Z h1 b1 "com/example/libspoke/libspoke/wheel/EntryTable" "size" "I" (.int 0) := D1 (Or.inl (hw _ (own_m 127 rfl))) (ty := .int) (by decide)
  obtain ⟨_, _, ⟨T3, L3, k3, n3⟩, -, X3, ⟨Lc3, hQ3, l3, y3, z3⟩, st3⟩ := X1.specialBack hx (y := (⟨"com/example/libspoke/libspoke/wheel/EntryTable", "<init>", "()V"⟩ : MethodName)) rfl hown (mvT hZ (hw _ (own_m 3 rfl))) (mvT hZ (hw _ (own_m 4 rfl))) (mvT hZ (hw _ (own_m 5 rfl))) (by decide) (backOf (W := 1) (own_ei l Z a0 hw [] w_CA mr y1 y2 y3 b1 h1 n0 O2 S_HI S_CA M_OA H_y1 H_y2 H_y3 E_y1 E_y2 E_y3 (allS gg_b1 all0) (own_ndc all0 own_nd0) A1 F_itemPages_b1 F_deadlinePages_b1 F_linkPages_b1 F_pageSizes_b1 F_pageFirstFree_b1 F_pageGenerations_b1 F_pagesWithRoom_b1 F_sparePage_b1 F_size_b1 F_capacity_b1) hZ (hw _ (own_m 5 rfl)) (hw _ (own_m 2 rfl)) (by decide) (by decide)) (g := (mkF m 4 #[.val (.long p0), .second, .val (.long p1), .second, .val (.long p2), .second, .val (.long p3), .second, iv p4, .unset, .unset, .unset, .unset, .unset, .unset, .unset] [(.ref b1), (.ref b1)])) rfl (by rw [hml]; rfl) (Steps.refl _) (a := b1) (argsL := []) (rest := [(.ref b1)]) (lenOf own_pd1 rfl) rfl (by show 2 * 0 + _ ≤ _; exact Nat.le_of_eq rfl) (hb hby at_4) (fun _ _ => ⟨rfl, e1, (by decide : 1 + 12 ≤ _), (by decide : 10 + 10 ≤ _)⟩)
  dsimp only [Pt.U, Pt.locs, Pt.cells, Pt.slots] at X3 l3 y3 z3 st3 hQ3
  subst l3 y3 z3
  obtain ⟨ip, io, dp, lo, lp, li, ps, pf, pg, pt, pb, wb, k_ip, k_dp, k_lp, k_lo, k_li, k_ps, k_pf, k_pg, k_pb, k_wb, k_io, rfl, N3q, K3, nd3, sz3, O_ip, O_dp, O_lp, q4, q5, q6, q7, q8, q9, q10, q11, q12, q13, q14, q15, q16, q17, q18, q19, q20, q21, q22, q23, q24, q25, q26, q27, q28, q29⟩ := hQ3
  have N3 := Fr.app N0 N3q
  have ne_b1_ip : b1 ≠ ip := Nat.ne_of_lt (Nat.lt_of_lt_of_le A1.lt (sz3 _ (own_m 0 rfl)))
  have gg_ip : n0 ≤ ip := Nat.le_trans (own_le O2) (sz3 _ (own_m 0 rfl))
  have ne_b1_io : b1 ≠ io := Nat.ne_of_lt (Nat.lt_of_lt_of_le A1.lt (sz3 _ (own_m 1 rfl)))
  have gg_io : n0 ≤ io := Nat.le_trans (own_le O2) (sz3 _ (own_m 1 rfl))
  have ne_b1_dp : b1 ≠ dp := Nat.ne_of_lt (Nat.lt_of_lt_of_le A1.lt (sz3 _ (own_m 2 rfl)))
  have gg_dp : n0 ≤ dp := Nat.le_trans (own_le O2) (sz3 _ (own_m 2 rfl))
  have ne_b1_lo : b1 ≠ lo := Nat.ne_of_lt (Nat.lt_of_lt_of_le A1.lt (sz3 _ (own_m 3 rfl)))
  have gg_lo : n0 ≤ lo := Nat.le_trans (own_le O2) (sz3 _ (own_m 3 rfl))
  have ne_b1_lp : b1 ≠ lp := Nat.ne_of_lt (Nat.lt_of_lt_of_le A1.lt (sz3 _ (own_m 4 rfl)))
  have gg_lp : n0 ≤ lp := Nat.le_trans (own_le O2) (sz3 _ (own_m 4 rfl))
  have ne_b1_li : b1 ≠ li := Nat.ne_of_lt (Nat.lt_of_lt_of_le A1.lt (sz3 _ (own_m 5 rfl)))
  have gg_li : n0 ≤ li := Nat.le_trans (own_le O2) (sz3 _ (own_m 5 rfl))
  have ne_b1_ps : b1 ≠ ps := Nat.ne_of_lt (Nat.lt_of_lt_of_le A1.lt (sz3 _ (own_m 6 rfl)))
  have gg_ps : n0 ≤ ps := Nat.le_trans (own_le O2) (sz3 _ (own_m 6 rfl))
  have ne_b1_pf : b1 ≠ pf := Nat.ne_of_lt (Nat.lt_of_lt_of_le A1.lt (sz3 _ (own_m 7 rfl)))
  have gg_pf : n0 ≤ pf := Nat.le_trans (own_le O2) (sz3 _ (own_m 7 rfl))
  have ne_b1_pg : b1 ≠ pg := Nat.ne_of_lt (Nat.lt_of_lt_of_le A1.lt (sz3 _ (own_m 8 rfl)))
  have gg_pg : n0 ≤ pg := Nat.le_trans (own_le O2) (sz3 _ (own_m 8 rfl))
  have ne_b1_pt : b1 ≠ pt := Nat.ne_of_lt (Nat.lt_of_lt_of_le A1.lt (sz3 _ (own_m 9 rfl)))
  have gg_pt : n0 ≤ pt := Nat.le_trans (own_le O2) (sz3 _ (own_m 9 rfl))
  have ne_b1_pb : b1 ≠ pb := Nat.ne_of_lt (Nat.lt_of_lt_of_le A1.lt (sz3 _ (own_m 10 rfl)))
  have gg_pb : n0 ≤ pb := Nat.le_trans (own_le O2) (sz3 _ (own_m 10 rfl))
  have ne_b1_wb : b1 ≠ wb := Nat.ne_of_lt (Nat.lt_of_lt_of_le A1.lt (sz3 _ (own_m 11 rfl)))
  have gg_wb : n0 ≤ wb := Nat.le_trans (own_le O2) (sz3 _ (own_m 11 rfl))
  have O30 := O2.keep K3 (allS gg_b1 all0)
  obtain ⟨_, _, ⟨T31, L31, k31, n31⟩, -, X31, ⟨Lc31, hQ31, l31, y31, z31⟩, st31⟩ := Jvm.LawKit.callS X3 hx (y := (⟨"java/lang/Integer", "valueOf", "(I)Ljava/lang/Integer;"⟩ : MethodName)) hown (mvT hZ (hw _ (own_m 49 rfl))) (mvT hZ (hw _ (own_m 50 rfl))) (mvT hZ (hw _ (own_m 51 rfl))) (mvT hZ (hw _ (own_m 52 rfl))) (by decide) (backOf (W := 1) (own_vo1 l Z a0 hw [] w_CA mr y1 y2 y3  T3.heap n0 O30 S_HI S_CA M_OA H_y1 H_y2 H_y3 E_y1 E_y2 E_y3 ) hZ (hw _ (own_m 52 rfl)) (hw _ (own_m 51 rfl)) (by decide) (by decide)) (g := (mkF m 12 #[.val (.long p0), .second, .val (.long p1), .second, .val (.long p2), .second, .val (.long p3), .second, iv p4, rv b1, .unset, .unset, .unset, .unset, .unset, .unset] [(.int 1), (.ref b1)])) rfl (by rw [hml]; rfl) (argsL := [(.int 1)]) (rest := [(.ref b1)]) (lenOf own_pd12 rfl) rfl (by show 2 * 0 + _ ≤ _; exact Nat.le_of_eq rfl) (hb hby at_12) (fun _ _ => ⟨rfl, rfl, (by decide : 13 + 0 ≤ _), (by decide : 20 + 0 ≤ _)⟩)
  dsimp only [Pt.U, Pt.locs, Pt.cells, Pt.slots] at X31 l31 y31 z31 st31 hQ31
  subst l31 y31 z31
  obtain ⟨rfl, N31q, e31⟩ := hQ31
  have N31 := Fr.app N3 N31q
  obtain ⟨cq32, kq32, q32a, q32b, q32c⟩ := isOf hZ e31 q4
  obtain ⟨_, _, ⟨T32, L32, k32, n32⟩, -, X32, ⟨Lc32, hQ32, l32, y32, z32⟩, st32⟩ := X31.virtualBack hx (y := (⟨"com/example/libspoke/libspoke/wheel/EntryTable", "add", "(Ljava/lang/Object;J)I"⟩ : MethodName)) (z := (⟨"com/example/libspoke/libspoke/wheel/EntryTable", "add", "(Ljava/lang/Object;J)I"⟩ : MethodName)) hown (mvT hZ (hw _ (own_m 56 rfl))) (mvT hZ (hw _ (own_m 57 rfl))) (notFace_of_selects (args := #[]) (mvT hZ (hw _ (own_m 59 rfl)))) (mvT hZ (hw _ (own_m 59 rfl))) (mvT hZ (hw _ (own_m 58 rfl))) (by decide) (backOf (W := 0) (own_addf l Z a0 hw [] w_CA mr y1 y2 y3 b1 ip dp lp ps pf pg pt io lo li pb wb k_ip k_io k_dp k_lo k_lp k_li k_ps k_pf k_pb k_wb k_pg p0 T3.heap n0 O30 S_HI S_CA M_OA H_y1 H_y2 H_y3 E_y1 E_y2 E_y3 (allS gg_b1 (allS gg_ip (allS gg_io (allS gg_dp (allS gg_lo (allS gg_lp (allS gg_li (allS gg_ps (allS gg_pf (allS gg_pg (allS gg_pt (allS gg_pb (allS gg_wb all0))))))))))))) nd3 q4 q5 q6 q7 q8 q9 q10 q11 q12 q13 q14 q15 q29 q16 q18 q17 q19 q20 q21 q25 q26 q27 q23 q24 q28 q22 O_ip O_dp O_lp) hZ (hw _ (own_m 60 rfl)) (hw _ (own_m 2 rfl)) (by decide) (by decide)) q32a q32c (g := (mkF m 16 #[.val (.long p0), .second, .val (.long p1), .second, .val (.long p2), .second, .val (.long p3), .second, iv p4, rv b1, .unset, .unset, .unset, .unset, .unset, .unset] [(.long p0), (.ref y1), (.ref b1)])) rfl (by rw [hml]; rfl) (Steps.refl _) (argsL := [(.ref y1), (.long p0)]) (rest := []) (lenOf own_pd13 rfl) rfl (by show 2 * 0 + _ ≤ _; exact Nat.le_of_eq rfl) (hb hby at_16) (fun _ _ => ⟨rfl, e31, (by decide : 13 + 3 ≤ _), (by decide : 20 + 96 ≤ _)⟩)
  dsimp only [Pt.U, Pt.locs, Pt.cells, Pt.slots] at X32 l32 y32 z32 st32 hQ32
  subst l32 y32 z32
  obtain ⟨io2, lo2, li2, k_io2, k_lo2, k_li2, rfl, N32q, K32, nd32, sz32, O_io2, q33, q34, q35, q36, q37, q38, q39, q40, q41, q42, q43, q44, q45, q46, q47, q48, q49, q50, q51, q52, q53⟩ := hQ32
  have N32 := Fr.app N31 N32q
  have ne_b1_io2 : b1 ≠ io2 := Nat.ne_of_lt (Nat.lt_of_lt_of_le q4.lt (sz32 _ (own_m 0 rfl)))
  have ne_ip_io2 : ip ≠ io2 := Nat.ne_of_lt (Nat.lt_of_lt_of_le q15.lt (sz32 _ (own_m 0 rfl)))
  have ne_dp_io2 : dp ≠ io2 := Nat.ne_of_lt (Nat.lt_of_lt_of_le q16.lt (sz32 _ (own_m 0 rfl)))
  have ne_lp_io2 : lp ≠ io2 := Nat.ne_of_lt (Nat.lt_of_lt_of_le q17.lt (sz32 _ (own_m 0 rfl)))
  have ne_lo_io2 : lo ≠ io2 := Nat.ne_of_lt (Nat.lt_of_lt_of_le q18.lt (sz32 _ (own_m 0 rfl)))
  have ne_li_io2 : li ≠ io2 := Nat.ne_of_lt (Nat.lt_of_lt_of_le q19.lt (sz32 _ (own_m 0 rfl)))
  have ne_ps_io2 : ps ≠ io2 := Nat.ne_of_lt (Nat.lt_of_lt_of_le q20.lt (sz32 _ (own_m 0 rfl)))
  have ne_pf_io2 : pf ≠ io2 := Nat.ne_of_lt (Nat.lt_of_lt_of_le q21.lt (sz32 _ (own_m 0 rfl)))
  have ne_pg_io2 : pg ≠ io2 := Nat.ne_of_lt (Nat.lt_of_lt_of_le q22.lt (sz32 _ (own_m 0 rfl)))
  have ne_pb_io2 : pb ≠ io2 := Nat.ne_of_lt (Nat.lt_of_lt_of_le q23.lt (sz32 _ (own_m 0 rfl)))
  have ne_wb_io2 : wb ≠ io2 := Nat.ne_of_lt (Nat.lt_of_lt_of_le q24.lt (sz32 _ (own_m 0 rfl)))
  have ne_pt_io2 : pt ≠ io2 := Nat.ne_of_lt (Nat.lt_of_lt_of_le q25.lt (sz32 _ (own_m 0 rfl)))
  have ne_io_io2 : io ≠ io2 := Nat.ne_of_lt (Nat.lt_of_lt_of_le q28.lt (sz32 _ (own_m 0 rfl)))
  have gg_io2 : n0 ≤ io2 := Nat.le_trans (own_le O30) (sz32 _ (own_m 0 rfl))
  have ne_b1_lo2 : b1 ≠ lo2 := Nat.ne_of_lt (Nat.lt_of_lt_of_le q4.lt (sz32 _ (own_m 1 rfl)))
  have ne_ip_lo2 : ip ≠ lo2 := Nat.ne_of_lt (Nat.lt_of_lt_of_le q15.lt (sz32 _ (own_m 1 rfl)))
  have ne_dp_lo2 : dp ≠ lo2 := Nat.ne_of_lt (Nat.lt_of_lt_of_le q16.lt (sz32 _ (own_m 1 rfl)))
  have ne_lp_lo2 : lp ≠ lo2 := Nat.ne_of_lt (Nat.lt_of_lt_of_le q17.lt (sz32 _ (own_m 1 rfl)))
  have ne_lo_lo2 : lo ≠ lo2 := Nat.ne_of_lt (Nat.lt_of_lt_of_le q18.lt (sz32 _ (own_m 1 rfl)))
  have ne_li_lo2 : li ≠ lo2 := Nat.ne_of_lt (Nat.lt_of_lt_of_le q19.lt (sz32 _ (own_m 1 rfl)))
  have ne_ps_lo2 : ps ≠ lo2 := Nat.ne_of_lt (Nat.lt_of_lt_of_le q20.lt (sz32 _ (own_m 1 rfl)))
  have ne_pf_lo2 : pf ≠ lo2 := Nat.ne_of_lt (Nat.lt_of_lt_of_le q21.lt (sz32 _ (own_m 1 rfl)))
  have ne_pg_lo2 : pg ≠ lo2 := Nat.ne_of_lt (Nat.lt_of_lt_of_le q22.lt (sz32 _ (own_m 1 rfl)))
  have ne_pb_lo2 : pb ≠ lo2 := Nat.ne_of_lt (Nat.lt_of_lt_of_le q23.lt (sz32 _ (own_m 1 rfl)))
  have ne_wb_lo2 : wb ≠ lo2 := Nat.ne_of_lt (Nat.lt_of_lt_of_le q24.lt (sz32 _ (own_m 1 rfl)))
  have ne_pt_lo2 : pt ≠ lo2 := Nat.ne_of_lt (Nat.lt_of_lt_of_le q25.lt (sz32 _ (own_m 1 rfl)))
  have ne_io_lo2 : io ≠ lo2 := Nat.ne_of_lt (Nat.lt_of_lt_of_le q28.lt (sz32 _ (own_m 1 rfl)))
  have gg_lo2 : n0 ≤ lo2 := Nat.le_trans (own_le O30) (sz32 _ (own_m 1 rfl))
  have ne_b1_li2 : b1 ≠ li2 := Nat.ne_of_lt (Nat.lt_of_lt_of_le q4.lt (sz32 _ (own_m 2 rfl)))
  have ne_ip_li2 : ip ≠ li2 := Nat.ne_of_lt (Nat.lt_of_lt_of_le q15.lt (sz32 _ (own_m 2 rfl)))
  have ne_dp_li2 : dp ≠ li2 := Nat.ne_of_lt (Nat.lt_of_lt_of_le q16.lt (sz32 _ (own_m 2 rfl)))
  have ne_lp_li2 : lp ≠ li2 := Nat.ne_of_lt (Nat.lt_of_lt_of_le q17.lt (sz32 _ (own_m 2 rfl)))
  have ne_lo_li2 : lo ≠ li2 := Nat.ne_of_lt (Nat.lt_of_lt_of_le q18.lt (sz32 _ (own_m 2 rfl)))
  have ne_li_li2 : li ≠ li2 := Nat.ne_of_lt (Nat.lt_of_lt_of_le q19.lt (sz32 _ (own_m 2 rfl)))
  have ne_ps_li2 : ps ≠ li2 := Nat.ne_of_lt (Nat.lt_of_lt_of_le q20.lt (sz32 _ (own_m 2 rfl)))
  have ne_pf_li2 : pf ≠ li2 := Nat.ne_of_lt (Nat.lt_of_lt_of_le q21.lt (sz32 _ (own_m 2 rfl)))
  have ne_pg_li2 : pg ≠ li2 := Nat.ne_of_lt (Nat.lt_of_lt_of_le q22.lt (sz32 _ (own_m 2 rfl)))
  have ne_pb_li2 : pb ≠ li2 := Nat.ne_of_lt (Nat.lt_of_lt_of_le q23.lt (sz32 _ (own_m 2 rfl)))
  have ne_wb_li2 : wb ≠ li2 := Nat.ne_of_lt (Nat.lt_of_lt_of_le q24.lt (sz32 _ (own_m 2 rfl)))
  have ne_pt_li2 : pt ≠ li2 := Nat.ne_of_lt (Nat.lt_of_lt_of_le q25.lt (sz32 _ (own_m 2 rfl)))
  have ne_io_li2 : io ≠ li2 := Nat.ne_of_lt (Nat.lt_of_lt_of_le q28.lt (sz32 _ (own_m 2 rfl)))
  have gg_li2 : n0 ≤ li2 := Nat.le_trans (own_le O30) (sz32 _ (own_m 2 rfl))
  have O54 := O30.keep K32 (allS gg_b1 (allS gg_ip (allS gg_dp (allS gg_lp (allS gg_pf (allS gg_pb (allS gg_wb (allS gg_ps all0))))))))
  obtain ⟨_, _, ⟨T55, L55, k55, n55⟩, -, X55, ⟨Lc55, hQ55, l55, y55, z55⟩, st55⟩ := Jvm.LawKit.callS X32 hx (y := (⟨"java/lang/Integer", "valueOf", "(I)Ljava/lang/Integer;"⟩ : MethodName)) hown (mvT hZ (hw _ (own_m 49 rfl))) (mvT hZ (hw _ (own_m 50 rfl))) (mvT hZ (hw _ (own_m 51 rfl))) (mvT hZ (hw _ (own_m 52 rfl))) (by decide) (backOf (W := 1) (own_vo2 l Z a0 hw [] w_CA mr y1 y2 y3  T32.heap n0 O54 S_HI S_CA M_OA H_y1 H_y2 H_y3 E_y1 E_y2 E_y3 ) hZ (hw _ (own_m 52 rfl)) (hw _ (own_m 51 rfl)) (by decide) (by decide)) (g := (mkF m 24 #[.val (.long p0), .second, .val (.long p1), .second, .val (.long p2), .second, .val (.long p3), .second, iv p4, rv b1, iv 0, .unset, .unset, .unset, .unset, .unset] [(.int 2), (.ref b1)])) rfl (by rw [hml]; rfl) (argsL := [(.int 2)]) (rest := [(.ref b1)]) (lenOf own_pd12 rfl) rfl (by show 2 * 0 + _ ≤ _; exact Nat.le_of_eq rfl) (hb hby at_24) (fun _ _ => ⟨rfl, rfl, (by decide : 16 + 0 ≤ _), (by decide : 116 + 0 ≤ _)⟩)
  dsimp only [Pt.U, Pt.locs, Pt.cells, Pt.slots] at X55 l55 y55 z55 st55 hQ55
  subst l55 y55 z55
  obtain ⟨rfl, N55q, e55⟩ := hQ55
  have N55 := Fr.app N32 N55q
  have n56 : pb ≠ wb := (own_ne nd3 (i := 11) (j := 12) rfl rfl (by decide))
  have n57 : pt ≠ wb := (own_ne nd3 (i := 10) (j := 12) rfl rfl (by decide))
  have n58 : pt ≠ pb := (own_ne nd3 (i := 10) (j := 11) rfl rfl (by decide))
  have n59 : pf ≠ wb := (own_ne nd3 (i := 8) (j := 12) rfl rfl (by decide))
  have n60 : pf ≠ pb := (own_ne nd3 (i := 8) (j := 11) rfl rfl (by decide))
  have n61 : pf ≠ pt := (own_ne nd3 (i := 8) (j := 10) rfl rfl (by decide))
  have n62 : ps ≠ wb := (own_ne nd3 (i := 7) (j := 12) rfl rfl (by decide))
  have n63 : ps ≠ pb := (own_ne nd3 (i := 7) (j := 11) rfl rfl (by decide))
  have n64 : ps ≠ pt := (own_ne nd3 (i := 7) (j := 10) rfl rfl (by decide))
  have n65 : ps ≠ pf := (own_ne nd3 (i := 7) (j := 8) rfl rfl (by decide))
  have n66 : lp ≠ wb := (own_ne nd3 (i := 5) (j := 12) rfl rfl (by decide))
  have n67 : lp ≠ pb := (own_ne nd3 (i := 5) (j := 11) rfl rfl (by decide))
  have n68 : lp ≠ pt := (own_ne nd3 (i := 5) (j := 10) rfl rfl (by decide))
  have n69 : lp ≠ pf := (own_ne nd3 (i := 5) (j := 8) rfl rfl (by decide))
  have n70 : lp ≠ ps := (own_ne nd3 (i := 5) (j := 7) rfl rfl (by decide))
  have n71 : lo2 ≠ li2 := (own_ne nd32 (i := 4) (j := 6) rfl rfl (by decide))
  have n72 : dp ≠ wb := (own_ne nd3 (i := 3) (j := 12) rfl rfl (by decide))
  have n73 : dp ≠ pb := (own_ne nd3 (i := 3) (j := 11) rfl rfl (by decide))
  have n74 : dp ≠ pt := (own_ne nd3 (i := 3) (j := 10) rfl rfl (by decide))
  have n75 : dp ≠ pf := (own_ne nd3 (i := 3) (j := 8) rfl rfl (by decide))
  have n76 : dp ≠ ps := (own_ne nd3 (i := 3) (j := 7) rfl rfl (by decide))
  have n77 : dp ≠ lp := (own_ne nd3 (i := 3) (j := 5) rfl rfl (by decide))
  have n78 : io2 ≠ li2 := (own_ne nd32 (i := 2) (j := 6) rfl rfl (by decide))
  have n79 : io2 ≠ lo2 := (own_ne nd32 (i := 2) (j := 4) rfl rfl (by decide))
  have n80 : ip ≠ wb := (own_ne nd3 (i := 1) (j := 12) rfl rfl (by decide))
  have n81 : ip ≠ pb := (own_ne nd3 (i := 1) (j := 11) rfl rfl (by decide))
  have n82 : ip ≠ pt := (own_ne nd3 (i := 1) (j := 10) rfl rfl (by decide))
  have n83 : ip ≠ pf := (own_ne nd3 (i := 1) (j := 8) rfl rfl (by decide))
  have n84 : ip ≠ ps := (own_ne nd3 (i := 1) (j := 7) rfl rfl (by decide))
  have n85 : ip ≠ lp := (own_ne nd3 (i := 1) (j := 5) rfl rfl (by decide))
  have n86 : ip ≠ dp := (own_ne nd3 (i := 1) (j := 3) rfl rfl (by decide))
  have f87 := (q25.keep K32)
  have f88 := (q26.keep K32 (ninS (Ne.symm ne_b1_pt) (ninS (Ne.symm n82) (ninS (Ne.symm n74) (ninS (Ne.symm n68) (ninS (Ne.symm n61) (ninS n58 (ninS n57 (ninS (Ne.symm n64) nin0)))))))))
  have f89 := (q27.keep K32 (ninS (Ne.symm ne_b1_pt) (ninS (Ne.symm n82) (ninS (Ne.symm n74) (ninS (Ne.symm n68) (ninS (Ne.symm n61) (ninS n58 (ninS n57 (ninS (Ne.symm n64) nin0)))))))))
  obtain ⟨cq90, kq90, q90a, q90b, q90c⟩ := isOf hZ e55 q33
  obtain ⟨_, _, ⟨T90, L90, k90, n90⟩, -, X90, ⟨Lc90, hQ90, l90, y90, z90⟩, st90⟩ := X55.virtualBack hx (y := (⟨"com/example/libspoke/libspoke/wheel/EntryTable", "add", "(Ljava/lang/Object;J)I"⟩ : MethodName)) (z := (⟨"com/example/libspoke/libspoke/wheel/EntryTable", "add", "(Ljava/lang/Object;J)I"⟩ : MethodName)) hown (mvT hZ (hw _ (own_m 56 rfl))) (mvT hZ (hw _ (own_m 57 rfl))) (notFace_of_selects (args := #[]) (mvT hZ (hw _ (own_m 59 rfl)))) (mvT hZ (hw _ (own_m 59 rfl))) (mvT hZ (hw _ (own_m 58 rfl))) (by decide) (backOf (W := 0) (own_add2 l Z a0 hw [] w_CA mr y1 y2 y3 b1 ip dp lp ps pf pg pt io2 lo2 li2 pb wb k_ip k_io2 k_dp k_lo2 k_lp k_li2 k_ps k_pf k_pb k_wb p0 p1 T32.heap n0 O54 S_HI S_CA M_OA H_y1 H_y2 H_y3 E_y1 E_y2 E_y3 (allS gg_b1 (allS gg_ip (allS gg_io2 (allS gg_dp (allS gg_lo2 (allS gg_lp (allS gg_li2 (allS gg_ps (allS gg_pf (allS gg_pt (allS gg_pb (allS gg_wb all0)))))))))))) (own_ndc (allS ne_b1_ip (allS ne_b1_io2 (allS ne_b1_dp (allS ne_b1_lo2 (allS ne_b1_lp (allS ne_b1_li2 (allS ne_b1_ps (allS ne_b1_pf (allS ne_b1_pt (allS ne_b1_pb (allS ne_b1_wb all0))))))))))) (own_ndc (allS ne_ip_io2 (allS n86 (allS ne_ip_lo2 (allS n85 (allS ne_ip_li2 (allS n84 (allS n83 (allS n82 (allS n81 (allS n80 all0)))))))))) (own_ndc (allS (Ne.symm ne_dp_io2) (allS n79 (allS (Ne.symm ne_lp_io2) (allS n78 (allS (Ne.symm ne_ps_io2) (allS (Ne.symm ne_pf_io2) (allS (Ne.symm ne_pt_io2) (allS (Ne.symm ne_pb_io2) (allS (Ne.symm ne_wb_io2) all0))))))))) (own_ndc (allS ne_dp_lo2 (allS n77 (allS ne_dp_li2 (allS n76 (allS n75 (allS n74 (allS n73 (allS n72 all0)))))))) (own_ndc (allS (Ne.symm ne_lp_lo2) (allS n71 (allS (Ne.symm ne_ps_lo2) (allS (Ne.symm ne_pf_lo2) (allS (Ne.symm ne_pt_lo2) (allS (Ne.symm ne_pb_lo2) (allS (Ne.symm ne_wb_lo2) all0))))))) (own_ndc (allS ne_lp_li2 (allS n70 (allS n69 (allS n68 (allS n67 (allS n66 all0)))))) (own_ndc (allS (Ne.symm ne_ps_li2) (allS (Ne.symm ne_pf_li2) (allS (Ne.symm ne_pt_li2) (allS (Ne.symm ne_pb_li2) (allS (Ne.symm ne_wb_li2) all0))))) (own_ndc (allS n65 (allS n64 (allS n63 (allS n62 all0)))) (own_ndc (allS n61 (allS n60 (allS n59 all0))) (own_ndc (allS n58 (allS n57 all0)) (own_ndc (allS n56 all0) (own_ndc all0 own_nd0)))))))))))) q33 q34 q35 q36 q37 q38 q39 q40 q41 q42 q43 q44 q45 q46 q47 q48 q49 q53 q50 f87 f88 f89 q51 q52 O_ip O_io2 O_dp O_lp) hZ (hw _ (own_m 60 rfl)) (hw _ (own_m 2 rfl)) (by decide) (by decide)) q90a q90c (g := (mkF m 28 #[.val (.long p0), .second, .val (.long p1), .second, .val (.long p2), .second, .val (.long p3), .second, iv p4, rv b1, iv 0, .unset, .unset, .unset, .unset, .unset] [(.long p1), (.ref y2), (.ref b1)])) rfl (by rw [hml]; rfl) (Steps.refl _) (argsL := [(.ref y2), (.long p1)]) (rest := []) (lenOf own_pd13 rfl) rfl (by show 2 * 0 + _ ≤ _; exact Nat.le_of_eq rfl) (hb hby at_28) (fun _ _ => ⟨rfl, e55, (by decide : 16 + 0 ≤ _), (by decide : 116 + 0 ≤ _)⟩)
  dsimp only [Pt.U, Pt.locs, Pt.cells, Pt.slots] at X90 l90 y90 z90 st90 hQ90
  subst l90 y90 z90
  obtain ⟨rfl, N90q, K90, q91, q92, q93, q94, q95, q96, q97, q98, q99, q100, q101, q102, q103, q104, q105⟩ := hQ90
  have N90 := Fr.app N55 N90q
  have O106 := O54.keep K90 (allS gg_b1 (allS gg_io2 (allS gg_lo2 (allS gg_ps (allS gg_pf all0)))))
  have f107 := (q46.keep K90 (ninS (Ne.symm ne_b1_dp) (ninS ne_dp_io2 (ninS ne_dp_lo2 (ninS n76 (ninS n75 nin0))))))
  obtain ⟨cq108, kq108, q108a, q108b, q108c⟩ := isOf hZ rfl q91
  obtain ⟨_, _, ⟨T108, L108, k108, n108⟩, -, X108, ⟨Lc108, hQ108, l108, y108, z108⟩, st108⟩ := X90.virtualBack hx (y := (⟨"com/example/libspoke/libspoke/wheel/EntryTable", "deadline", "(I)J"⟩ : MethodName)) (z := (⟨"com/example/libspoke/libspoke/wheel/EntryTable", "deadline", "(I)J"⟩ : MethodName)) hown (mvT hZ (hw _ (own_m 135 rfl))) (mvT hZ (hw _ (own_m 136 rfl))) (notFace_of_selects (args := #[]) (mvT hZ (hw _ (own_m 138 rfl)))) (mvT hZ (hw _ (own_m 138 rfl))) (mvT hZ (hw _ (own_m 137 rfl))) (by decide) (backOf (W := 0) (own_dl2_0 l Z a0 hw [] w_CA mr y1 y2 y3 b1 dp lo2 k_dp k_lo2 p0 p1 T90.heap n0 O106 S_HI S_CA M_OA H_y1 H_y2 H_y3 E_y1 E_y2 E_y3 q91 q93 f107 q103 O_dp) hZ (hw _ (own_m 139 rfl)) (hw _ (own_m 2 rfl)) (by decide) (by decide)) q108a q108c (g := (mkF m 44 #[.val (.long p0), .second, .val (.long p1), .second, .val (.long p2), .second, .val (.long p3), .second, iv p4, rv b1, iv 0, iv 1, .unset, .unset, .unset, .unset] [(.int 0), (.ref b1)])) rfl (by rw [hml]; rfl) (Steps.refl _) (argsL := [(.int 0)]) (rest := []) (lenOf own_pd14 rfl) rfl (by show 2 * 0 + _ ≤ _; exact Nat.le_of_eq rfl) (hb hby at_44) (fun _ _ => ⟨rfl, rfl, (by decide : 16 + 0 ≤ _), (by decide : 116 + 0 ≤ _)⟩)
  dsimp only [Pt.U, Pt.locs, Pt.cells, Pt.slots] at X108 l108 y108 z108 st108 hQ108
  subst l108 y108 z108
  obtain ⟨rfl, N108q, e108⟩ := hQ108
  have N108 := Fr.app N90 N108q
  obtain ⟨cq109, kq109, q109a, q109b, q109c⟩ := isOf hZ e108 q91
  obtain ⟨_, _, ⟨T109, L109, k109, n109⟩, -, X109, ⟨Lc109, hQ109, l109, y109, z109⟩, st109⟩ := X108.virtualBack hx (y := (⟨"com/example/libspoke/libspoke/wheel/EntryTable", "deadline", "(I)J"⟩ : MethodName)) (z := (⟨"com/example/libspoke/libspoke/wheel/EntryTable", "deadline", "(I)J"⟩ : MethodName)) hown (mvT hZ (hw _ (own_m 135 rfl))) (mvT hZ (hw _ (own_m 136 rfl))) (notFace_of_selects (args := #[]) (mvT hZ (hw _ (own_m 138 rfl)))) (mvT hZ (hw _ (own_m 138 rfl))) (mvT hZ (hw _ (own_m 137 rfl))) (by decide) (backOf (W := 0) (own_dl2_1 l Z a0 hw [] w_CA mr y1 y2 y3 b1 dp lo2 k_dp k_lo2 p0 p1 T90.heap n0 O106 S_HI S_CA M_OA H_y1 H_y2 H_y3 E_y1 E_y2 E_y3 q91 q93 f107 q103 O_dp) hZ (hw _ (own_m 139 rfl)) (hw _ (own_m 2 rfl)) (by decide) (by decide)) q109a q109c (g := (mkF m 56 #[.val (.long p0), .second, .val (.long p1), .second, .val (.long p2), .second, .val (.long p3), .second, iv p4, rv b1, iv 0, iv 1, .unset, .unset, .unset, .unset] [(.int 1), (.ref b1)])) rfl (by rw [hml]; rfl) (Steps.refl _) (argsL := [(.int 1)]) (rest := []) (lenOf own_pd14 rfl) rfl (by show 2 * 0 + _ ≤ _; exact Nat.le_of_eq rfl) (hb hby at_56) (fun _ _ => ⟨rfl, e108, (by decide : 16 + 0 ≤ _), (by decide : 116 + 0 ≤ _)⟩)
  dsimp only [Pt.U, Pt.locs, Pt.cells, Pt.slots] at X109 l109 y109 z109 st109 hQ109
  subst l109 y109 z109
  obtain ⟨rfl, N109q, e109⟩ := hQ109
  have N109 := Fr.app N108 N109q
  have pre111 : ∀ t, Steps p.tables e below (T109.setTop (mkF m 77 #[.val (.long p0), .second, .val (.long p1), .second, .val (.long p2), .second, .val (.long p3), .second, iv p4, rv b1, iv 0, iv 1, iv 1, .val (.long p0), .second, .unset] [(.int 1), (.int p4)])) t → Steps p.tables e below (s₁.setTop (entryFrame m #[(.long p0), (.long p1), (.long p2), (.long p3), (.int p4)] maxLocals)) t := fun t kt => by
    refine pre0 _ ?_
    show Steps p.tables e below (s₁.setTop (mkF m 0 #[.val (.long p0), .second, .val (.long p1), .second, .val (.long p2), .second, .val (.long p3), .second, iv p4, .unset, .unset, .unset, .unset, .unset, .unset, .unset] [])) _
    refine st1 _ ?_
    show Steps p.tables e below (T1.setTop (mkF m 3 #[.val (.long p0), .second, .val (.long p1), .second, .val (.long p2), .second, .val (.long p3), .second, iv p4, .unset, .unset, .unset, .unset, .unset, .unset, .unset] [(.ref b1)])) _
    refine XS.dup X1.here hx rfl (hb hby at_3) rfl rfl ?_
    show Steps p.tables e below (T1.setTop (mkF m 4 #[.val (.long p0), .second, .val (.long p1), .second, .val (.long p2), .second, .val (.long p3), .second, iv p4, .unset, .unset, .unset, .unset, .unset, .unset, .unset] [(.ref b1), (.ref b1)])) _
    refine st3.trans ?_
    show Steps p.tables e below (T3.setTop (mkF m 7 #[.val (.long p0), .second, .val (.long p1), .second, .val (.long p2), .second, .val (.long p3), .second, iv p4, .unset, .unset, .unset, .unset, .unset, .unset, .unset] [(.ref b1)])) _
    refine XS.astore X3.here hx rfl (hb hby at_7) rfl rfl (l' := #[.val (.long p0), .second, .val (.long p1), .second, .val (.long p2), .second, .val (.long p3), .second, iv p4, rv b1, .unset, .unset, .unset, .unset, .unset, .unset]) rfl ?_
    show Steps p.tables e below (T3.setTop (mkF m 9 #[.val (.long p0), .second, .val (.long p1), .second, .val (.long p2), .second, .val (.long p3), .second, iv p4, rv b1, .unset, .unset, .unset, .unset, .unset, .unset] [])) _
    refine XS.aload X3.here hx rfl (hb hby at_9) rfl rfl ?_
    show Steps p.tables e below (T3.setTop (mkF m 11 #[.val (.long p0), .second, .val (.long p1), .second, .val (.long p2), .second, .val (.long p3), .second, iv p4, rv b1, .unset, .unset, .unset, .unset, .unset, .unset] [(.ref b1)])) _
    refine XS.iconst X3.here hx rfl (hb hby at_11) ?_
    show Steps p.tables e below (T3.setTop (mkF m 12 #[.val (.long p0), .second, .val (.long p1), .second, .val (.long p2), .second, .val (.long p3), .second, iv p4, rv b1, .unset, .unset, .unset, .unset, .unset, .unset] [(.int 1), (.ref b1)])) _
    refine st31 _ ?_
    show Steps p.tables e below (T31.setTop (mkF m 15 #[.val (.long p0), .second, .val (.long p1), .second, .val (.long p2), .second, .val (.long p3), .second, iv p4, rv b1, .unset, .unset, .unset, .unset, .unset, .unset] [(.ref y1), (.ref b1)])) _
    refine XS.lloadN X31.here hx rfl (hb hby at_15) rfl ?_
    show Steps p.tables e below (T31.setTop (mkF m 16 #[.val (.long p0), .second, .val (.long p1), .second, .val (.long p2), .second, .val (.long p3), .second, iv p4, rv b1, .unset, .unset, .unset, .unset, .unset, .unset] [(.long p0), (.ref y1), (.ref b1)])) _
    refine st32.trans ?_
    show Steps p.tables e below (T32.setTop (mkF m 19 #[.val (.long p0), .second, .val (.long p1), .second, .val (.long p2), .second, .val (.long p3), .second, iv p4, rv b1, .unset, .unset, .unset, .unset, .unset, .unset] [(.int 0)])) _
    refine XS.istore X32.here hx rfl (hb hby at_19) rfl (l' := #[.val (.long p0), .second, .val (.long p1), .second, .val (.long p2), .second, .val (.long p3), .second, iv p4, rv b1, iv 0, .unset, .unset, .unset, .unset, .unset]) rfl ?_
    show Steps p.tables e below (T32.setTop (mkF m 21 #[.val (.long p0), .second, .val (.long p1), .second, .val (.long p2), .second, .val (.long p3), .second, iv p4, rv b1, iv 0, .unset, .unset, .unset, .unset, .unset] [])) _
    refine XS.aload X32.here hx rfl (hb hby at_21) rfl rfl ?_
    show Steps p.tables e below (T32.setTop (mkF m 23 #[.val (.long p0), .second, .val (.long p1), .second, .val (.long p2), .second, .val (.long p3), .second, iv p4, rv b1, iv 0, .unset, .unset, .unset, .unset, .unset] [(.ref b1)])) _
    refine XS.iconst X32.here hx rfl (hb hby at_23) ?_
    show Steps p.tables e below (T32.setTop (mkF m 24 #[.val (.long p0), .second, .val (.long p1), .second, .val (.long p2), .second, .val (.long p3), .second, iv p4, rv b1, iv 0, .unset, .unset, .unset, .unset, .unset] [(.int 2), (.ref b1)])) _
    refine st55 _ ?_
    show Steps p.tables e below (T55.setTop (mkF m 27 #[.val (.long p0), .second, .val (.long p1), .second, .val (.long p2), .second, .val (.long p3), .second, iv p4, rv b1, iv 0, .unset, .unset, .unset, .unset, .unset] [(.ref y2), (.ref b1)])) _
    refine XS.lloadN X55.here hx rfl (hb hby at_27) rfl ?_
    show Steps p.tables e below (T55.setTop (mkF m 28 #[.val (.long p0), .second, .val (.long p1), .second, .val (.long p2), .second, .val (.long p3), .second, iv p4, rv b1, iv 0, .unset, .unset, .unset, .unset, .unset] [(.long p1), (.ref y2), (.ref b1)])) _
    refine st90.trans ?_
    show Steps p.tables e below (T90.setTop (mkF m 31 #[.val (.long p0), .second, .val (.long p1), .second, .val (.long p2), .second, .val (.long p3), .second, iv p4, rv b1, iv 0, .unset, .unset, .unset, .unset, .unset] [(.int 1)])) _
    refine XS.istore X90.here hx rfl (hb hby at_31) rfl (l' := #[.val (.long p0), .second, .val (.long p1), .second, .val (.long p2), .second, .val (.long p3), .second, iv p4, rv b1, iv 0, iv 1, .unset, .unset, .unset, .unset]) rfl ?_
    show Steps p.tables e below (T90.setTop (mkF m 33 #[.val (.long p0), .second, .val (.long p1), .second, .val (.long p2), .second, .val (.long p3), .second, iv p4, rv b1, iv 0, iv 1, .unset, .unset, .unset, .unset] [])) _
    refine XS.iload X90.here hx rfl (hb hby at_33) rfl ?_
    show Steps p.tables e below (T90.setTop (mkF m 35 #[.val (.long p0), .second, .val (.long p1), .second, .val (.long p2), .second, .val (.long p3), .second, iv p4, rv b1, iv 0, iv 1, .unset, .unset, .unset, .unset] [(.int 0)])) _
    refine XS.iload X90.here hx rfl (hb hby at_35) rfl ?_
    show Steps p.tables e below (T90.setTop (mkF m 37 #[.val (.long p0), .second, .val (.long p1), .second, .val (.long p2), .second, .val (.long p3), .second, iv p4, rv b1, iv 0, iv 1, .unset, .unset, .unset, .unset] [(.int 1), (.int 0)])) _
    refine XS.icmpNo X90.here hx rfl (hb hby at_37) rfl (feq (by decide)).1 ?_
    show Steps p.tables e below (T90.setTop (mkF m 40 #[.val (.long p0), .second, .val (.long p1), .second, .val (.long p2), .second, .val (.long p3), .second, iv p4, rv b1, iv 0, iv 1, .unset, .unset, .unset, .unset] [])) _
    refine XS.aload X90.here hx rfl (hb hby at_40) rfl rfl ?_
    show Steps p.tables e below (T90.setTop (mkF m 42 #[.val (.long p0), .second, .val (.long p1), .second, .val (.long p2), .second, .val (.long p3), .second, iv p4, rv b1, iv 0, iv 1, .unset, .unset, .unset, .unset] [(.ref b1)])) _
    refine XS.iload X90.here hx rfl (hb hby at_42) rfl ?_
    show Steps p.tables e below (T90.setTop (mkF m 44 #[.val (.long p0), .second, .val (.long p1), .second, .val (.long p2), .second, .val (.long p3), .second, iv p4, rv b1, iv 0, iv 1, .unset, .unset, .unset, .unset] [(.int 0), (.ref b1)])) _
    refine st108.trans ?_
    show Steps p.tables e below (T108.setTop (mkF m 47 #[.val (.long p0), .second, .val (.long p1), .second, .val (.long p2), .second, .val (.long p3), .second, iv p4, rv b1, iv 0, iv 1, .unset, .unset, .unset, .unset] [(.long p0)])) _
    refine XS.lloadN X108.here hx rfl (hb hby at_47) rfl ?_
    show Steps p.tables e below (T108.setTop (mkF m 48 #[.val (.long p0), .second, .val (.long p1), .second, .val (.long p2), .second, .val (.long p3), .second, iv p4, rv b1, iv 0, iv 1, .unset, .unset, .unset, .unset] [(.long p0), (.long p0)])) _
    refine XS.lcmp X108.here hx rfl (hb hby at_48) rfl ?_
    show Steps p.tables e below (T108.setTop (mkF m 49 #[.val (.long p0), .second, .val (.long p1), .second, .val (.long p2), .second, .val (.long p3), .second, iv p4, rv b1, iv 0, iv 1, .unset, .unset, .unset, .unset] [(.int (lcmpW p0 p0))])) _
    refine XS.ifNo X108.here hx rfl (hb hby at_49) rfl ((if0 _ _).trans (teq ((lw_eq _ _).mpr rfl)).2) ?_
    show Steps p.tables e below (T108.setTop (mkF m 52 #[.val (.long p0), .second, .val (.long p1), .second, .val (.long p2), .second, .val (.long p3), .second, iv p4, rv b1, iv 0, iv 1, .unset, .unset, .unset, .unset] [])) _
    refine XS.aload X108.here hx rfl (hb hby at_52) rfl rfl ?_
    show Steps p.tables e below (T108.setTop (mkF m 54 #[.val (.long p0), .second, .val (.long p1), .second, .val (.long p2), .second, .val (.long p3), .second, iv p4, rv b1, iv 0, iv 1, .unset, .unset, .unset, .unset] [(.ref b1)])) _
    refine XS.iload X108.here hx rfl (hb hby at_54) rfl ?_
    show Steps p.tables e below (T108.setTop (mkF m 56 #[.val (.long p0), .second, .val (.long p1), .second, .val (.long p2), .second, .val (.long p3), .second, iv p4, rv b1, iv 0, iv 1, .unset, .unset, .unset, .unset] [(.int 1), (.ref b1)])) _
    refine st109.trans ?_
    show Steps p.tables e below (T109.setTop (mkF m 59 #[.val (.long p0), .second, .val (.long p1), .second, .val (.long p2), .second, .val (.long p3), .second, iv p4, rv b1, iv 0, iv 1, .unset, .unset, .unset, .unset] [(.long p1)])) _
    refine XS.lloadN X109.here hx rfl (hb hby at_59) rfl ?_
    show Steps p.tables e below (T109.setTop (mkF m 60 #[.val (.long p0), .second, .val (.long p1), .second, .val (.long p2), .second, .val (.long p3), .second, iv p4, rv b1, iv 0, iv 1, .unset, .unset, .unset, .unset] [(.long p1), (.long p1)])) _
    refine XS.lcmp X109.here hx rfl (hb hby at_60) rfl ?_
    show Steps p.tables e below (T109.setTop (mkF m 61 #[.val (.long p0), .second, .val (.long p1), .second, .val (.long p2), .second, .val (.long p3), .second, iv p4, rv b1, iv 0, iv 1, .unset, .unset, .unset, .unset] [(.int (lcmpW p1 p1))])) _
    refine XS.ifNo X109.here hx rfl (hb hby at_61) rfl ((if0 _ _).trans (teq ((lw_eq _ _).mpr rfl)).2) ?_
    show Steps p.tables e below (T109.setTop (mkF m 64 #[.val (.long p0), .second, .val (.long p1), .second, .val (.long p2), .second, .val (.long p3), .second, iv p4, rv b1, iv 0, iv 1, .unset, .unset, .unset, .unset] [])) _
    refine XS.iconst X109.here hx rfl (hb hby at_64) ?_
    show Steps p.tables e below (T109.setTop (mkF m 65 #[.val (.long p0), .second, .val (.long p1), .second, .val (.long p2), .second, .val (.long p3), .second, iv p4, rv b1, iv 0, iv 1, .unset, .unset, .unset, .unset] [(.int 1)])) _
    refine XS.goto X109.here hx rfl (pc0 := 65) (pc' := 69) rfl (hb hby at_65) (by decide) (by decide) ?_
    show Steps p.tables e below (T109.setTop (mkF m 69 #[.val (.long p0), .second, .val (.long p1), .second, .val (.long p2), .second, .val (.long p3), .second, iv p4, rv b1, iv 0, iv 1, .unset, .unset, .unset, .unset] [(.int 1)])) _
    refine XS.istore X109.here hx rfl (hb hby at_69) rfl (l' := #[.val (.long p0), .second, .val (.long p1), .second, .val (.long p2), .second, .val (.long p3), .second, iv p4, rv b1, iv 0, iv 1, iv 1, .unset, .unset, .unset]) rfl ?_
    show Steps p.tables e below (T109.setTop (mkF m 71 #[.val (.long p0), .second, .val (.long p1), .second, .val (.long p2), .second, .val (.long p3), .second, iv p4, rv b1, iv 0, iv 1, iv 1, .unset, .unset, .unset] [])) _
    refine XS.lloadN X109.here hx rfl (hb hby at_71) rfl ?_
    show Steps p.tables e below (T109.setTop (mkF m 72 #[.val (.long p0), .second, .val (.long p1), .second, .val (.long p2), .second, .val (.long p3), .second, iv p4, rv b1, iv 0, iv 1, iv 1, .unset, .unset, .unset] [(.long p0)])) _
    refine XS.lstore X109.here hx rfl (hb hby at_72) rfl (l' := #[.val (.long p0), .second, .val (.long p1), .second, .val (.long p2), .second, .val (.long p3), .second, iv p4, rv b1, iv 0, iv 1, iv 1, .val (.long p0), .second, .unset]) rfl ?_
    show Steps p.tables e below (T109.setTop (mkF m 74 #[.val (.long p0), .second, .val (.long p1), .second, .val (.long p2), .second, .val (.long p3), .second, iv p4, rv b1, iv 0, iv 1, iv 1, .val (.long p0), .second, .unset] [])) _
    refine XS.iload X109.here hx rfl (hb hby at_74) rfl ?_
    show Steps p.tables e below (T109.setTop (mkF m 76 #[.val (.long p0), .second, .val (.long p1), .second, .val (.long p2), .second, .val (.long p3), .second, iv p4, rv b1, iv 0, iv 1, iv 1, .val (.long p0), .second, .unset] [(.int p4)])) _
    refine XS.iconst X109.here hx rfl (hb hby at_76) ?_
    show Steps p.tables e below (T109.setTop (mkF m 77 #[.val (.long p0), .second, .val (.long p1), .second, .val (.long p2), .second, .val (.long p3), .second, iv p4, rv b1, iv 0, iv 1, iv 1, .val (.long p0), .second, .unset] [(.int 1), (.int p4)])) _
    exact kt
  by_cases hc110 : (p4 &&& (1 : Int32)) = (0 : Int32)
  · have pre113 : ∀ t, Steps p.tables e below (T109.setTop (mkF m 134 #[.val (.long p0), .second, .val (.long p1), .second, .val (.long p2), .second, .val (.long p3), .second, iv p4, rv b1, iv 0, iv 1, iv 1, .val (.long p0), .second, .unset] [(.int 2), (.int p4)])) t → Steps p.tables e below (s₁.setTop (entryFrame m #[(.long p0), (.long p1), (.long p2), (.long p3), (.int p4)] maxLocals)) t := fun t kt => by
      refine pre111 _ ?_
      show Steps p.tables e below (T109.setTop (mkF m 77 #[.val (.long p0), .second, .val (.long p1), .second, .val (.long p2), .second, .val (.long p3), .second, iv p4, rv b1, iv 0, iv 1, iv 1, .val (.long p0), .second, .unset] [(.int 1), (.int p4)])) _
      refine XS.iand X109.here hx rfl (hb hby at_77) rfl ?_
      show Steps p.tables e below (T109.setTop (mkF m 78 #[.val (.long p0), .second, .val (.long p1), .second, .val (.long p2), .second, .val (.long p3), .second, iv p4, rv b1, iv 0, iv 1, iv 1, .val (.long p0), .second, .unset] [(.int (p4 &&& (1 : Int32)))])) _
      refine XS.ifYes X109.here hx rfl (pc0 := 78) (pc' := 131) rfl (hb hby at_78) rfl ((if0 _ _).trans (teq hc110).1) (by decide) (by decide) ?_
      show Steps p.tables e below (T109.setTop (mkF m 131 #[.val (.long p0), .second, .val (.long p1), .second, .val (.long p2), .second, .val (.long p3), .second, iv p4, rv b1, iv 0, iv 1, iv 1, .val (.long p0), .second, .unset] [])) _
      refine XS.iload X109.here hx rfl (hb hby at_131) rfl ?_
      show Steps p.tables e below (T109.setTop (mkF m 133 #[.val (.long p0), .second, .val (.long p1), .second, .val (.long p2), .second, .val (.long p3), .second, iv p4, rv b1, iv 0, iv 1, iv 1, .val (.long p0), .second, .unset] [(.int p4)])) _
      refine XS.iconst X109.here hx rfl (hb hby at_133) ?_
      show Steps p.tables e below (T109.setTop (mkF m 134 #[.val (.long p0), .second, .val (.long p1), .second, .val (.long p2), .second, .val (.long p3), .second, iv p4, rv b1, iv 0, iv 1, iv 1, .val (.long p0), .second, .unset] [(.int 2), (.int p4)])) _
      exact kt
    by_cases hc112 : (p4 &&& (2 : Int32)) = (0 : Int32)
    · obtain ⟨fs, hr, hrun, hended, hW, hsame⟩ := X109.leave (v := some (.int 1)) (fun h => by rw [Bd.returns] at h; cases h)
      refine ⟨_, _, pre113 _ ?_, hrun, hended, _, _, rfl, ?_, ⟨_, rfl⟩, hW, hsame.mono (by decide) (by decide)⟩
      · show Steps p.tables e below (T109.setTop (mkF m 134 #[.val (.long p0), .second, .val (.long p1), .second, .val (.long p2), .second, .val (.long p3), .second, iv p4, rv b1, iv 0, iv 1, iv 1, .val (.long p0), .second, .unset] [(.int 2), (.int p4)])) _
        refine XS.iand X109.here hx rfl (hb hby at_134) rfl ?_
        show Steps p.tables e below (T109.setTop (mkF m 135 #[.val (.long p0), .second, .val (.long p1), .second, .val (.long p2), .second, .val (.long p3), .second, iv p4, rv b1, iv 0, iv 1, iv 1, .val (.long p0), .second, .unset] [(.int (p4 &&& (2 : Int32)))])) _
        refine XS.ifYes X109.here hx rfl (pc0 := 135) (pc' := 203) rfl (hb hby at_135) rfl ((if0 _ _).trans (teq hc112).1) (by decide) (by decide) ?_
        show Steps p.tables e below (T109.setTop (mkF m 203 #[.val (.long p0), .second, .val (.long p1), .second, .val (.long p2), .second, .val (.long p3), .second, iv p4, rv b1, iv 0, iv 1, iv 1, .val (.long p0), .second, .unset] [])) _
        refine XS.iload X109.here hx rfl (hb hby at_203) rfl ?_
        show Steps p.tables e below (T109.setTop (mkF m 205 #[.val (.long p0), .second, .val (.long p1), .second, .val (.long p2), .second, .val (.long p3), .second, iv p4, rv b1, iv 0, iv 1, iv 1, .val (.long p0), .second, .unset] [(.int 1)])) _
        exact retN X109 hx (t := .boolean) Bd.returns (by simp) (hb hby at_205) hr
      · show own_law_Q Z w_CA mr y1 y2 y3 p0 p1 p2 p3 p4 h0 n0 _ T109.heap _
        rw [e109]
        exact ⟨rfl, N109⟩
    · have f114 := (q44.keep K90 (ninS (Ne.symm ne_b1_ip) (ninS ne_ip_io2 (ninS ne_ip_lo2 (ninS n84 (ninS n83 nin0))))))
      have f115 := (q48.keep K90 (ninS (Ne.symm ne_b1_lp) (ninS ne_lp_io2 (ninS ne_lp_lo2 (ninS n70 (ninS n69 nin0))))))
      have f116 := (q49.keep K90 (ninS (Ne.symm ne_b1_li2) (ninS (Ne.symm n78) (ninS (Ne.symm n71) (ninS (Ne.symm ne_ps_li2) (ninS (Ne.symm ne_pf_li2) nin0))))))
      obtain ⟨cq117, kq117, q117a, q117b, q117c⟩ := isOf hZ e109 q91
      obtain ⟨_, _, ⟨T117, L117, k117, n117⟩, -, X117, ⟨Lc117, hQ117, l117, y117, z117⟩, st117⟩ := X109.virtualBack hx (y := (⟨"com/example/libspoke/libspoke/wheel/EntryTable", "remove", "(I)V"⟩ : MethodName)) (z := (⟨"com/example/libspoke/libspoke/wheel/EntryTable", "remove", "(I)V"⟩ : MethodName)) hown (mvT hZ (hw _ (own_m 141 rfl))) (mvT hZ (hw _ (own_m 142 rfl))) (notFace_of_selects (args := #[]) (mvT hZ (hw _ (own_m 144 rfl)))) (mvT hZ (hw _ (own_m 144 rfl))) (mvT hZ (hw _ (own_m 143 rfl))) (by decide) (backOf (W := 0) (own_rmv l Z a0 hw [] w_CA mr y1 y2 y3 b1 ip dp lp ps pf pg pt io2 li2 k_ip k_io2 k_lp k_li2 k_ps k_pf T90.heap n0 O106 S_HI S_CA M_OA H_y1 H_y2 H_y3 E_y1 E_y2 E_y3 (allS gg_b1 (allS gg_ip (allS gg_io2 (allS gg_lp (allS gg_li2 (allS gg_ps (allS gg_pf all0))))))) (own_ndc (allS ne_b1_ip (allS ne_b1_io2 (allS ne_b1_lp (allS ne_b1_li2 (allS ne_b1_ps (allS ne_b1_pf all0)))))) (own_ndc (allS ne_ip_io2 (allS n85 (allS ne_ip_li2 (allS n84 (allS n83 all0))))) (own_ndc (allS (Ne.symm ne_lp_io2) (allS n78 (allS (Ne.symm ne_ps_io2) (allS (Ne.symm ne_pf_io2) all0)))) (own_ndc (allS ne_lp_li2 (allS n70 (allS n69 all0))) (own_ndc (allS (Ne.symm ne_ps_li2) (allS (Ne.symm ne_pf_li2) all0)) (own_ndc (allS n65 all0) (own_ndc all0 own_nd0))))))) q91 q92 q93 q94 q95 q96 q97 q98 q99 q100 q101 f114 q102 f115 f116 q104 q105 O_ip O_io2 O_lp) hZ (hw _ (own_m 145 rfl)) (hw _ (own_m 2 rfl)) (by decide) (by decide)) q117a q117c (g := (mkF m 142 #[.val (.long p0), .second, .val (.long p1), .second, .val (.long p2), .second, .val (.long p3), .second, iv p4, rv b1, iv 0, iv 1, iv 1, .val (.long p0), .second, .unset] [(.int 1), (.ref b1)])) rfl (by rw [hml]; rfl) (Steps.refl _) (argsL := [(.int 1)]) (rest := []) (lenOf own_pd5 rfl) rfl (by show 2 * 0 + _ ≤ _; exact Nat.le_of_eq rfl) (hb hby at_142) (fun _ _ => ⟨rfl, e109, (by decide : 16 + 0 ≤ _), (by decide : 116 + 0 ≤ _)⟩)
      dsimp only [Pt.U, Pt.locs, Pt.cells, Pt.slots] at X117 l117 y117 z117 st117 hQ117
      subst l117 y117 z117
      obtain ⟨rfl, N117q, K117, q118, q119, q120, q121, q122, q123, q124, q125, q126, q127, q128, q129, q130, q131, q132⟩ := hQ117
      have N117 := Fr.app N109 N117q
      have O133 := O106.keep K117 (allS gg_b1 (allS gg_io2 (allS gg_li2 (allS gg_ps (allS gg_pf all0)))))
      obtain ⟨_, _, ⟨T134, L134, k134, n134⟩, -, X134, ⟨Lc134, hQ134, l134, y134, z134⟩, st134⟩ := Jvm.LawKit.callS X117 hx (y := (⟨"java/lang/Integer", "valueOf", "(I)Ljava/lang/Integer;"⟩ : MethodName)) hown (mvT hZ (hw _ (own_m 49 rfl))) (mvT hZ (hw _ (own_m 50 rfl))) (mvT hZ (hw _ (own_m 51 rfl))) (mvT hZ (hw _ (own_m 52 rfl))) (by decide) (backOf (W := 1) (own_vo3 l Z a0 hw [] w_CA mr y1 y2 y3  T117.heap n0 O133 S_HI S_CA M_OA H_y1 H_y2 H_y3 E_y1 E_y2 E_y3 ) hZ (hw _ (own_m 52 rfl)) (hw _ (own_m 51 rfl)) (by decide) (by decide)) (g := (mkF m 148 #[.val (.long p0), .second, .val (.long p1), .second, .val (.long p2), .second, .val (.long p3), .second, iv p4, rv b1, iv 0, iv 1, iv 1, .val (.long p0), .second, .unset] [(.int 3), (.ref b1)])) rfl (by rw [hml]; rfl) (argsL := [(.int 3)]) (rest := [(.ref b1)]) (lenOf own_pd12 rfl) rfl (by show 2 * 0 + _ ≤ _; exact Nat.le_of_eq rfl) (hb hby at_148) (fun _ _ => ⟨rfl, rfl, (by decide : 16 + 0 ≤ _), (by decide : 116 + 0 ≤ _)⟩)
      dsimp only [Pt.U, Pt.locs, Pt.cells, Pt.slots] at X134 l134 y134 z134 st134 hQ134
      subst l134 y134 z134
      obtain ⟨rfl, N134q, e134⟩ := hQ134
      have N134 := Fr.app N117 N134q
      have f135 := (f114.keep K117 (ninS (Ne.symm ne_b1_ip) (ninS ne_ip_io2 (ninS ne_ip_li2 (ninS n84 (ninS n83 nin0))))))
      have f136 := (f107.keep K117 (ninS (Ne.symm ne_b1_dp) (ninS ne_dp_io2 (ninS ne_dp_li2 (ninS n76 (ninS n75 nin0))))))
      have f137 := (q103.keep K117 (ninS (Ne.symm ne_b1_lo2) (ninS (Ne.symm n79) (ninS n71 (ninS (Ne.symm ne_ps_lo2) (ninS (Ne.symm ne_pf_lo2) nin0))))))
      have f138 := (f115.keep K117 (ninS (Ne.symm ne_b1_lp) (ninS ne_lp_io2 (ninS ne_lp_li2 (ninS n70 (ninS n69 nin0))))))
      have f139 := ((f87.keep K90).keep K117)
      have f140 := ((f88.keep K90 (ninS (Ne.symm ne_b1_pt) (ninS ne_pt_io2 (ninS ne_pt_lo2 (ninS (Ne.symm n64) (ninS (Ne.symm n61) nin0)))))).keep K117 (ninS (Ne.symm ne_b1_pt) (ninS ne_pt_io2 (ninS ne_pt_li2 (ninS (Ne.symm n64) (ninS (Ne.symm n61) nin0))))))
      have f141 := ((f89.keep K90 (ninS (Ne.symm ne_b1_pt) (ninS ne_pt_io2 (ninS ne_pt_lo2 (ninS (Ne.symm n64) (ninS (Ne.symm n61) nin0)))))).keep K117 (ninS (Ne.symm ne_b1_pt) (ninS ne_pt_io2 (ninS ne_pt_li2 (ninS (Ne.symm n64) (ninS (Ne.symm n61) nin0))))))
      have f142 := ((q51.keep K90 (ninS (Ne.symm ne_b1_pb) (ninS ne_pb_io2 (ninS ne_pb_lo2 (ninS (Ne.symm n63) (ninS (Ne.symm n60) nin0)))))).keep K117 (ninS (Ne.symm ne_b1_pb) (ninS ne_pb_io2 (ninS ne_pb_li2 (ninS (Ne.symm n63) (ninS (Ne.symm n60) nin0))))))
      have f143 := ((q52.keep K90 (ninS (Ne.symm ne_b1_wb) (ninS ne_wb_io2 (ninS ne_wb_lo2 (ninS (Ne.symm n62) (ninS (Ne.symm n59) nin0)))))).keep K117 (ninS (Ne.symm ne_b1_wb) (ninS ne_wb_io2 (ninS ne_wb_li2 (ninS (Ne.symm n62) (ninS (Ne.symm n59) nin0))))))
      obtain ⟨cq144, kq144, q144a, q144b, q144c⟩ := isOf hZ e134 q118
      obtain ⟨_, _, ⟨T144, L144, k144, n144⟩, -, X144, ⟨Lc144, hQ144, l144, y144, z144⟩, st144⟩ := X134.virtualBack hx (y := (⟨"com/example/libspoke/libspoke/wheel/EntryTable", "add", "(Ljava/lang/Object;J)I"⟩ : MethodName)) (z := (⟨"com/example/libspoke/libspoke/wheel/EntryTable", "add", "(Ljava/lang/Object;J)I"⟩ : MethodName)) hown (mvT hZ (hw _ (own_m 56 rfl))) (mvT hZ (hw _ (own_m 57 rfl))) (notFace_of_selects (args := #[]) (mvT hZ (hw _ (own_m 59 rfl)))) (mvT hZ (hw _ (own_m 59 rfl))) (mvT hZ (hw _ (own_m 58 rfl))) (by decide) (backOf (W := 0) (own_add7 l Z a0 hw [] w_CA mr y1 y2 y3 b1 ip dp lp ps pf pg pt io2 lo2 li2 pb wb k_ip k_io2 k_dp k_lo2 k_lp k_li2 k_ps k_pf k_pb k_wb p0 p1 p3 T117.heap n0 O133 S_HI S_CA M_OA H_y1 H_y2 H_y3 E_y1 E_y2 E_y3 (allS gg_b1 (allS gg_ip (allS gg_io2 (allS gg_dp (allS gg_lo2 (allS gg_lp (allS gg_li2 (allS gg_ps (allS gg_pf (allS gg_pt (allS gg_pb (allS gg_wb all0)))))))))))) (own_ndc (allS ne_b1_ip (allS ne_b1_io2 (allS ne_b1_dp (allS ne_b1_lo2 (allS ne_b1_lp (allS ne_b1_li2 (allS ne_b1_ps (allS ne_b1_pf (allS ne_b1_pt (allS ne_b1_pb (allS ne_b1_wb all0))))))))))) (own_ndc (allS ne_ip_io2 (allS n86 (allS ne_ip_lo2 (allS n85 (allS ne_ip_li2 (allS n84 (allS n83 (allS n82 (allS n81 (allS n80 all0)))))))))) (own_ndc (allS (Ne.symm ne_dp_io2) (allS n79 (allS (Ne.symm ne_lp_io2) (allS n78 (allS (Ne.symm ne_ps_io2) (allS (Ne.symm ne_pf_io2) (allS (Ne.symm ne_pt_io2) (allS (Ne.symm ne_pb_io2) (allS (Ne.symm ne_wb_io2) all0))))))))) (own_ndc (allS ne_dp_lo2 (allS n77 (allS ne_dp_li2 (allS n76 (allS n75 (allS n74 (allS n73 (allS n72 all0)))))))) (own_ndc (allS (Ne.symm ne_lp_lo2) (allS n71 (allS (Ne.symm ne_ps_lo2) (allS (Ne.symm ne_pf_lo2) (allS (Ne.symm ne_pt_lo2) (allS (Ne.symm ne_pb_lo2) (allS (Ne.symm ne_wb_lo2) all0))))))) (own_ndc (allS ne_lp_li2 (allS n70 (allS n69 (allS n68 (allS n67 (allS n66 all0)))))) (own_ndc (allS (Ne.symm ne_ps_li2) (allS (Ne.symm ne_pf_li2) (allS (Ne.symm ne_pt_li2) (allS (Ne.symm ne_pb_li2) (allS (Ne.symm ne_wb_li2) all0))))) (own_ndc (allS n65 (allS n64 (allS n63 (allS n62 all0)))) (own_ndc (allS n61 (allS n60 (allS n59 all0))) (own_ndc (allS n58 (allS n57 all0)) (own_ndc (allS n56 all0) (own_ndc all0 own_nd0)))))))))))) q118 q119 q120 q121 q122 q123 q124 q125 q126 q127 q128 f135 q129 f136 f137 f138 q130 q131 q132 f139 f140 f141 f142 f143 O_ip O_io2 O_dp O_lp) hZ (hw _ (own_m 60 rfl)) (hw _ (own_m 2 rfl)) (by decide) (by decide)) q144a q144c (g := (mkF m 153 #[.val (.long p0), .second, .val (.long p1), .second, .val (.long p2), .second, .val (.long p3), .second, iv p4, rv b1, iv 0, iv 1, iv 1, .val (.long p0), .second, .unset] [(.long p3), (.ref y3), (.ref b1)])) rfl (by rw [hml]; rfl) (Steps.refl _) (argsL := [(.ref y3), (.long p3)]) (rest := []) (lenOf own_pd13 rfl) rfl (by show 2 * 0 + _ ≤ _; exact Nat.le_of_eq rfl) (hb hby at_153) (fun _ _ => ⟨rfl, e134, (by decide : 16 + 0 ≤ _), (by decide : 116 + 0 ≤ _)⟩)
      dsimp only [Pt.U, Pt.locs, Pt.cells, Pt.slots] at X144 l144 y144 z144 st144 hQ144
      subst l144 y144 z144
      obtain ⟨rfl, N144q, K144, q145, q146, q147, q148, q149, q150, q151, q152, q153, q154, q155, q156, q157, q158, q159⟩ := hQ144
      have N144 := Fr.app N134 N144q
      have O160 := O133.keep K144 (allS gg_b1 (allS gg_io2 (allS gg_lo2 (allS gg_ps (allS gg_pf all0)))))
      have f161 := (f136.keep K144 (ninS (Ne.symm ne_b1_dp) (ninS ne_dp_io2 (ninS ne_dp_lo2 (ninS n76 (ninS n75 nin0))))))
      obtain ⟨cq162, kq162, q162a, q162b, q162c⟩ := isOf hZ rfl q145
      obtain ⟨_, _, ⟨T162, L162, k162, n162⟩, -, X162, ⟨Lc162, hQ162, l162, y162, z162⟩, st162⟩ := X144.virtualBack hx (y := (⟨"com/example/libspoke/libspoke/wheel/EntryTable", "deadline", "(I)J"⟩ : MethodName)) (z := (⟨"com/example/libspoke/libspoke/wheel/EntryTable", "deadline", "(I)J"⟩ : MethodName)) hown (mvT hZ (hw _ (own_m 135 rfl))) (mvT hZ (hw _ (own_m 136 rfl))) (notFace_of_selects (args := #[]) (mvT hZ (hw _ (own_m 138 rfl)))) (mvT hZ (hw _ (own_m 138 rfl))) (mvT hZ (hw _ (own_m 137 rfl))) (by decide) (backOf (W := 0) (own_dl2_1 l Z a0 hw [] w_CA mr y1 y2 y3 b1 dp lo2 k_dp k_lo2 p0 p3 T144.heap n0 O160 S_HI S_CA M_OA H_y1 H_y2 H_y3 E_y1 E_y2 E_y3 q145 q147 f161 q157 O_dp) hZ (hw _ (own_m 139 rfl)) (hw _ (own_m 2 rfl)) (by decide) (by decide)) q162a q162c (g := (mkF m 174 #[.val (.long p0), .second, .val (.long p1), .second, .val (.long p2), .second, .val (.long p3), .second, iv p4, rv b1, iv 0, iv 1, iv 1, .val (.long p0), .second, iv 1] [(.int 1), (.ref b1)])) rfl (by rw [hml]; rfl) (Steps.refl _) (argsL := [(.int 1)]) (rest := []) (lenOf own_pd14 rfl) rfl (by show 2 * 0 + _ ≤ _; exact Nat.le_of_eq rfl) (hb hby at_174) (fun _ _ => ⟨rfl, rfl, (by decide : 16 + 0 ≤ _), (by decide : 116 + 0 ≤ _)⟩)
      dsimp only [Pt.U, Pt.locs, Pt.cells, Pt.slots] at X162 l162 y162 z162 st162 hQ162
      subst l162 y162 z162
      obtain ⟨rfl, N162q, e162⟩ := hQ162
      have N162 := Fr.app N144 N162q
      obtain ⟨cq163, kq163, q163a, q163b, q163c⟩ := isOf hZ e162 q145
      obtain ⟨_, _, ⟨T163, L163, k163, n163⟩, -, X163, ⟨Lc163, hQ163, l163, y163, z163⟩, st163⟩ := X162.virtualBack hx (y := (⟨"com/example/libspoke/libspoke/wheel/EntryTable", "deadline", "(I)J"⟩ : MethodName)) (z := (⟨"com/example/libspoke/libspoke/wheel/EntryTable", "deadline", "(I)J"⟩ : MethodName)) hown (mvT hZ (hw _ (own_m 135 rfl))) (mvT hZ (hw _ (own_m 136 rfl))) (notFace_of_selects (args := #[]) (mvT hZ (hw _ (own_m 138 rfl)))) (mvT hZ (hw _ (own_m 138 rfl))) (mvT hZ (hw _ (own_m 137 rfl))) (by decide) (backOf (W := 0) (own_dl2_0 l Z a0 hw [] w_CA mr y1 y2 y3 b1 dp lo2 k_dp k_lo2 p0 p3 T144.heap n0 O160 S_HI S_CA M_OA H_y1 H_y2 H_y3 E_y1 E_y2 E_y3 q145 q147 f161 q157 O_dp) hZ (hw _ (own_m 139 rfl)) (hw _ (own_m 2 rfl)) (by decide) (by decide)) q163a q163c (g := (mkF m 187 #[.val (.long p0), .second, .val (.long p1), .second, .val (.long p2), .second, .val (.long p3), .second, iv p4, rv b1, iv 0, iv 1, iv 1, .val (.long p0), .second, iv 1] [(.int 0), (.ref b1)])) rfl (by rw [hml]; rfl) (Steps.refl _) (argsL := [(.int 0)]) (rest := []) (lenOf own_pd14 rfl) rfl (by show 2 * 0 + _ ≤ _; exact Nat.le_of_eq rfl) (hb hby at_187) (fun _ _ => ⟨rfl, e162, (by decide : 16 + 0 ≤ _), (by decide : 116 + 0 ≤ _)⟩)
      dsimp only [Pt.U, Pt.locs, Pt.cells, Pt.slots] at X163 l163 y163 z163 st163 hQ163
      subst l163 y163 z163
      obtain ⟨rfl, N163q, e163⟩ := hQ163
      have N163 := Fr.app N162 N163q
      obtain ⟨fs, hr, hrun, hended, hW, hsame⟩ := X163.leave (v := some (.int 1)) (fun h => by rw [Bd.returns] at h; cases h)
      refine ⟨_, _, pre113 _ ?_, hrun, hended, _, _, rfl, ?_, ⟨_, rfl⟩, hW, hsame.mono (by decide) (by decide)⟩
      · show Steps p.tables e below (T109.setTop (mkF m 134 #[.val (.long p0), .second, .val (.long p1), .second, .val (.long p2), .second, .val (.long p3), .second, iv p4, rv b1, iv 0, iv 1, iv 1, .val (.long p0), .second, .unset] [(.int 2), (.int p4)])) _
        refine XS.iand X109.here hx rfl (hb hby at_134) rfl ?_
        show Steps p.tables e below (T109.setTop (mkF m 135 #[.val (.long p0), .second, .val (.long p1), .second, .val (.long p2), .second, .val (.long p3), .second, iv p4, rv b1, iv 0, iv 1, iv 1, .val (.long p0), .second, .unset] [(.int (p4 &&& (2 : Int32)))])) _
        refine XS.ifNo X109.here hx rfl (hb hby at_135) rfl ((if0 _ _).trans (feq hc112).1) ?_
        show Steps p.tables e below (T109.setTop (mkF m 138 #[.val (.long p0), .second, .val (.long p1), .second, .val (.long p2), .second, .val (.long p3), .second, iv p4, rv b1, iv 0, iv 1, iv 1, .val (.long p0), .second, .unset] [])) _
        refine XS.aload X109.here hx rfl (hb hby at_138) rfl rfl ?_
        show Steps p.tables e below (T109.setTop (mkF m 140 #[.val (.long p0), .second, .val (.long p1), .second, .val (.long p2), .second, .val (.long p3), .second, iv p4, rv b1, iv 0, iv 1, iv 1, .val (.long p0), .second, .unset] [(.ref b1)])) _
        refine XS.iload X109.here hx rfl (hb hby at_140) rfl ?_
        show Steps p.tables e below (T109.setTop (mkF m 142 #[.val (.long p0), .second, .val (.long p1), .second, .val (.long p2), .second, .val (.long p3), .second, iv p4, rv b1, iv 0, iv 1, iv 1, .val (.long p0), .second, .unset] [(.int 1), (.ref b1)])) _
        refine st117.trans ?_
        show Steps p.tables e below (T117.setTop (mkF m 145 #[.val (.long p0), .second, .val (.long p1), .second, .val (.long p2), .second, .val (.long p3), .second, iv p4, rv b1, iv 0, iv 1, iv 1, .val (.long p0), .second, .unset] [])) _
        refine XS.aload X117.here hx rfl (hb hby at_145) rfl rfl ?_
        show Steps p.tables e below (T117.setTop (mkF m 147 #[.val (.long p0), .second, .val (.long p1), .second, .val (.long p2), .second, .val (.long p3), .second, iv p4, rv b1, iv 0, iv 1, iv 1, .val (.long p0), .second, .unset] [(.ref b1)])) _
        refine XS.iconst X117.here hx rfl (hb hby at_147) ?_
        show Steps p.tables e below (T117.setTop (mkF m 148 #[.val (.long p0), .second, .val (.long p1), .second, .val (.long p2), .second, .val (.long p3), .second, iv p4, rv b1, iv 0, iv 1, iv 1, .val (.long p0), .second, .unset] [(.int 3), (.ref b1)])) _
        refine st134 _ ?_
        show Steps p.tables e below (T134.setTop (mkF m 151 #[.val (.long p0), .second, .val (.long p1), .second, .val (.long p2), .second, .val (.long p3), .second, iv p4, rv b1, iv 0, iv 1, iv 1, .val (.long p0), .second, .unset] [(.ref y3), (.ref b1)])) _
        refine XS.lload X134.here hx rfl (hb hby at_151) rfl ?_
        show Steps p.tables e below (T134.setTop (mkF m 153 #[.val (.long p0), .second, .val (.long p1), .second, .val (.long p2), .second, .val (.long p3), .second, iv p4, rv b1, iv 0, iv 1, iv 1, .val (.long p0), .second, .unset] [(.long p3), (.ref y3), (.ref b1)])) _
        refine st144.trans ?_
        show Steps p.tables e below (T144.setTop (mkF m 156 #[.val (.long p0), .second, .val (.long p1), .second, .val (.long p2), .second, .val (.long p3), .second, iv p4, rv b1, iv 0, iv 1, iv 1, .val (.long p0), .second, .unset] [(.int 1)])) _
        refine XS.istore X144.here hx rfl (hb hby at_156) rfl (l' := #[.val (.long p0), .second, .val (.long p1), .second, .val (.long p2), .second, .val (.long p3), .second, iv p4, rv b1, iv 0, iv 1, iv 1, .val (.long p0), .second, iv 1]) rfl ?_
        show Steps p.tables e below (T144.setTop (mkF m 158 #[.val (.long p0), .second, .val (.long p1), .second, .val (.long p2), .second, .val (.long p3), .second, iv p4, rv b1, iv 0, iv 1, iv 1, .val (.long p0), .second, iv 1] [])) _
        refine XS.iload X144.here hx rfl (hb hby at_158) rfl ?_
        show Steps p.tables e below (T144.setTop (mkF m 160 #[.val (.long p0), .second, .val (.long p1), .second, .val (.long p2), .second, .val (.long p3), .second, iv p4, rv b1, iv 0, iv 1, iv 1, .val (.long p0), .second, iv 1] [(.int 1)])) _
        refine XS.ifNo X144.here hx rfl (hb hby at_160) rfl ((if0 _ _).trans (feq (by decide)).1) ?_
        show Steps p.tables e below (T144.setTop (mkF m 163 #[.val (.long p0), .second, .val (.long p1), .second, .val (.long p2), .second, .val (.long p3), .second, iv p4, rv b1, iv 0, iv 1, iv 1, .val (.long p0), .second, iv 1] [])) _
        refine XS.iload X144.here hx rfl (hb hby at_163) rfl ?_
        show Steps p.tables e below (T144.setTop (mkF m 165 #[.val (.long p0), .second, .val (.long p1), .second, .val (.long p2), .second, .val (.long p3), .second, iv p4, rv b1, iv 0, iv 1, iv 1, .val (.long p0), .second, iv 1] [(.int 1)])) _
        refine XS.iload X144.here hx rfl (hb hby at_165) rfl ?_
        show Steps p.tables e below (T144.setTop (mkF m 167 #[.val (.long p0), .second, .val (.long p1), .second, .val (.long p2), .second, .val (.long p3), .second, iv p4, rv b1, iv 0, iv 1, iv 1, .val (.long p0), .second, iv 1] [(.int 0), (.int 1)])) _
        refine XS.icmpNo X144.here hx rfl (hb hby at_167) rfl (feq (by decide)).1 ?_
        show Steps p.tables e below (T144.setTop (mkF m 170 #[.val (.long p0), .second, .val (.long p1), .second, .val (.long p2), .second, .val (.long p3), .second, iv p4, rv b1, iv 0, iv 1, iv 1, .val (.long p0), .second, iv 1] [])) _
        refine XS.aload X144.here hx rfl (hb hby at_170) rfl rfl ?_
        show Steps p.tables e below (T144.setTop (mkF m 172 #[.val (.long p0), .second, .val (.long p1), .second, .val (.long p2), .second, .val (.long p3), .second, iv p4, rv b1, iv 0, iv 1, iv 1, .val (.long p0), .second, iv 1] [(.ref b1)])) _
        refine XS.iload X144.here hx rfl (hb hby at_172) rfl ?_
        show Steps p.tables e below (T144.setTop (mkF m 174 #[.val (.long p0), .second, .val (.long p1), .second, .val (.long p2), .second, .val (.long p3), .second, iv p4, rv b1, iv 0, iv 1, iv 1, .val (.long p0), .second, iv 1] [(.int 1), (.ref b1)])) _
        refine st162.trans ?_
        show Steps p.tables e below (T162.setTop (mkF m 177 #[.val (.long p0), .second, .val (.long p1), .second, .val (.long p2), .second, .val (.long p3), .second, iv p4, rv b1, iv 0, iv 1, iv 1, .val (.long p0), .second, iv 1] [(.long p3)])) _
        refine XS.lload X162.here hx rfl (hb hby at_177) rfl ?_
        show Steps p.tables e below (T162.setTop (mkF m 179 #[.val (.long p0), .second, .val (.long p1), .second, .val (.long p2), .second, .val (.long p3), .second, iv p4, rv b1, iv 0, iv 1, iv 1, .val (.long p0), .second, iv 1] [(.long p3), (.long p3)])) _
        refine XS.lcmp X162.here hx rfl (hb hby at_179) rfl ?_
        show Steps p.tables e below (T162.setTop (mkF m 180 #[.val (.long p0), .second, .val (.long p1), .second, .val (.long p2), .second, .val (.long p3), .second, iv p4, rv b1, iv 0, iv 1, iv 1, .val (.long p0), .second, iv 1] [(.int (lcmpW p3 p3))])) _
        refine XS.ifNo X162.here hx rfl (hb hby at_180) rfl ((if0 _ _).trans (teq ((lw_eq _ _).mpr rfl)).2) ?_
        show Steps p.tables e below (T162.setTop (mkF m 183 #[.val (.long p0), .second, .val (.long p1), .second, .val (.long p2), .second, .val (.long p3), .second, iv p4, rv b1, iv 0, iv 1, iv 1, .val (.long p0), .second, iv 1] [])) _
        refine XS.aload X162.here hx rfl (hb hby at_183) rfl rfl ?_
        show Steps p.tables e below (T162.setTop (mkF m 185 #[.val (.long p0), .second, .val (.long p1), .second, .val (.long p2), .second, .val (.long p3), .second, iv p4, rv b1, iv 0, iv 1, iv 1, .val (.long p0), .second, iv 1] [(.ref b1)])) _
        refine XS.iload X162.here hx rfl (hb hby at_185) rfl ?_
        show Steps p.tables e below (T162.setTop (mkF m 187 #[.val (.long p0), .second, .val (.long p1), .second, .val (.long p2), .second, .val (.long p3), .second, iv p4, rv b1, iv 0, iv 1, iv 1, .val (.long p0), .second, iv 1] [(.int 0), (.ref b1)])) _
        refine st163.trans ?_
        show Steps p.tables e below (T163.setTop (mkF m 190 #[.val (.long p0), .second, .val (.long p1), .second, .val (.long p2), .second, .val (.long p3), .second, iv p4, rv b1, iv 0, iv 1, iv 1, .val (.long p0), .second, iv 1] [(.long p0)])) _
        refine XS.lload X163.here hx rfl (hb hby at_190) rfl ?_
        show Steps p.tables e below (T163.setTop (mkF m 192 #[.val (.long p0), .second, .val (.long p1), .second, .val (.long p2), .second, .val (.long p3), .second, iv p4, rv b1, iv 0, iv 1, iv 1, .val (.long p0), .second, iv 1] [(.long p0), (.long p0)])) _
        refine XS.lcmp X163.here hx rfl (hb hby at_192) rfl ?_
        show Steps p.tables e below (T163.setTop (mkF m 193 #[.val (.long p0), .second, .val (.long p1), .second, .val (.long p2), .second, .val (.long p3), .second, iv p4, rv b1, iv 0, iv 1, iv 1, .val (.long p0), .second, iv 1] [(.int (lcmpW p0 p0))])) _
        refine XS.ifNo X163.here hx rfl (hb hby at_193) rfl ((if0 _ _).trans (teq ((lw_eq _ _).mpr rfl)).2) ?_
        show Steps p.tables e below (T163.setTop (mkF m 196 #[.val (.long p0), .second, .val (.long p1), .second, .val (.long p2), .second, .val (.long p3), .second, iv p4, rv b1, iv 0, iv 1, iv 1, .val (.long p0), .second, iv 1] [])) _
        refine XS.iconst X163.here hx rfl (hb hby at_196) ?_
        show Steps p.tables e below (T163.setTop (mkF m 197 #[.val (.long p0), .second, .val (.long p1), .second, .val (.long p2), .second, .val (.long p3), .second, iv p4, rv b1, iv 0, iv 1, iv 1, .val (.long p0), .second, iv 1] [(.int 1)])) _
        refine XS.goto X163.here hx rfl (pc0 := 197) (pc' := 201) rfl (hb hby at_197) (by decide) (by decide) ?_
        show Steps p.tables e below (T163.setTop (mkF m 201 #[.val (.long p0), .second, .val (.long p1), .second, .val (.long p2), .second, .val (.long p3), .second, iv p4, rv b1, iv 0, iv 1, iv 1, .val (.long p0), .second, iv 1] [(.int 1)])) _
        refine XS.istore X163.here hx rfl (hb hby at_201) rfl (l' := #[.val (.long p0), .second, .val (.long p1), .second, .val (.long p2), .second, .val (.long p3), .second, iv p4, rv b1, iv 0, iv 1, iv 1, .val (.long p0), .second, iv 1]) rfl ?_
        show Steps p.tables e below (T163.setTop (mkF m 203 #[.val (.long p0), .second, .val (.long p1), .second, .val (.long p2), .second, .val (.long p3), .second, iv p4, rv b1, iv 0, iv 1, iv 1, .val (.long p0), .second, iv 1] [])) _
        refine XS.iload X163.here hx rfl (hb hby at_203) rfl ?_
        show Steps p.tables e below (T163.setTop (mkF m 205 #[.val (.long p0), .second, .val (.long p1), .second, .val (.long p2), .second, .val (.long p3), .second, iv p4, rv b1, iv 0, iv 1, iv 1, .val (.long p0), .second, iv 1] [(.int 1)])) _
        exact retN X163 hx (t := .boolean) Bd.returns (by simp) (hb hby at_205) hr
      · show own_law_Q Z w_CA mr y1 y2 y3 p0 p1 p2 p3 p4 h0 n0 _ T163.heap _
        rw [e163]
        exact ⟨rfl, N163⟩
  · obtain ⟨cq164, kq164, q164a, q164b, q164c⟩ := isOf hZ e109 q91
    obtain ⟨_, _, ⟨T164, L164, k164, n164⟩, -, X164, ⟨Lc164, hQ164, l164, y164, z164⟩, st164⟩ := X109.virtualBack hx (y := (⟨"com/example/libspoke/libspoke/wheel/EntryTable", "setDeadline", "(IJ)V"⟩ : MethodName)) (z := (⟨"com/example/libspoke/libspoke/wheel/EntryTable", "setDeadline", "(IJ)V"⟩ : MethodName)) hown (mvT hZ (hw _ (own_m 140 rfl))) (mvT hZ (hw _ (own_m 122 rfl))) (notFace_of_selects (args := #[]) (mvT hZ (hw _ (own_m 124 rfl)))) (mvT hZ (hw _ (own_m 124 rfl))) (mvT hZ (hw _ (own_m 123 rfl))) (by decide) (backOf (W := 0) (own_sd2_0 l Z a0 hw [] w_CA mr y1 y2 y3 b1 dp lo2 k_dp k_lo2 p0 p1 p2 T90.heap n0 O106 S_HI S_CA M_OA H_y1 H_y2 H_y3 E_y1 E_y2 E_y3 (allS gg_b1 (allS gg_dp (allS gg_lo2 all0))) (own_ndc (allS ne_b1_dp (allS ne_b1_lo2 all0)) (own_ndc (allS ne_dp_lo2 all0) (own_ndc all0 own_nd0))) q91 q93 f107 q103 O_dp) hZ (hw _ (own_m 125 rfl)) (hw _ (own_m 2 rfl)) (by decide) (by decide)) q164a q164c (g := (mkF m 87 #[.val (.long p0), .second, .val (.long p1), .second, .val (.long p2), .second, .val (.long p3), .second, iv p4, rv b1, iv 0, iv 1, iv 1, .val (.long p0), .second, .unset] [(.long p2), (.int 0), (.ref b1)])) rfl (by rw [hml]; rfl) (Steps.refl _) (argsL := [(.int 0), (.long p2)]) (rest := []) (lenOf own_pd11 rfl) rfl (by show 2 * 0 + _ ≤ _; exact Nat.le_of_eq rfl) (hb hby at_87) (fun _ _ => ⟨rfl, e109, (by decide : 16 + 0 ≤ _), (by decide : 116 + 0 ≤ _)⟩)
    dsimp only [Pt.U, Pt.locs, Pt.cells, Pt.slots] at X164 l164 y164 z164 st164 hQ164
    subst l164 y164 z164
    obtain ⟨rfl, N164q, K164, q165⟩ := hQ164
    have N164 := Fr.app N109 N164q
    have O166 := O106.keep K164 (allS gg_lo2 all0)
    have f167 := (q91.keep K164)
    have f168 := (q93.keep K164 (ninS ne_b1_lo2 nin0))
    have f169 := (f107.keep K164 (ninS ne_dp_lo2 nin0))
    obtain ⟨cq170, kq170, q170a, q170b, q170c⟩ := isOf hZ rfl f167
    obtain ⟨_, _, ⟨T170, L170, k170, n170⟩, -, X170, ⟨Lc170, hQ170, l170, y170, z170⟩, st170⟩ := X164.virtualBack hx (y := (⟨"com/example/libspoke/libspoke/wheel/EntryTable", "deadline", "(I)J"⟩ : MethodName)) (z := (⟨"com/example/libspoke/libspoke/wheel/EntryTable", "deadline", "(I)J"⟩ : MethodName)) hown (mvT hZ (hw _ (own_m 135 rfl))) (mvT hZ (hw _ (own_m 136 rfl))) (notFace_of_selects (args := #[]) (mvT hZ (hw _ (own_m 138 rfl)))) (mvT hZ (hw _ (own_m 138 rfl))) (mvT hZ (hw _ (own_m 137 rfl))) (by decide) (backOf (W := 0) (own_dl2_0 l Z a0 hw [] w_CA mr y1 y2 y3 b1 dp lo2 k_dp k_lo2 p2 p1 T164.heap n0 O166 S_HI S_CA M_OA H_y1 H_y2 H_y3 E_y1 E_y2 E_y3 f167 f168 f169 q165 O_dp) hZ (hw _ (own_m 139 rfl)) (hw _ (own_m 2 rfl)) (by decide) (by decide)) q170a q170c (g := (mkF m 103 #[.val (.long p0), .second, .val (.long p1), .second, .val (.long p2), .second, .val (.long p3), .second, iv p4, rv b1, iv 0, iv 1, iv 1, .val (.long p2), .second, .unset] [(.int 0), (.ref b1)])) rfl (by rw [hml]; rfl) (Steps.refl _) (argsL := [(.int 0)]) (rest := []) (lenOf own_pd14 rfl) rfl (by show 2 * 0 + _ ≤ _; exact Nat.le_of_eq rfl) (hb hby at_103) (fun _ _ => ⟨rfl, rfl, (by decide : 16 + 0 ≤ _), (by decide : 116 + 0 ≤ _)⟩)
    dsimp only [Pt.U, Pt.locs, Pt.cells, Pt.slots] at X170 l170 y170 z170 st170 hQ170
    subst l170 y170 z170
    obtain ⟨rfl, N170q, e170⟩ := hQ170
    have N170 := Fr.app N164 N170q
    obtain ⟨cq171, kq171, q171a, q171b, q171c⟩ := isOf hZ e170 f167
    obtain ⟨_, _, ⟨T171, L171, k171, n171⟩, -, X171, ⟨Lc171, hQ171, l171, y171, z171⟩, st171⟩ := X170.virtualBack hx (y := (⟨"com/example/libspoke/libspoke/wheel/EntryTable", "deadline", "(I)J"⟩ : MethodName)) (z := (⟨"com/example/libspoke/libspoke/wheel/EntryTable", "deadline", "(I)J"⟩ : MethodName)) hown (mvT hZ (hw _ (own_m 135 rfl))) (mvT hZ (hw _ (own_m 136 rfl))) (notFace_of_selects (args := #[]) (mvT hZ (hw _ (own_m 138 rfl)))) (mvT hZ (hw _ (own_m 138 rfl))) (mvT hZ (hw _ (own_m 137 rfl))) (by decide) (backOf (W := 0) (own_dl2_1 l Z a0 hw [] w_CA mr y1 y2 y3 b1 dp lo2 k_dp k_lo2 p2 p1 T164.heap n0 O166 S_HI S_CA M_OA H_y1 H_y2 H_y3 E_y1 E_y2 E_y3 f167 f168 f169 q165 O_dp) hZ (hw _ (own_m 139 rfl)) (hw _ (own_m 2 rfl)) (by decide) (by decide)) q171a q171c (g := (mkF m 116 #[.val (.long p0), .second, .val (.long p1), .second, .val (.long p2), .second, .val (.long p3), .second, iv p4, rv b1, iv 0, iv 1, iv 1, .val (.long p2), .second, .unset] [(.int 1), (.ref b1)])) rfl (by rw [hml]; rfl) (Steps.refl _) (argsL := [(.int 1)]) (rest := []) (lenOf own_pd14 rfl) rfl (by show 2 * 0 + _ ≤ _; exact Nat.le_of_eq rfl) (hb hby at_116) (fun _ _ => ⟨rfl, e170, (by decide : 16 + 0 ≤ _), (by decide : 116 + 0 ≤ _)⟩)
    dsimp only [Pt.U, Pt.locs, Pt.cells, Pt.slots] at X171 l171 y171 z171 st171 hQ171
    subst l171 y171 z171
    obtain ⟨rfl, N171q, e171⟩ := hQ171
    have N171 := Fr.app N170 N171q
    have pre173 : ∀ t, Steps p.tables e below (T171.setTop (mkF m 134 #[.val (.long p0), .second, .val (.long p1), .second, .val (.long p2), .second, .val (.long p3), .second, iv p4, rv b1, iv 0, iv 1, iv 1, .val (.long p2), .second, .unset] [(.int 2), (.int p4)])) t → Steps p.tables e below (s₁.setTop (entryFrame m #[(.long p0), (.long p1), (.long p2), (.long p3), (.int p4)] maxLocals)) t := fun t kt => by
      refine pre111 _ ?_
      show Steps p.tables e below (T109.setTop (mkF m 77 #[.val (.long p0), .second, .val (.long p1), .second, .val (.long p2), .second, .val (.long p3), .second, iv p4, rv b1, iv 0, iv 1, iv 1, .val (.long p0), .second, .unset] [(.int 1), (.int p4)])) _
      refine XS.iand X109.here hx rfl (hb hby at_77) rfl ?_
      show Steps p.tables e below (T109.setTop (mkF m 78 #[.val (.long p0), .second, .val (.long p1), .second, .val (.long p2), .second, .val (.long p3), .second, iv p4, rv b1, iv 0, iv 1, iv 1, .val (.long p0), .second, .unset] [(.int (p4 &&& (1 : Int32)))])) _
      refine XS.ifNo X109.here hx rfl (hb hby at_78) rfl ((if0 _ _).trans (feq hc110).1) ?_
      show Steps p.tables e below (T109.setTop (mkF m 81 #[.val (.long p0), .second, .val (.long p1), .second, .val (.long p2), .second, .val (.long p3), .second, iv p4, rv b1, iv 0, iv 1, iv 1, .val (.long p0), .second, .unset] [])) _
      refine XS.aload X109.here hx rfl (hb hby at_81) rfl rfl ?_
      show Steps p.tables e below (T109.setTop (mkF m 83 #[.val (.long p0), .second, .val (.long p1), .second, .val (.long p2), .second, .val (.long p3), .second, iv p4, rv b1, iv 0, iv 1, iv 1, .val (.long p0), .second, .unset] [(.ref b1)])) _
      refine XS.iload X109.here hx rfl (hb hby at_83) rfl ?_
      show Steps p.tables e below (T109.setTop (mkF m 85 #[.val (.long p0), .second, .val (.long p1), .second, .val (.long p2), .second, .val (.long p3), .second, iv p4, rv b1, iv 0, iv 1, iv 1, .val (.long p0), .second, .unset] [(.int 0), (.ref b1)])) _
      refine XS.lload X109.here hx rfl (hb hby at_85) rfl ?_
      show Steps p.tables e below (T109.setTop (mkF m 87 #[.val (.long p0), .second, .val (.long p1), .second, .val (.long p2), .second, .val (.long p3), .second, iv p4, rv b1, iv 0, iv 1, iv 1, .val (.long p0), .second, .unset] [(.long p2), (.int 0), (.ref b1)])) _
      refine st164.trans ?_
      show Steps p.tables e below (T164.setTop (mkF m 90 #[.val (.long p0), .second, .val (.long p1), .second, .val (.long p2), .second, .val (.long p3), .second, iv p4, rv b1, iv 0, iv 1, iv 1, .val (.long p0), .second, .unset] [])) _
      refine XS.lload X164.here hx rfl (hb hby at_90) rfl ?_
      show Steps p.tables e below (T164.setTop (mkF m 92 #[.val (.long p0), .second, .val (.long p1), .second, .val (.long p2), .second, .val (.long p3), .second, iv p4, rv b1, iv 0, iv 1, iv 1, .val (.long p0), .second, .unset] [(.long p2)])) _
      refine XS.lstore X164.here hx rfl (hb hby at_92) rfl (l' := #[.val (.long p0), .second, .val (.long p1), .second, .val (.long p2), .second, .val (.long p3), .second, iv p4, rv b1, iv 0, iv 1, iv 1, .val (.long p2), .second, .unset]) rfl ?_
      show Steps p.tables e below (T164.setTop (mkF m 94 #[.val (.long p0), .second, .val (.long p1), .second, .val (.long p2), .second, .val (.long p3), .second, iv p4, rv b1, iv 0, iv 1, iv 1, .val (.long p2), .second, .unset] [])) _
      refine XS.iload X164.here hx rfl (hb hby at_94) rfl ?_
      show Steps p.tables e below (T164.setTop (mkF m 96 #[.val (.long p0), .second, .val (.long p1), .second, .val (.long p2), .second, .val (.long p3), .second, iv p4, rv b1, iv 0, iv 1, iv 1, .val (.long p2), .second, .unset] [(.int 1)])) _
      refine XS.ifNo X164.here hx rfl (hb hby at_96) rfl ((if0 _ _).trans (feq (by decide)).1) ?_
      show Steps p.tables e below (T164.setTop (mkF m 99 #[.val (.long p0), .second, .val (.long p1), .second, .val (.long p2), .second, .val (.long p3), .second, iv p4, rv b1, iv 0, iv 1, iv 1, .val (.long p2), .second, .unset] [])) _
      refine XS.aload X164.here hx rfl (hb hby at_99) rfl rfl ?_
      show Steps p.tables e below (T164.setTop (mkF m 101 #[.val (.long p0), .second, .val (.long p1), .second, .val (.long p2), .second, .val (.long p3), .second, iv p4, rv b1, iv 0, iv 1, iv 1, .val (.long p2), .second, .unset] [(.ref b1)])) _
      refine XS.iload X164.here hx rfl (hb hby at_101) rfl ?_
      show Steps p.tables e below (T164.setTop (mkF m 103 #[.val (.long p0), .second, .val (.long p1), .second, .val (.long p2), .second, .val (.long p3), .second, iv p4, rv b1, iv 0, iv 1, iv 1, .val (.long p2), .second, .unset] [(.int 0), (.ref b1)])) _
      refine st170.trans ?_
      show Steps p.tables e below (T170.setTop (mkF m 106 #[.val (.long p0), .second, .val (.long p1), .second, .val (.long p2), .second, .val (.long p3), .second, iv p4, rv b1, iv 0, iv 1, iv 1, .val (.long p2), .second, .unset] [(.long p2)])) _
      refine XS.lload X170.here hx rfl (hb hby at_106) rfl ?_
      show Steps p.tables e below (T170.setTop (mkF m 108 #[.val (.long p0), .second, .val (.long p1), .second, .val (.long p2), .second, .val (.long p3), .second, iv p4, rv b1, iv 0, iv 1, iv 1, .val (.long p2), .second, .unset] [(.long p2), (.long p2)])) _
      refine XS.lcmp X170.here hx rfl (hb hby at_108) rfl ?_
      show Steps p.tables e below (T170.setTop (mkF m 109 #[.val (.long p0), .second, .val (.long p1), .second, .val (.long p2), .second, .val (.long p3), .second, iv p4, rv b1, iv 0, iv 1, iv 1, .val (.long p2), .second, .unset] [(.int (lcmpW p2 p2))])) _
      refine XS.ifNo X170.here hx rfl (hb hby at_109) rfl ((if0 _ _).trans (teq ((lw_eq _ _).mpr rfl)).2) ?_
      show Steps p.tables e below (T170.setTop (mkF m 112 #[.val (.long p0), .second, .val (.long p1), .second, .val (.long p2), .second, .val (.long p3), .second, iv p4, rv b1, iv 0, iv 1, iv 1, .val (.long p2), .second, .unset] [])) _
      refine XS.aload X170.here hx rfl (hb hby at_112) rfl rfl ?_
      show Steps p.tables e below (T170.setTop (mkF m 114 #[.val (.long p0), .second, .val (.long p1), .second, .val (.long p2), .second, .val (.long p3), .second, iv p4, rv b1, iv 0, iv 1, iv 1, .val (.long p2), .second, .unset] [(.ref b1)])) _
      refine XS.iload X170.here hx rfl (hb hby at_114) rfl ?_
      show Steps p.tables e below (T170.setTop (mkF m 116 #[.val (.long p0), .second, .val (.long p1), .second, .val (.long p2), .second, .val (.long p3), .second, iv p4, rv b1, iv 0, iv 1, iv 1, .val (.long p2), .second, .unset] [(.int 1), (.ref b1)])) _
      refine st171.trans ?_
      show Steps p.tables e below (T171.setTop (mkF m 119 #[.val (.long p0), .second, .val (.long p1), .second, .val (.long p2), .second, .val (.long p3), .second, iv p4, rv b1, iv 0, iv 1, iv 1, .val (.long p2), .second, .unset] [(.long p1)])) _
      refine XS.lloadN X171.here hx rfl (hb hby at_119) rfl ?_
      show Steps p.tables e below (T171.setTop (mkF m 120 #[.val (.long p0), .second, .val (.long p1), .second, .val (.long p2), .second, .val (.long p3), .second, iv p4, rv b1, iv 0, iv 1, iv 1, .val (.long p2), .second, .unset] [(.long p1), (.long p1)])) _
      refine XS.lcmp X171.here hx rfl (hb hby at_120) rfl ?_
      show Steps p.tables e below (T171.setTop (mkF m 121 #[.val (.long p0), .second, .val (.long p1), .second, .val (.long p2), .second, .val (.long p3), .second, iv p4, rv b1, iv 0, iv 1, iv 1, .val (.long p2), .second, .unset] [(.int (lcmpW p1 p1))])) _
      refine XS.ifNo X171.here hx rfl (hb hby at_121) rfl ((if0 _ _).trans (teq ((lw_eq _ _).mpr rfl)).2) ?_
      show Steps p.tables e below (T171.setTop (mkF m 124 #[.val (.long p0), .second, .val (.long p1), .second, .val (.long p2), .second, .val (.long p3), .second, iv p4, rv b1, iv 0, iv 1, iv 1, .val (.long p2), .second, .unset] [])) _
      refine XS.iconst X171.here hx rfl (hb hby at_124) ?_
      show Steps p.tables e below (T171.setTop (mkF m 125 #[.val (.long p0), .second, .val (.long p1), .second, .val (.long p2), .second, .val (.long p3), .second, iv p4, rv b1, iv 0, iv 1, iv 1, .val (.long p2), .second, .unset] [(.int 1)])) _
      refine XS.goto X171.here hx rfl (pc0 := 125) (pc' := 129) rfl (hb hby at_125) (by decide) (by decide) ?_
      show Steps p.tables e below (T171.setTop (mkF m 129 #[.val (.long p0), .second, .val (.long p1), .second, .val (.long p2), .second, .val (.long p3), .second, iv p4, rv b1, iv 0, iv 1, iv 1, .val (.long p2), .second, .unset] [(.int 1)])) _
      refine XS.istore X171.here hx rfl (hb hby at_129) rfl (l' := #[.val (.long p0), .second, .val (.long p1), .second, .val (.long p2), .second, .val (.long p3), .second, iv p4, rv b1, iv 0, iv 1, iv 1, .val (.long p2), .second, .unset]) rfl ?_
      show Steps p.tables e below (T171.setTop (mkF m 131 #[.val (.long p0), .second, .val (.long p1), .second, .val (.long p2), .second, .val (.long p3), .second, iv p4, rv b1, iv 0, iv 1, iv 1, .val (.long p2), .second, .unset] [])) _
      refine XS.iload X171.here hx rfl (hb hby at_131) rfl ?_
      show Steps p.tables e below (T171.setTop (mkF m 133 #[.val (.long p0), .second, .val (.long p1), .second, .val (.long p2), .second, .val (.long p3), .second, iv p4, rv b1, iv 0, iv 1, iv 1, .val (.long p2), .second, .unset] [(.int p4)])) _
      refine XS.iconst X171.here hx rfl (hb hby at_133) ?_
      show Steps p.tables e below (T171.setTop (mkF m 134 #[.val (.long p0), .second, .val (.long p1), .second, .val (.long p2), .second, .val (.long p3), .second, iv p4, rv b1, iv 0, iv 1, iv 1, .val (.long p2), .second, .unset] [(.int 2), (.int p4)])) _
      exact kt
    by_cases hc172 : (p4 &&& (2 : Int32)) = (0 : Int32)
    · obtain ⟨fs, hr, hrun, hended, hW, hsame⟩ := X171.leave (v := some (.int 1)) (fun h => by rw [Bd.returns] at h; cases h)
      refine ⟨_, _, pre173 _ ?_, hrun, hended, _, _, rfl, ?_, ⟨_, rfl⟩, hW, hsame.mono (by decide) (by decide)⟩
      · show Steps p.tables e below (T171.setTop (mkF m 134 #[.val (.long p0), .second, .val (.long p1), .second, .val (.long p2), .second, .val (.long p3), .second, iv p4, rv b1, iv 0, iv 1, iv 1, .val (.long p2), .second, .unset] [(.int 2), (.int p4)])) _
        refine XS.iand X171.here hx rfl (hb hby at_134) rfl ?_
        show Steps p.tables e below (T171.setTop (mkF m 135 #[.val (.long p0), .second, .val (.long p1), .second, .val (.long p2), .second, .val (.long p3), .second, iv p4, rv b1, iv 0, iv 1, iv 1, .val (.long p2), .second, .unset] [(.int (p4 &&& (2 : Int32)))])) _
        refine XS.ifYes X171.here hx rfl (pc0 := 135) (pc' := 203) rfl (hb hby at_135) rfl ((if0 _ _).trans (teq hc172).1) (by decide) (by decide) ?_
        show Steps p.tables e below (T171.setTop (mkF m 203 #[.val (.long p0), .second, .val (.long p1), .second, .val (.long p2), .second, .val (.long p3), .second, iv p4, rv b1, iv 0, iv 1, iv 1, .val (.long p2), .second, .unset] [])) _
        refine XS.iload X171.here hx rfl (hb hby at_203) rfl ?_
        show Steps p.tables e below (T171.setTop (mkF m 205 #[.val (.long p0), .second, .val (.long p1), .second, .val (.long p2), .second, .val (.long p3), .second, iv p4, rv b1, iv 0, iv 1, iv 1, .val (.long p2), .second, .unset] [(.int 1)])) _
        exact retN X171 hx (t := .boolean) Bd.returns (by simp) (hb hby at_205) hr
      · show own_law_Q Z w_CA mr y1 y2 y3 p0 p1 p2 p3 p4 h0 n0 _ T171.heap _
        rw [e171]
        exact ⟨rfl, N171⟩
    · have f174 := (q92.keep K164 (ninS ne_b1_lo2 nin0))
      have f175 := (q94.keep K164 (ninS ne_b1_lo2 nin0))
      have f176 := (q95.keep K164 (ninS ne_b1_lo2 nin0))
      have f177 := (q96.keep K164 (ninS ne_b1_lo2 nin0))
      have f178 := (q97.keep K164 (ninS ne_b1_lo2 nin0))
      have f179 := (q98.keep K164 (ninS ne_b1_lo2 nin0))
      have f180 := (q99.keep K164 (ninS ne_b1_lo2 nin0))
      have f181 := (q100.keep K164 (ninS ne_b1_lo2 nin0))
      have f182 := (q101.keep K164 (ninS ne_b1_lo2 nin0))
      have f183 := ((q44.keep K90 (ninS (Ne.symm ne_b1_ip) (ninS ne_ip_io2 (ninS ne_ip_lo2 (ninS n84 (ninS n83 nin0)))))).keep K164 (ninS ne_ip_lo2 nin0))
      have f184 := (q102.keep K164 (ninS n79 nin0))
      have f185 := ((q48.keep K90 (ninS (Ne.symm ne_b1_lp) (ninS ne_lp_io2 (ninS ne_lp_lo2 (ninS n70 (ninS n69 nin0)))))).keep K164 (ninS ne_lp_lo2 nin0))
      have f186 := ((q49.keep K90 (ninS (Ne.symm ne_b1_li2) (ninS (Ne.symm n78) (ninS (Ne.symm n71) (ninS (Ne.symm ne_ps_li2) (ninS (Ne.symm ne_pf_li2) nin0)))))).keep K164 (ninS (Ne.symm n71) nin0))
      have f187 := (q104.keep K164 (ninS ne_ps_lo2 nin0))
      have f188 := (q105.keep K164 (ninS ne_pf_lo2 nin0))
      obtain ⟨cq189, kq189, q189a, q189b, q189c⟩ := isOf hZ e171 f167
      obtain ⟨_, _, ⟨T189, L189, k189, n189⟩, -, X189, ⟨Lc189, hQ189, l189, y189, z189⟩, st189⟩ := X171.virtualBack hx (y := (⟨"com/example/libspoke/libspoke/wheel/EntryTable", "remove", "(I)V"⟩ : MethodName)) (z := (⟨"com/example/libspoke/libspoke/wheel/EntryTable", "remove", "(I)V"⟩ : MethodName)) hown (mvT hZ (hw _ (own_m 141 rfl))) (mvT hZ (hw _ (own_m 142 rfl))) (notFace_of_selects (args := #[]) (mvT hZ (hw _ (own_m 144 rfl)))) (mvT hZ (hw _ (own_m 144 rfl))) (mvT hZ (hw _ (own_m 143 rfl))) (by decide) (backOf (W := 0) (own_rmv l Z a0 hw [] w_CA mr y1 y2 y3 b1 ip dp lp ps pf pg pt io2 li2 k_ip k_io2 k_lp k_li2 k_ps k_pf T164.heap n0 O166 S_HI S_CA M_OA H_y1 H_y2 H_y3 E_y1 E_y2 E_y3 (allS gg_b1 (allS gg_ip (allS gg_io2 (allS gg_lp (allS gg_li2 (allS gg_ps (allS gg_pf all0))))))) (own_ndc (allS ne_b1_ip (allS ne_b1_io2 (allS ne_b1_lp (allS ne_b1_li2 (allS ne_b1_ps (allS ne_b1_pf all0)))))) (own_ndc (allS ne_ip_io2 (allS n85 (allS ne_ip_li2 (allS n84 (allS n83 all0))))) (own_ndc (allS (Ne.symm ne_lp_io2) (allS n78 (allS (Ne.symm ne_ps_io2) (allS (Ne.symm ne_pf_io2) all0)))) (own_ndc (allS ne_lp_li2 (allS n70 (allS n69 all0))) (own_ndc (allS (Ne.symm ne_ps_li2) (allS (Ne.symm ne_pf_li2) all0)) (own_ndc (allS n65 all0) (own_ndc all0 own_nd0))))))) f167 f174 f168 f175 f176 f177 f178 f179 f180 f181 f182 f183 f184 f185 f186 f187 f188 O_ip O_io2 O_lp) hZ (hw _ (own_m 145 rfl)) (hw _ (own_m 2 rfl)) (by decide) (by decide)) q189a q189c (g := (mkF m 142 #[.val (.long p0), .second, .val (.long p1), .second, .val (.long p2), .second, .val (.long p3), .second, iv p4, rv b1, iv 0, iv 1, iv 1, .val (.long p2), .second, .unset] [(.int 1), (.ref b1)])) rfl (by rw [hml]; rfl) (Steps.refl _) (argsL := [(.int 1)]) (rest := []) (lenOf own_pd5 rfl) rfl (by show 2 * 0 + _ ≤ _; exact Nat.le_of_eq rfl) (hb hby at_142) (fun _ _ => ⟨rfl, e171, (by decide : 16 + 0 ≤ _), (by decide : 116 + 0 ≤ _)⟩)
      dsimp only [Pt.U, Pt.locs, Pt.cells, Pt.slots] at X189 l189 y189 z189 st189 hQ189
      subst l189 y189 z189
      obtain ⟨rfl, N189q, K189, q190, q191, q192, q193, q194, q195, q196, q197, q198, q199, q200, q201, q202, q203, q204⟩ := hQ189
      have N189 := Fr.app N171 N189q
      have O205 := O166.keep K189 (allS gg_b1 (allS gg_io2 (allS gg_li2 (allS gg_ps (allS gg_pf all0)))))
      obtain ⟨_, _, ⟨T206, L206, k206, n206⟩, -, X206, ⟨Lc206, hQ206, l206, y206, z206⟩, st206⟩ := Jvm.LawKit.callS X189 hx (y := (⟨"java/lang/Integer", "valueOf", "(I)Ljava/lang/Integer;"⟩ : MethodName)) hown (mvT hZ (hw _ (own_m 49 rfl))) (mvT hZ (hw _ (own_m 50 rfl))) (mvT hZ (hw _ (own_m 51 rfl))) (mvT hZ (hw _ (own_m 52 rfl))) (by decide) (backOf (W := 1) (own_vo3 l Z a0 hw [] w_CA mr y1 y2 y3  T189.heap n0 O205 S_HI S_CA M_OA H_y1 H_y2 H_y3 E_y1 E_y2 E_y3 ) hZ (hw _ (own_m 52 rfl)) (hw _ (own_m 51 rfl)) (by decide) (by decide)) (g := (mkF m 148 #[.val (.long p0), .second, .val (.long p1), .second, .val (.long p2), .second, .val (.long p3), .second, iv p4, rv b1, iv 0, iv 1, iv 1, .val (.long p2), .second, .unset] [(.int 3), (.ref b1)])) rfl (by rw [hml]; rfl) (argsL := [(.int 3)]) (rest := [(.ref b1)]) (lenOf own_pd12 rfl) rfl (by show 2 * 0 + _ ≤ _; exact Nat.le_of_eq rfl) (hb hby at_148) (fun _ _ => ⟨rfl, rfl, (by decide : 16 + 0 ≤ _), (by decide : 116 + 0 ≤ _)⟩)
      dsimp only [Pt.U, Pt.locs, Pt.cells, Pt.slots] at X206 l206 y206 z206 st206 hQ206
      subst l206 y206 z206
      obtain ⟨rfl, N206q, e206⟩ := hQ206
      have N206 := Fr.app N189 N206q
      have f207 := (f183.keep K189 (ninS (Ne.symm ne_b1_ip) (ninS ne_ip_io2 (ninS ne_ip_li2 (ninS n84 (ninS n83 nin0))))))
      have f208 := (f169.keep K189 (ninS (Ne.symm ne_b1_dp) (ninS ne_dp_io2 (ninS ne_dp_li2 (ninS n76 (ninS n75 nin0))))))
      have f209 := (q165.keep K189 (ninS (Ne.symm ne_b1_lo2) (ninS (Ne.symm n79) (ninS n71 (ninS (Ne.symm ne_ps_lo2) (ninS (Ne.symm ne_pf_lo2) nin0))))))
      have f210 := (f185.keep K189 (ninS (Ne.symm ne_b1_lp) (ninS ne_lp_io2 (ninS ne_lp_li2 (ninS n70 (ninS n69 nin0))))))
      have f211 := (((f87.keep K90).keep K164).keep K189)
      have f212 := (((f88.keep K90 (ninS (Ne.symm ne_b1_pt) (ninS ne_pt_io2 (ninS ne_pt_lo2 (ninS (Ne.symm n64) (ninS (Ne.symm n61) nin0)))))).keep K164 (ninS ne_pt_lo2 nin0)).keep K189 (ninS (Ne.symm ne_b1_pt) (ninS ne_pt_io2 (ninS ne_pt_li2 (ninS (Ne.symm n64) (ninS (Ne.symm n61) nin0))))))
      have f213 := (((f89.keep K90 (ninS (Ne.symm ne_b1_pt) (ninS ne_pt_io2 (ninS ne_pt_lo2 (ninS (Ne.symm n64) (ninS (Ne.symm n61) nin0)))))).keep K164 (ninS ne_pt_lo2 nin0)).keep K189 (ninS (Ne.symm ne_b1_pt) (ninS ne_pt_io2 (ninS ne_pt_li2 (ninS (Ne.symm n64) (ninS (Ne.symm n61) nin0))))))
      have f214 := (((q51.keep K90 (ninS (Ne.symm ne_b1_pb) (ninS ne_pb_io2 (ninS ne_pb_lo2 (ninS (Ne.symm n63) (ninS (Ne.symm n60) nin0)))))).keep K164 (ninS ne_pb_lo2 nin0)).keep K189 (ninS (Ne.symm ne_b1_pb) (ninS ne_pb_io2 (ninS ne_pb_li2 (ninS (Ne.symm n63) (ninS (Ne.symm n60) nin0))))))
      have f215 := (((q52.keep K90 (ninS (Ne.symm ne_b1_wb) (ninS ne_wb_io2 (ninS ne_wb_lo2 (ninS (Ne.symm n62) (ninS (Ne.symm n59) nin0)))))).keep K164 (ninS ne_wb_lo2 nin0)).keep K189 (ninS (Ne.symm ne_b1_wb) (ninS ne_wb_io2 (ninS ne_wb_li2 (ninS (Ne.symm n62) (ninS (Ne.symm n59) nin0))))))
      obtain ⟨cq216, kq216, q216a, q216b, q216c⟩ := isOf hZ e206 q190
      obtain ⟨_, _, ⟨T216, L216, k216, n216⟩, -, X216, ⟨Lc216, hQ216, l216, y216, z216⟩, st216⟩ := X206.virtualBack hx (y := (⟨"com/example/libspoke/libspoke/wheel/EntryTable", "add", "(Ljava/lang/Object;J)I"⟩ : MethodName)) (z := (⟨"com/example/libspoke/libspoke/wheel/EntryTable", "add", "(Ljava/lang/Object;J)I"⟩ : MethodName)) hown (mvT hZ (hw _ (own_m 56 rfl))) (mvT hZ (hw _ (own_m 57 rfl))) (notFace_of_selects (args := #[]) (mvT hZ (hw _ (own_m 59 rfl)))) (mvT hZ (hw _ (own_m 59 rfl))) (mvT hZ (hw _ (own_m 58 rfl))) (by decide) (backOf (W := 0) (own_add7 l Z a0 hw [] w_CA mr y1 y2 y3 b1 ip dp lp ps pf pg pt io2 lo2 li2 pb wb k_ip k_io2 k_dp k_lo2 k_lp k_li2 k_ps k_pf k_pb k_wb p2 p1 p3 T189.heap n0 O205 S_HI S_CA M_OA H_y1 H_y2 H_y3 E_y1 E_y2 E_y3 (allS gg_b1 (allS gg_ip (allS gg_io2 (allS gg_dp (allS gg_lo2 (allS gg_lp (allS gg_li2 (allS gg_ps (allS gg_pf (allS gg_pt (allS gg_pb (allS gg_wb all0)))))))))))) (own_ndc (allS ne_b1_ip (allS ne_b1_io2 (allS ne_b1_dp (allS ne_b1_lo2 (allS ne_b1_lp (allS ne_b1_li2 (allS ne_b1_ps (allS ne_b1_pf (allS ne_b1_pt (allS ne_b1_pb (allS ne_b1_wb all0))))))))))) (own_ndc (allS ne_ip_io2 (allS n86 (allS ne_ip_lo2 (allS n85 (allS ne_ip_li2 (allS n84 (allS n83 (allS n82 (allS n81 (allS n80 all0)))))))))) (own_ndc (allS (Ne.symm ne_dp_io2) (allS n79 (allS (Ne.symm ne_lp_io2) (allS n78 (allS (Ne.symm ne_ps_io2) (allS (Ne.symm ne_pf_io2) (allS (Ne.symm ne_pt_io2) (allS (Ne.symm ne_pb_io2) (allS (Ne.symm ne_wb_io2) all0))))))))) (own_ndc (allS ne_dp_lo2 (allS n77 (allS ne_dp_li2 (allS n76 (allS n75 (allS n74 (allS n73 (allS n72 all0)))))))) (own_ndc (allS (Ne.symm ne_lp_lo2) (allS n71 (allS (Ne.symm ne_ps_lo2) (allS (Ne.symm ne_pf_lo2) (allS (Ne.symm ne_pt_lo2) (allS (Ne.symm ne_pb_lo2) (allS (Ne.symm ne_wb_lo2) all0))))))) (own_ndc (allS ne_lp_li2 (allS n70 (allS n69 (allS n68 (allS n67 (allS n66 all0)))))) (own_ndc (allS (Ne.symm ne_ps_li2) (allS (Ne.symm ne_pf_li2) (allS (Ne.symm ne_pt_li2) (allS (Ne.symm ne_pb_li2) (allS (Ne.symm ne_wb_li2) all0))))) (own_ndc (allS n65 (allS n64 (allS n63 (allS n62 all0)))) (own_ndc (allS n61 (allS n60 (allS n59 all0))) (own_ndc (allS n58 (allS n57 all0)) (own_ndc (allS n56 all0) (own_ndc all0 own_nd0)))))))))))) q190 q191 q192 q193 q194 q195 q196 q197 q198 q199 q200 f207 q201 f208 f209 f210 q202 q203 q204 f211 f212 f213 f214 f215 O_ip O_io2 O_dp O_lp) hZ (hw _ (own_m 60 rfl)) (hw _ (own_m 2 rfl)) (by decide) (by decide)) q216a q216c (g := (mkF m 153 #[.val (.long p0), .second, .val (.long p1), .second, .val (.long p2), .second, .val (.long p3), .second, iv p4, rv b1, iv 0, iv 1, iv 1, .val (.long p2), .second, .unset] [(.long p3), (.ref y3), (.ref b1)])) rfl (by rw [hml]; rfl) (Steps.refl _) (argsL := [(.ref y3), (.long p3)]) (rest := []) (lenOf own_pd13 rfl) rfl (by show 2 * 0 + _ ≤ _; exact Nat.le_of_eq rfl) (hb hby at_153) (fun _ _ => ⟨rfl, e206, (by decide : 16 + 0 ≤ _), (by decide : 116 + 0 ≤ _)⟩)
      dsimp only [Pt.U, Pt.locs, Pt.cells, Pt.slots] at X216 l216 y216 z216 st216 hQ216
      subst l216 y216 z216
      obtain ⟨rfl, N216q, K216, q217, q218, q219, q220, q221, q222, q223, q224, q225, q226, q227, q228, q229, q230, q231⟩ := hQ216
      have N216 := Fr.app N206 N216q
      have O232 := O205.keep K216 (allS gg_b1 (allS gg_io2 (allS gg_lo2 (allS gg_ps (allS gg_pf all0)))))
      have f233 := (f208.keep K216 (ninS (Ne.symm ne_b1_dp) (ninS ne_dp_io2 (ninS ne_dp_lo2 (ninS n76 (ninS n75 nin0))))))
      obtain ⟨cq234, kq234, q234a, q234b, q234c⟩ := isOf hZ rfl q217
      obtain ⟨_, _, ⟨T234, L234, k234, n234⟩, -, X234, ⟨Lc234, hQ234, l234, y234, z234⟩, st234⟩ := X216.virtualBack hx (y := (⟨"com/example/libspoke/libspoke/wheel/EntryTable", "deadline", "(I)J"⟩ : MethodName)) (z := (⟨"com/example/libspoke/libspoke/wheel/EntryTable", "deadline", "(I)J"⟩ : MethodName)) hown (mvT hZ (hw _ (own_m 135 rfl))) (mvT hZ (hw _ (own_m 136 rfl))) (notFace_of_selects (args := #[]) (mvT hZ (hw _ (own_m 138 rfl)))) (mvT hZ (hw _ (own_m 138 rfl))) (mvT hZ (hw _ (own_m 137 rfl))) (by decide) (backOf (W := 0) (own_dl2_1 l Z a0 hw [] w_CA mr y1 y2 y3 b1 dp lo2 k_dp k_lo2 p2 p3 T216.heap n0 O232 S_HI S_CA M_OA H_y1 H_y2 H_y3 E_y1 E_y2 E_y3 q217 q219 f233 q229 O_dp) hZ (hw _ (own_m 139 rfl)) (hw _ (own_m 2 rfl)) (by decide) (by decide)) q234a q234c (g := (mkF m 174 #[.val (.long p0), .second, .val (.long p1), .second, .val (.long p2), .second, .val (.long p3), .second, iv p4, rv b1, iv 0, iv 1, iv 1, .val (.long p2), .second, iv 1] [(.int 1), (.ref b1)])) rfl (by rw [hml]; rfl) (Steps.refl _) (argsL := [(.int 1)]) (rest := []) (lenOf own_pd14 rfl) rfl (by show 2 * 0 + _ ≤ _; exact Nat.le_of_eq rfl) (hb hby at_174) (fun _ _ => ⟨rfl, rfl, (by decide : 16 + 0 ≤ _), (by decide : 116 + 0 ≤ _)⟩)
      dsimp only [Pt.U, Pt.locs, Pt.cells, Pt.slots] at X234 l234 y234 z234 st234 hQ234
      subst l234 y234 z234
      obtain ⟨rfl, N234q, e234⟩ := hQ234
      have N234 := Fr.app N216 N234q
      obtain ⟨cq235, kq235, q235a, q235b, q235c⟩ := isOf hZ e234 q217
      obtain ⟨_, _, ⟨T235, L235, k235, n235⟩, -, X235, ⟨Lc235, hQ235, l235, y235, z235⟩, st235⟩ := X234.virtualBack hx (y := (⟨"com/example/libspoke/libspoke/wheel/EntryTable", "deadline", "(I)J"⟩ : MethodName)) (z := (⟨"com/example/libspoke/libspoke/wheel/EntryTable", "deadline", "(I)J"⟩ : MethodName)) hown (mvT hZ (hw _ (own_m 135 rfl))) (mvT hZ (hw _ (own_m 136 rfl))) (notFace_of_selects (args := #[]) (mvT hZ (hw _ (own_m 138 rfl)))) (mvT hZ (hw _ (own_m 138 rfl))) (mvT hZ (hw _ (own_m 137 rfl))) (by decide) (backOf (W := 0) (own_dl2_0 l Z a0 hw [] w_CA mr y1 y2 y3 b1 dp lo2 k_dp k_lo2 p2 p3 T216.heap n0 O232 S_HI S_CA M_OA H_y1 H_y2 H_y3 E_y1 E_y2 E_y3 q217 q219 f233 q229 O_dp) hZ (hw _ (own_m 139 rfl)) (hw _ (own_m 2 rfl)) (by decide) (by decide)) q235a q235c (g := (mkF m 187 #[.val (.long p0), .second, .val (.long p1), .second, .val (.long p2), .second, .val (.long p3), .second, iv p4, rv b1, iv 0, iv 1, iv 1, .val (.long p2), .second, iv 1] [(.int 0), (.ref b1)])) rfl (by rw [hml]; rfl) (Steps.refl _) (argsL := [(.int 0)]) (rest := []) (lenOf own_pd14 rfl) rfl (by show 2 * 0 + _ ≤ _; exact Nat.le_of_eq rfl) (hb hby at_187) (fun _ _ => ⟨rfl, e234, (by decide : 16 + 0 ≤ _), (by decide : 116 + 0 ≤ _)⟩)
      dsimp only [Pt.U, Pt.locs, Pt.cells, Pt.slots] at X235 l235 y235 z235 st235 hQ235
      subst l235 y235 z235
      obtain ⟨rfl, N235q, e235⟩ := hQ235
      have N235 := Fr.app N234 N235q
      obtain ⟨fs, hr, hrun, hended, hW, hsame⟩ := X235.leave (v := some (.int 1)) (fun h => by rw [Bd.returns] at h; cases h)
      refine ⟨_, _, pre173 _ ?_, hrun, hended, _, _, rfl, ?_, ⟨_, rfl⟩, hW, hsame.mono (by decide) (by decide)⟩
      · show Steps p.tables e below (T171.setTop (mkF m 134 #[.val (.long p0), .second, .val (.long p1), .second, .val (.long p2), .second, .val (.long p3), .second, iv p4, rv b1, iv 0, iv 1, iv 1, .val (.long p2), .second, .unset] [(.int 2), (.int p4)])) _
        refine XS.iand X171.here hx rfl (hb hby at_134) rfl ?_
        show Steps p.tables e below (T171.setTop (mkF m 135 #[.val (.long p0), .second, .val (.long p1), .second, .val (.long p2), .second, .val (.long p3), .second, iv p4, rv b1, iv 0, iv 1, iv 1, .val (.long p2), .second, .unset] [(.int (p4 &&& (2 : Int32)))])) _
        refine XS.ifNo X171.here hx rfl (hb hby at_135) rfl ((if0 _ _).trans (feq hc172).1) ?_
        show Steps p.tables e below (T171.setTop (mkF m 138 #[.val (.long p0), .second, .val (.long p1), .second, .val (.long p2), .second, .val (.long p3), .second, iv p4, rv b1, iv 0, iv 1, iv 1, .val (.long p2), .second, .unset] [])) _
        refine XS.aload X171.here hx rfl (hb hby at_138) rfl rfl ?_
        show Steps p.tables e below (T171.setTop (mkF m 140 #[.val (.long p0), .second, .val (.long p1), .second, .val (.long p2), .second, .val (.long p3), .second, iv p4, rv b1, iv 0, iv 1, iv 1, .val (.long p2), .second, .unset] [(.ref b1)])) _
        refine XS.iload X171.here hx rfl (hb hby at_140) rfl ?_
        show Steps p.tables e below (T171.setTop (mkF m 142 #[.val (.long p0), .second, .val (.long p1), .second, .val (.long p2), .second, .val (.long p3), .second, iv p4, rv b1, iv 0, iv 1, iv 1, .val (.long p2), .second, .unset] [(.int 1), (.ref b1)])) _
        refine st189.trans ?_
        show Steps p.tables e below (T189.setTop (mkF m 145 #[.val (.long p0), .second, .val (.long p1), .second, .val (.long p2), .second, .val (.long p3), .second, iv p4, rv b1, iv 0, iv 1, iv 1, .val (.long p2), .second, .unset] [])) _
        refine XS.aload X189.here hx rfl (hb hby at_145) rfl rfl ?_
        show Steps p.tables e below (T189.setTop (mkF m 147 #[.val (.long p0), .second, .val (.long p1), .second, .val (.long p2), .second, .val (.long p3), .second, iv p4, rv b1, iv 0, iv 1, iv 1, .val (.long p2), .second, .unset] [(.ref b1)])) _
        refine XS.iconst X189.here hx rfl (hb hby at_147) ?_
        show Steps p.tables e below (T189.setTop (mkF m 148 #[.val (.long p0), .second, .val (.long p1), .second, .val (.long p2), .second, .val (.long p3), .second, iv p4, rv b1, iv 0, iv 1, iv 1, .val (.long p2), .second, .unset] [(.int 3), (.ref b1)])) _
        refine st206 _ ?_
        show Steps p.tables e below (T206.setTop (mkF m 151 #[.val (.long p0), .second, .val (.long p1), .second, .val (.long p2), .second, .val (.long p3), .second, iv p4, rv b1, iv 0, iv 1, iv 1, .val (.long p2), .second, .unset] [(.ref y3), (.ref b1)])) _
        refine XS.lload X206.here hx rfl (hb hby at_151) rfl ?_
        show Steps p.tables e below (T206.setTop (mkF m 153 #[.val (.long p0), .second, .val (.long p1), .second, .val (.long p2), .second, .val (.long p3), .second, iv p4, rv b1, iv 0, iv 1, iv 1, .val (.long p2), .second, .unset] [(.long p3), (.ref y3), (.ref b1)])) _
        refine st216.trans ?_
        show Steps p.tables e below (T216.setTop (mkF m 156 #[.val (.long p0), .second, .val (.long p1), .second, .val (.long p2), .second, .val (.long p3), .second, iv p4, rv b1, iv 0, iv 1, iv 1, .val (.long p2), .second, .unset] [(.int 1)])) _
        refine XS.istore X216.here hx rfl (hb hby at_156) rfl (l' := #[.val (.long p0), .second, .val (.long p1), .second, .val (.long p2), .second, .val (.long p3), .second, iv p4, rv b1, iv 0, iv 1, iv 1, .val (.long p2), .second, iv 1]) rfl ?_
        show Steps p.tables e below (T216.setTop (mkF m 158 #[.val (.long p0), .second, .val (.long p1), .second, .val (.long p2), .second, .val (.long p3), .second, iv p4, rv b1, iv 0, iv 1, iv 1, .val (.long p2), .second, iv 1] [])) _
        refine XS.iload X216.here hx rfl (hb hby at_158) rfl ?_
        show Steps p.tables e below (T216.setTop (mkF m 160 #[.val (.long p0), .second, .val (.long p1), .second, .val (.long p2), .second, .val (.long p3), .second, iv p4, rv b1, iv 0, iv 1, iv 1, .val (.long p2), .second, iv 1] [(.int 1)])) _
        refine XS.ifNo X216.here hx rfl (hb hby at_160) rfl ((if0 _ _).trans (feq (by decide)).1) ?_
        show Steps p.tables e below (T216.setTop (mkF m 163 #[.val (.long p0), .second, .val (.long p1), .second, .val (.long p2), .second, .val (.long p3), .second, iv p4, rv b1, iv 0, iv 1, iv 1, .val (.long p2), .second, iv 1] [])) _
        refine XS.iload X216.here hx rfl (hb hby at_163) rfl ?_
        show Steps p.tables e below (T216.setTop (mkF m 165 #[.val (.long p0), .second, .val (.long p1), .second, .val (.long p2), .second, .val (.long p3), .second, iv p4, rv b1, iv 0, iv 1, iv 1, .val (.long p2), .second, iv 1] [(.int 1)])) _
        refine XS.iload X216.here hx rfl (hb hby at_165) rfl ?_
        show Steps p.tables e below (T216.setTop (mkF m 167 #[.val (.long p0), .second, .val (.long p1), .second, .val (.long p2), .second, .val (.long p3), .second, iv p4, rv b1, iv 0, iv 1, iv 1, .val (.long p2), .second, iv 1] [(.int 0), (.int 1)])) _
        refine XS.icmpNo X216.here hx rfl (hb hby at_167) rfl (feq (by decide)).1 ?_
        show Steps p.tables e below (T216.setTop (mkF m 170 #[.val (.long p0), .second, .val (.long p1), .second, .val (.long p2), .second, .val (.long p3), .second, iv p4, rv b1, iv 0, iv 1, iv 1, .val (.long p2), .second, iv 1] [])) _
        refine XS.aload X216.here hx rfl (hb hby at_170) rfl rfl ?_
        show Steps p.tables e below (T216.setTop (mkF m 172 #[.val (.long p0), .second, .val (.long p1), .second, .val (.long p2), .second, .val (.long p3), .second, iv p4, rv b1, iv 0, iv 1, iv 1, .val (.long p2), .second, iv 1] [(.ref b1)])) _
        refine XS.iload X216.here hx rfl (hb hby at_172) rfl ?_
        show Steps p.tables e below (T216.setTop (mkF m 174 #[.val (.long p0), .second, .val (.long p1), .second, .val (.long p2), .second, .val (.long p3), .second, iv p4, rv b1, iv 0, iv 1, iv 1, .val (.long p2), .second, iv 1] [(.int 1), (.ref b1)])) _
        refine st234.trans ?_
        show Steps p.tables e below (T234.setTop (mkF m 177 #[.val (.long p0), .second, .val (.long p1), .second, .val (.long p2), .second, .val (.long p3), .second, iv p4, rv b1, iv 0, iv 1, iv 1, .val (.long p2), .second, iv 1] [(.long p3)])) _
        refine XS.lload X234.here hx rfl (hb hby at_177) rfl ?_
        show Steps p.tables e below (T234.setTop (mkF m 179 #[.val (.long p0), .second, .val (.long p1), .second, .val (.long p2), .second, .val (.long p3), .second, iv p4, rv b1, iv 0, iv 1, iv 1, .val (.long p2), .second, iv 1] [(.long p3), (.long p3)])) _
        refine XS.lcmp X234.here hx rfl (hb hby at_179) rfl ?_
        show Steps p.tables e below (T234.setTop (mkF m 180 #[.val (.long p0), .second, .val (.long p1), .second, .val (.long p2), .second, .val (.long p3), .second, iv p4, rv b1, iv 0, iv 1, iv 1, .val (.long p2), .second, iv 1] [(.int (lcmpW p3 p3))])) _
        refine XS.ifNo X234.here hx rfl (hb hby at_180) rfl ((if0 _ _).trans (teq ((lw_eq _ _).mpr rfl)).2) ?_
        show Steps p.tables e below (T234.setTop (mkF m 183 #[.val (.long p0), .second, .val (.long p1), .second, .val (.long p2), .second, .val (.long p3), .second, iv p4, rv b1, iv 0, iv 1, iv 1, .val (.long p2), .second, iv 1] [])) _
        refine XS.aload X234.here hx rfl (hb hby at_183) rfl rfl ?_
        show Steps p.tables e below (T234.setTop (mkF m 185 #[.val (.long p0), .second, .val (.long p1), .second, .val (.long p2), .second, .val (.long p3), .second, iv p4, rv b1, iv 0, iv 1, iv 1, .val (.long p2), .second, iv 1] [(.ref b1)])) _
        refine XS.iload X234.here hx rfl (hb hby at_185) rfl ?_
        show Steps p.tables e below (T234.setTop (mkF m 187 #[.val (.long p0), .second, .val (.long p1), .second, .val (.long p2), .second, .val (.long p3), .second, iv p4, rv b1, iv 0, iv 1, iv 1, .val (.long p2), .second, iv 1] [(.int 0), (.ref b1)])) _
        refine st235.trans ?_
        show Steps p.tables e below (T235.setTop (mkF m 190 #[.val (.long p0), .second, .val (.long p1), .second, .val (.long p2), .second, .val (.long p3), .second, iv p4, rv b1, iv 0, iv 1, iv 1, .val (.long p2), .second, iv 1] [(.long p2)])) _
        refine XS.lload X235.here hx rfl (hb hby at_190) rfl ?_
        show Steps p.tables e below (T235.setTop (mkF m 192 #[.val (.long p0), .second, .val (.long p1), .second, .val (.long p2), .second, .val (.long p3), .second, iv p4, rv b1, iv 0, iv 1, iv 1, .val (.long p2), .second, iv 1] [(.long p2), (.long p2)])) _
        refine XS.lcmp X235.here hx rfl (hb hby at_192) rfl ?_
        show Steps p.tables e below (T235.setTop (mkF m 193 #[.val (.long p0), .second, .val (.long p1), .second, .val (.long p2), .second, .val (.long p3), .second, iv p4, rv b1, iv 0, iv 1, iv 1, .val (.long p2), .second, iv 1] [(.int (lcmpW p2 p2))])) _
        refine XS.ifNo X235.here hx rfl (hb hby at_193) rfl ((if0 _ _).trans (teq ((lw_eq _ _).mpr rfl)).2) ?_
        show Steps p.tables e below (T235.setTop (mkF m 196 #[.val (.long p0), .second, .val (.long p1), .second, .val (.long p2), .second, .val (.long p3), .second, iv p4, rv b1, iv 0, iv 1, iv 1, .val (.long p2), .second, iv 1] [])) _
        refine XS.iconst X235.here hx rfl (hb hby at_196) ?_
        show Steps p.tables e below (T235.setTop (mkF m 197 #[.val (.long p0), .second, .val (.long p1), .second, .val (.long p2), .second, .val (.long p3), .second, iv p4, rv b1, iv 0, iv 1, iv 1, .val (.long p2), .second, iv 1] [(.int 1)])) _
        refine XS.goto X235.here hx rfl (pc0 := 197) (pc' := 201) rfl (hb hby at_197) (by decide) (by decide) ?_
        show Steps p.tables e below (T235.setTop (mkF m 201 #[.val (.long p0), .second, .val (.long p1), .second, .val (.long p2), .second, .val (.long p3), .second, iv p4, rv b1, iv 0, iv 1, iv 1, .val (.long p2), .second, iv 1] [(.int 1)])) _
        refine XS.istore X235.here hx rfl (hb hby at_201) rfl (l' := #[.val (.long p0), .second, .val (.long p1), .second, .val (.long p2), .second, .val (.long p3), .second, iv p4, rv b1, iv 0, iv 1, iv 1, .val (.long p2), .second, iv 1]) rfl ?_
        show Steps p.tables e below (T235.setTop (mkF m 203 #[.val (.long p0), .second, .val (.long p1), .second, .val (.long p2), .second, .val (.long p3), .second, iv p4, rv b1, iv 0, iv 1, iv 1, .val (.long p2), .second, iv 1] [])) _
        refine XS.iload X235.here hx rfl (hb hby at_203) rfl ?_
        show Steps p.tables e below (T235.setTop (mkF m 205 #[.val (.long p0), .second, .val (.long p1), .second, .val (.long p2), .second, .val (.long p3), .second, iv p4, rv b1, iv 0, iv 1, iv 1, .val (.long p2), .second, iv 1] [(.int 1)])) _
        exact retN X235 hx (t := .boolean) Bd.returns (by simp) (hb hby at_205) hr
      · show own_law_Q Z w_CA mr y1 y2 y3 p0 p1 p2 p3 p4 h0 n0 _ T235.heap _
        rw [e235]
        exact ⟨rfl, N235⟩
set_option maxRecDepth 65536 in
set_option maxHeartbeats 40000000 in
theorem comes_1 {Post : Tables → Env → Array Value → State → Outcome → State → Prop} (hpost : ∀ tb e args s v u, (limb_1_1.after args s (.returned v) u = true ∧ limb_1_2.after args s (.returned v) u = true ∧ True) → FrameEnd s (.returned v) u (Jvm.fieldLocs frame_1_writes args s ++ Jvm.arrayLocs frame_1_arrays args s ++ Jvm.staticLocs frame_1_statics s) 40 320 → Post tb e args s (.returned v) u) :
    ArmFor flags0 classFile x code maxLocals ret World_1 tables_1 room_1 Calls_1 rest_1 Pre_1 Post := by
  intro l hfl _ _ p e ha hc hk s m args below hf hA hF happ hP
  obtain ⟨hcalls, hrest, hpre⟩ := hP
  obtain ⟨-, -, -, hnamed, -, -, -, hat⟩ := (Spec.applies_iff hf).mp happ
  obtain ⟨hg, hn⟩ := and_e (Cond.before_iff.mp (show (Jvm.Cond.and given_1 narrow_1).before args s = true from hpre))
  obtain ⟨hq1, hq2⟩ := and_e hg
  obtain ⟨hq3, hq4⟩ := and_e hq2
  obtain ⟨hq5, hq6⟩ := and_e hq4
  obtain ⟨hq7, hq8⟩ := and_e hq6
  obtain ⟨hq9, hq10⟩ := and_e hq8
  obtain ⟨w0, w1, w2, w3, w4, rfl⟩ : ∃ w0 w1 w2 w3 w4 : Value, args = #[w0, w1, w2, w3, w4] := by
    have hs : args.size = 5 := by simpa [Cond.value, given_1] using hq1
    obtain ⟨L⟩ := args
    match L, hs with
    | [w0, w1, w2, w3, w4], _ => exact ⟨w0, w1, w2, w3, w4, rfl⟩
  have hw := fun d (hd : d ∈ tables_1) => atoms_spec (ws := Jvm.Cond.code x code maxLocals ret :: tables_1) hat d (List.mem_cons_of_mem _ hd)
  have hfit : Fit s := fun {y c} hc i hi => by
    obtain ⟨ha, rfl⟩ := Array.getElem?_eq_some_iff.mp hc
    have q := List.all_eq_true.mp ((Array.all_eq_true_iff_forall_mem.mp hF) _ (Array.getElem_mem ha)) i (List.mem_range.mpr hi)
    simpa [Array.getElem?_eq_getElem hi] using q
  obtain ⟨hsets, hown0⟩ := atoms_of _ (rest_1_c_eq ▸ (show rest_1_c.before _ s = true from hrest))
  obtain ⟨i0, ei0⟩ := isL_v hq3
  obtain rfl : w0 = (.long i0) := Option.some.inj ei0
  obtain ⟨i1, ei1⟩ := isL_v hq5
  obtain rfl : w1 = (.long i1) := Option.some.inj ei1
  obtain ⟨i2, ei2⟩ := isL_v hq7
  obtain rfl : w2 = (.long i2) := Option.some.inj ei2
  obtain ⟨i3, ei3⟩ := isL_v hq9
  obtain rfl : w3 = (.long i3) := Option.some.inj ei3
  obtain ⟨i4, ei4⟩ := is_v hq10
  obtain rfl : w4 = (.int i4) := Option.some.inj ei4
  obtain ⟨⟨mc, mk, mr, mm1, mm2, mm3, -⟩, -⟩ := hcalls
  have M_OA : own_Mir s "[Ljava/lang/Object;" mr := ⟨mc, mk, mm1, mm2, mm3⟩
  have S_HI : Sta s s.heap "java/lang/Integer$IntegerCache" "high" "I" (.int (127 : Int32)) := Sta.start (own_eqI (Cond.before_iff.mp (hsets _ (own_m 3 rfl)))) (Or.inr ⟨(hw _ (own_m 54 rfl)), (hsets _ (own_m 0 rfl))⟩)
  obtain ⟨w_CA, ev_CA⟩ := arr_v (Cond.before_iff.mp (hsets _ (own_m 4 rfl)))
  have S_CA : Sta s s.heap "java/lang/Integer$IntegerCache" "cache" "[Ljava/lang/Integer;" (.ref w_CA) := Sta.start ev_CA (Or.inr ⟨(hw _ (own_m 54 rfl)), (hsets _ (own_m 2 rfl))⟩)
  obtain ⟨y1, H_y1, E_y1⟩ := own_cacheI ev_CA (Cond.before_iff.mp (hsets _ (own_m 4 rfl))) (Cond.before_iff.mp (hsets _ (own_m 6 rfl))) (Cond.before_iff.mp (hsets _ (own_m 7 rfl))) 129 (by decide)
  obtain ⟨y2, H_y2, E_y2⟩ := own_cacheI ev_CA (Cond.before_iff.mp (hsets _ (own_m 4 rfl))) (Cond.before_iff.mp (hsets _ (own_m 6 rfl))) (Cond.before_iff.mp (hsets _ (own_m 7 rfl))) 130 (by decide)
  obtain ⟨y3, H_y3, E_y3⟩ := own_cacheI ev_CA (Cond.before_iff.mp (hsets _ (own_m 4 rfl))) (Cond.before_iff.mp (hsets _ (own_m 6 rfl))) (Cond.before_iff.mp (hsets _ (own_m 7 rfl))) 131 (by decide)
  obtain ⟨n, o, h1, h2, h3, _, L, rfl, ⟨rfl, N⟩, hq⟩ := own_law l s _ hw tables_1 w_CA mr y1 y2 y3 i0 i1 i2 i3 i4 s.heap s.heap.size (Old.start s) S_HI S_CA M_OA H_y1 H_y2 H_y3 E_y1 E_y2 E_y3 p e ha hc hk s m _ below hf ((Spec.applies_iff_loose hf).mp happ).1 ⟨rfl, State.Warmed39.refl s, rfl⟩ trivial
  refine ⟨n, _, h1, h2, h3, hpost _ _ _ _ _ _ ⟨Cond.after_iff.mpr rfl, Cond.after_iff.mpr (eq_i res_at (Term.int_eval (1)) rfl), trivial⟩ ⟨hq.1, hq.2.1, (hq.2.2.sift fun y hy => Or.inr (N y hy)).mono (by decide) (by decide)⟩⟩
theorem main_1_1 : Claimed_1_1 := comes_1 fun _ _ _ _ _ _ h hF => ⟨h.1, hF⟩
theorem main_1_2 : Claimed_1_2 := comes_1 fun _ _ _ _ _ _ h hF => ⟨h.2.1, hF⟩
end Jvm.Pilot.@@N@@
namespace Jvm.Pilot.@@N@@
open Jvm Jvm.ClassFile Sem Op Lib Jvm.Free Jvm.Stand Jvm.Pilot.@@N@@.Jvm.D
/-! MADE BY PROGRAM (witnessworld.py) out of the Statement's table words and the real class files: 25 classes; the members and pool entries that the words name. The judged class is class 1, her method 1. -/
namespace start1
open Jvm.ClassFile
def u (s : String) : CpInfo := .utf8 (stringToUtf16 s)
/-- a pool by its gaps: so many unusable entries, then the entry; so many at the end -/
def gap : Nat → List CpInfo → List CpInfo
  | 0, r => r
  | n + 1, r => .unusable :: gap n r
def poolList (es : List (Nat × CpInfo)) (last : Nat) : List CpInfo := es.foldr (fun e r => gap e.1 (e.2 :: r)) (gap last [])
def pool (es : List (Nat × CpInfo)) (last : Nat) : Array CpInfo := ⟨poolList es last⟩
def fileOf (pool : Array CpInfo) (this : Nat) (attrs : Array Attribute := #[]) (ms : Array MethodInfo := #[]) (fl : Nat := 33) (sup : Nat := 0) (ifs : Array Nat := #[]) (fds : Array FieldInfo := #[]) : ClassFile where
  minorVersion := 0
  majorVersion := 65
  constantPool := pool
  accessFlags := fl
  thisClass := this
  superClass := sup
  interfaces := ifs
  fields := fds
  methods := ms
  attributes := attrs
def plain (name : String) (sup : Option ClassId) : Class where
  name := name
  kind := .ordinary
  loader := none
  accessFlags := 33
  super := sup
  interfaces := #[]
  cf := none
  fields := #[]
  methods := #[]
  instanceTypes := #[]
  staticTypes := #[]
  resolved := #[]
  callSites := []
  init := .initialized
  statics := none
  mirror := none

def pool0 : Array CpInfo := pool [(5, u "<init>"), (0, u "()V"), (1, .class_ 10), (1, u "java/lang/Object"), (0, u "getClass"), (0, u "()Ljava/lang/Class;")] 111

def k0c0 : Code := { maxStack := 0, maxLocals := 1, code := object_method_1_code, exceptionTable := #[], attributes := #[] }
def k0m0 : Method := { name := "<init>", desc := "()V", sig := { parameters := [], returnType := none }, accessFlags := 1, code := some k0c0 }
def k0m1 : Method := { name := "getClass", desc := "()Ljava/lang/Class;", sig := { parameters := [], returnType := some (.object "java/lang/Class") }, accessFlags := 273, code := none }
/-- java/lang/Object -/
def k0 : Class := { plain "java/lang/Object" none with
  accessFlags := 33
  interfaces := #[]
  cf := some (fileOf pool0 8 #[] #[{ accessFlags := 1, nameIndex := 5, descriptorIndex := 6, attributes := #[] }, { accessFlags := 273, nameIndex := 11, descriptorIndex := 12, attributes := #[] }] 33 0 #[] #[])
  fields := #[]
  methods := #[k0m0, k0m1]
  instanceTypes := #[]
  staticTypes := #[]
  resolved := Array.replicate 124 none
  statics := none }

def pool1 : Array CpInfo := pool [(2, .class_ 4), (0, .nameAndType 5 6), (0, u "java/lang/Object"), (0, u "<init>"), (0, u "()V"), (0, .class_ 8), (0, u "com/example/libspoke/libspoke/wheel/EntryTable"), (0, .methodref 7 3), (0, .methodref 11 12), (0, .class_ 13), (0, .nameAndType 14 15), (0, u "java/lang/Integer"), (0, u "valueOf"), (0, u "(I)Ljava/lang/Integer;"), (0, .methodref 7 17), (0, .nameAndType 18 19), (0, u "add"), (0, u "(Ljava/lang/Object;J)I"), (0, .methodref 7 21), (0, .nameAndType 22 23), (0, u "deadline"), (0, u "(I)J"), (0, .methodref 7 25), (0, .nameAndType 26 27), (0, u "setDeadline"), (0, u "(IJ)V"), (0, .methodref 7 29), (0, .nameAndType 30 31), (0, u "remove"), (0, u "(I)V"), (0, .class_ 33), (0, u "com/example/libspoke/libspoke/wheel/EntryTableDeadlinePinLaw"), (2, u "law"), (0, u "(JJJJI)Z")] 3

def k1m0 : Method := { name := "<init>", desc := "()V", sig := { parameters := [], returnType := none }, accessFlags := 1, code := none }
def k1c1 : Code := { maxStack := 4, maxLocals := 16, code := code, exceptionTable := #[], attributes := #[] }
def k1m1 : Method := { name := "law", desc := "(JJJJI)Z", sig := { parameters := [.long, .long, .long, .long, .int], returnType := some .boolean }, accessFlags := 9, code := some k1c1 }
/-- com/example/libspoke/libspoke/wheel/EntryTableDeadlinePinLaw -/
def k1 : Class := { plain "com/example/libspoke/libspoke/wheel/EntryTableDeadlinePinLaw" (some 0) with
  accessFlags := 49
  interfaces := #[]
  cf := some (fileOf pool1 32 #[] #[{ accessFlags := 1, nameIndex := 5, descriptorIndex := 6, attributes := #[] }, { accessFlags := 9, nameIndex := 36, descriptorIndex := 37, attributes := #[] }] 49 2 #[] #[])
  fields := #[]
  methods := #[k1m0, k1m1]
  instanceTypes := #[]
  staticTypes := #[]
  resolved := Array.replicate 41 none
  statics := none }

def pool2 : Array CpInfo := pool [(1, .class_ 2), (0, u "com/example/libspoke/libspoke/wheel/EntryTable"), (2, .methodref 6 7), (0, .class_ 8), (0, .nameAndType 9 10), (0, u "java/lang/Object"), (0, u "<init>"), (0, u "()V"), (0, .class_ 12), (0, u "[Ljava/lang/Object;"), (0, .fieldref 1 14), (0, .nameAndType 15 16), (0, u "itemPages"), (0, u "[[Ljava/lang/Object;"), (0, .class_ 18), (0, u "[J"), (0, .fieldref 1 20), (0, .nameAndType 21 22), (0, u "deadlinePages"), (0, u "[[J"), (0, .class_ 24), (0, u "[I"), (0, .fieldref 1 26), (0, .nameAndType 27 28), (0, u "linkPages"), (0, u "[[I"), (0, .fieldref 1 30), (0, .nameAndType 31 24), (0, u "pageSizes"), (0, .fieldref 1 33), (0, .nameAndType 34 24), (0, u "pageFirstFree"), (0, .fieldref 1 36), (0, .nameAndType 37 24), (0, u "pageGenerations"), (0, .class_ 39), (0, u "com/example/libspoke/libspoke/wheel/EntryTable$PageSet"), (0, .methodref 38 7), (0, .fieldref 1 42), (0, .nameAndType 43 44), (0, u "pagesWithRoom"), (0, u "Lcom/example/libspoke/libspoke/wheel/EntryTable$PageSet;"), (0, .fieldref 1 46), (0, .nameAndType 47 48), (0, u "sparePage"), (0, u "I"), (0, .methodref 38 50), (0, .nameAndType 51 52), (0, u "lowest"), (0, u "()I"), (0, .methodref 1 54), (0, .nameAndType 55 52), (0, u "makeRoom"), (0, .methodref 1 57), (0, .nameAndType 58 59), (0, u "next"), (0, u "(I)I"), (2, u "remove"), (0, u "(I)V"), (0, .methodref 1 65), (0, .nameAndType 66 67), (0, u "setDeadline"), (0, u "(IJ)V"), (0, .fieldref 1 69), (0, .nameAndType 70 48), (0, u "size"), (0, .methodref 1 72), (0, .nameAndType 73 74), (0, u "link"), (0, u "(II)I"), (0, .methodref 38 76), (0, .nameAndType 77 63), (0, u "add"), (0, .methodref 1 79), (0, .nameAndType 80 81), (0, u "setNext"), (0, u "(II)V"), (6, .fieldref 1 89), (0, .nameAndType 90 48), (0, u "capacity"), (6, .methodref 98 99), (0, .class_ 100), (0, .nameAndType 101 74), (0, u "java/lang/Math"), (0, u "max"), (0, .methodref 103 104), (0, .class_ 105), (0, .nameAndType 106 107), (0, u "java/util/Arrays"), (0, u "copyOf"), (0, u "([Ljava/lang/Object;I)[Ljava/lang/Object;"), (0, .methodref 103 109), (0, .nameAndType 106 110), (0, u "([JI)[J"), (0, .methodref 103 112), (0, .nameAndType 106 113), (0, u "([II)[I"), (0, .methodref 1 115), (0, .nameAndType 116 117), (0, u "freeNewNumbers"), (0, u "(III)V"), (0, .integer 524288), (9, .methodref 98 129), (0, .nameAndType 130 74), (0, u "min"), (19, u "NONE"), (2, u "PAGE_BITS"), (1, u "PAGE_ENTRIES"), (1, u "PAGE_MASK"), (1, u "FIRST_PAGE_ENTRIES"), (1, u "MAX_PAGES"), (0, u "LINK_BITS"), (1, u "NEXT"), (1, u "PREV"), (1, u "PLACE"), (0, u "GENERATION"), (3, u "(Ljava/lang/Object;J)I"), (11, u "deadline"), (0, u "(I)J")] 24

def k2c0 : Code := { maxStack := 5, maxLocals := 1, code := prog_18_method_1_code, exceptionTable := #[], attributes := #[] }
def k2m0 : Method := { name := "<init>", desc := "()V", sig := { parameters := [], returnType := none }, accessFlags := 0, code := some k2c0 }
def k2c1 : Code := { maxStack := 4, maxLocals := 6, code := prog_18_method_2_code, exceptionTable := #[], attributes := #[] }
def k2m1 : Method := { name := "add", desc := "(Ljava/lang/Object;J)I", sig := { parameters := [(.object "java/lang/Object"), .long], returnType := some .int }, accessFlags := 0, code := some k2c1 }
def k2c2 : Code := { maxStack := 4, maxLocals := 3, code := prog_18_method_3_code, exceptionTable := #[], attributes := #[] }
def k2m2 : Method := { name := "remove", desc := "(I)V", sig := { parameters := [.int], returnType := none }, accessFlags := 0, code := some k2c2 }
def k2c3 : Code := { maxStack := 3, maxLocals := 2, code := prog_18_method_9_code, exceptionTable := #[], attributes := #[] }
def k2m3 : Method := { name := "deadline", desc := "(I)J", sig := { parameters := [.int], returnType := some .long }, accessFlags := 0, code := some k2c3 }
def k2c4 : Code := { maxStack := 4, maxLocals := 4, code := prog_18_method_10_code, exceptionTable := #[], attributes := #[] }
def k2m4 : Method := { name := "setDeadline", desc := "(IJ)V", sig := { parameters := [.int, .long], returnType := none }, accessFlags := 0, code := some k2c4 }
def k2c5 : Code := { maxStack := 3, maxLocals := 2, code := prog_18_method_11_code, exceptionTable := #[], attributes := #[] }
def k2m5 : Method := { name := "next", desc := "(I)I", sig := { parameters := [.int], returnType := some .int }, accessFlags := 0, code := some k2c5 }
def k2c6 : Code := { maxStack := 3, maxLocals := 3, code := prog_18_method_12_code, exceptionTable := #[], attributes := #[] }
def k2m6 : Method := { name := "setNext", desc := "(II)V", sig := { parameters := [.int, .int], returnType := none }, accessFlags := 0, code := some k2c6 }
def k2c7 : Code := { maxStack := 2, maxLocals := 2, code := prog_18_method_18_code, exceptionTable := #[], attributes := #[] }
def k2m7 : Method := { name := "link", desc := "(II)I", sig := { parameters := [.int, .int], returnType := some .int }, accessFlags := 10, code := some k2c7 }
def k2c8 : Code := { maxStack := 5, maxLocals := 3, code := prog_18_method_19_code, exceptionTable := #[], attributes := #[] }
def k2m8 : Method := { name := "makeRoom", desc := "()I", sig := { parameters := [], returnType := some .int }, accessFlags := 2, code := some k2c8 }
def k2c9 : Code := { maxStack := 4, maxLocals := 7, code := prog_18_method_20_code, exceptionTable := #[], attributes := #[] }
def k2m9 : Method := { name := "freeNewNumbers", desc := "(III)V", sig := { parameters := [.int, .int, .int], returnType := none }, accessFlags := 2, code := some k2c9 }
/-- com/example/libspoke/libspoke/wheel/EntryTable -/
def k2 : Class := { plain "com/example/libspoke/libspoke/wheel/EntryTable" (some 0) with
  accessFlags := 48
  interfaces := #[]
  cf := some (fileOf pool2 1 #[.nestMembers #[38]] #[{ accessFlags := 0, nameIndex := 9, descriptorIndex := 10, attributes := #[] }, { accessFlags := 0, nameIndex := 77, descriptorIndex := 173, attributes := #[] }, { accessFlags := 0, nameIndex := 62, descriptorIndex := 63, attributes := #[] }, { accessFlags := 0, nameIndex := 185, descriptorIndex := 186, attributes := #[] }, { accessFlags := 0, nameIndex := 66, descriptorIndex := 67, attributes := #[] }, { accessFlags := 0, nameIndex := 58, descriptorIndex := 59, attributes := #[] }, { accessFlags := 0, nameIndex := 80, descriptorIndex := 81, attributes := #[] }, { accessFlags := 10, nameIndex := 73, descriptorIndex := 74, attributes := #[] }, { accessFlags := 2, nameIndex := 55, descriptorIndex := 52, attributes := #[] }, { accessFlags := 2, nameIndex := 116, descriptorIndex := 117, attributes := #[] }] 48 6 #[] #[{ accessFlags := 24, nameIndex := 150, descriptorIndex := 48, attributes := #[] }, { accessFlags := 26, nameIndex := 153, descriptorIndex := 48, attributes := #[] }, { accessFlags := 24, nameIndex := 155, descriptorIndex := 48, attributes := #[] }, { accessFlags := 26, nameIndex := 157, descriptorIndex := 48, attributes := #[] }, { accessFlags := 26, nameIndex := 159, descriptorIndex := 48, attributes := #[] }, { accessFlags := 26, nameIndex := 161, descriptorIndex := 48, attributes := #[] }, { accessFlags := 26, nameIndex := 162, descriptorIndex := 48, attributes := #[] }, { accessFlags := 26, nameIndex := 164, descriptorIndex := 48, attributes := #[] }, { accessFlags := 26, nameIndex := 166, descriptorIndex := 48, attributes := #[] }, { accessFlags := 26, nameIndex := 168, descriptorIndex := 48, attributes := #[] }, { accessFlags := 26, nameIndex := 169, descriptorIndex := 48, attributes := #[] }, { accessFlags := 2, nameIndex := 15, descriptorIndex := 16, attributes := #[] }, { accessFlags := 2, nameIndex := 21, descriptorIndex := 22, attributes := #[] }, { accessFlags := 2, nameIndex := 27, descriptorIndex := 28, attributes := #[] }, { accessFlags := 2, nameIndex := 31, descriptorIndex := 24, attributes := #[] }, { accessFlags := 2, nameIndex := 34, descriptorIndex := 24, attributes := #[] }, { accessFlags := 2, nameIndex := 37, descriptorIndex := 24, attributes := #[] }, { accessFlags := 18, nameIndex := 43, descriptorIndex := 44, attributes := #[] }, { accessFlags := 2, nameIndex := 47, descriptorIndex := 48, attributes := #[] }, { accessFlags := 2, nameIndex := 90, descriptorIndex := 48, attributes := #[] }, { accessFlags := 2, nameIndex := 70, descriptorIndex := 48, attributes := #[] }])
  fields := #[{ name := "NONE", type := .int, accessFlags := 24, slot := 0, constantValue := 0 }, { name := "PAGE_BITS", type := .int, accessFlags := 26, slot := 1, constantValue := 0 }, { name := "PAGE_ENTRIES", type := .int, accessFlags := 24, slot := 2, constantValue := 0 }, { name := "PAGE_MASK", type := .int, accessFlags := 26, slot := 3, constantValue := 0 }, { name := "FIRST_PAGE_ENTRIES", type := .int, accessFlags := 26, slot := 4, constantValue := 0 }, { name := "MAX_PAGES", type := .int, accessFlags := 26, slot := 5, constantValue := 0 }, { name := "LINK_BITS", type := .int, accessFlags := 26, slot := 6, constantValue := 0 }, { name := "NEXT", type := .int, accessFlags := 26, slot := 7, constantValue := 0 }, { name := "PREV", type := .int, accessFlags := 26, slot := 8, constantValue := 0 }, { name := "PLACE", type := .int, accessFlags := 26, slot := 9, constantValue := 0 }, { name := "GENERATION", type := .int, accessFlags := 26, slot := 10, constantValue := 0 }, { name := "itemPages", type := (.array (.array (.object "java/lang/Object"))), accessFlags := 2, slot := 0, constantValue := 0 }, { name := "deadlinePages", type := (.array (.array .long)), accessFlags := 2, slot := 1, constantValue := 0 }, { name := "linkPages", type := (.array (.array .int)), accessFlags := 2, slot := 2, constantValue := 0 }, { name := "pageSizes", type := (.array .int), accessFlags := 2, slot := 3, constantValue := 0 }, { name := "pageFirstFree", type := (.array .int), accessFlags := 2, slot := 4, constantValue := 0 }, { name := "pageGenerations", type := (.array .int), accessFlags := 2, slot := 5, constantValue := 0 }, { name := "pagesWithRoom", type := (.object "com/example/libspoke/libspoke/wheel/EntryTable$PageSet"), accessFlags := 18, slot := 6, constantValue := 0 }, { name := "sparePage", type := .int, accessFlags := 2, slot := 7, constantValue := 0 }, { name := "capacity", type := .int, accessFlags := 2, slot := 8, constantValue := 0 }, { name := "size", type := .int, accessFlags := 2, slot := 9, constantValue := 0 }]
  methods := #[k2m0, k2m1, k2m2, k2m3, k2m4, k2m5, k2m6, k2m7, k2m8, k2m9]
  instanceTypes := #[(.array (.array (.object "java/lang/Object"))), (.array (.array .long)), (.array (.array .int)), (.array .int), (.array .int), (.array .int), (.object "com/example/libspoke/libspoke/wheel/EntryTable$PageSet"), .int, .int, .int]
  staticTypes := #[.int, .int, .int, .int, .int, .int, .int, .int, .int, .int, .int]
  resolved := ((Array.replicate 211 none).setIfInBounds 38 (some (.cls 3))).setIfInBounds 40 (some (.method ⟨3, 0⟩))
  statics := none }

def pool3 : Array CpInfo := pool [(1, .class_ 2), (0, u "com/example/libspoke/libspoke/wheel/EntryTable"), (0, .methodref 4 5), (0, .class_ 6), (0, .nameAndType 7 8), (0, u "java/lang/Object"), (0, u "<init>"), (0, u "()V"), (0, .fieldref 10 11), (0, .class_ 12), (0, .nameAndType 13 14), (0, u "com/example/libspoke/libspoke/wheel/EntryTable$PageSet"), (0, u "pageBits"), (0, u "[J"), (0, .fieldref 10 16), (0, .nameAndType 17 14), (0, u "wordBits"), (2, .methodref 21 22), (0, .class_ 23), (0, .nameAndType 24 25), (0, u "java/lang/Long"), (0, u "numberOfTrailingZeros"), (0, u "(J)I"), (8, u "add"), (0, u "(I)V"), (2, u "lowest"), (0, u "()I")] 6

def k3c0 : Code := { maxStack := 2, maxLocals := 1, code := prog_19_method_1_code, exceptionTable := #[], attributes := #[] }
def k3m0 : Method := { name := "<init>", desc := "()V", sig := { parameters := [], returnType := none }, accessFlags := 2, code := some k3c0 }
def k3c1 : Code := { maxStack := 7, maxLocals := 3, code := prog_19_method_2_code, exceptionTable := #[], attributes := #[] }
def k3m1 : Method := { name := "add", desc := "(I)V", sig := { parameters := [.int], returnType := none }, accessFlags := 0, code := some k3c1 }
def k3c2 : Code := { maxStack := 4, maxLocals := 3, code := prog_19_method_4_code, exceptionTable := #[], attributes := #[] }
def k3m2 : Method := { name := "lowest", desc := "()I", sig := { parameters := [], returnType := some .int }, accessFlags := 0, code := some k3c2 }
/-- com/example/libspoke/libspoke/wheel/EntryTable$PageSet -/
def k3 : Class := { plain "com/example/libspoke/libspoke/wheel/EntryTable$PageSet" (some 0) with
  accessFlags := 48
  interfaces := #[]
  cf := some (fileOf pool3 10 #[.nestHost 1] #[{ accessFlags := 2, nameIndex := 7, descriptorIndex := 8, attributes := #[] }, { accessFlags := 0, nameIndex := 34, descriptorIndex := 35, attributes := #[] }, { accessFlags := 0, nameIndex := 38, descriptorIndex := 39, attributes := #[] }] 48 4 #[] #[{ accessFlags := 2, nameIndex := 13, descriptorIndex := 14, attributes := #[] }, { accessFlags := 2, nameIndex := 17, descriptorIndex := 14, attributes := #[] }])
  fields := #[{ name := "pageBits", type := (.array .long), accessFlags := 2, slot := 0, constantValue := 0 }, { name := "wordBits", type := (.array .long), accessFlags := 2, slot := 1, constantValue := 0 }]
  methods := #[k3m0, k3m1, k3m2]
  instanceTypes := #[(.array .long), (.array .long)]
  staticTypes := #[]
  resolved := Array.replicate 46 none
  statics := none }

def pool4 : Array CpInfo := pool [(1, .class_ 2), (0, u "java/io/Serializable"), (0, .class_ 4), (0, u "java/lang/Object")] 2

/-- java/io/Serializable -/
def k4 : Class := { plain "java/io/Serializable" (some 0) with
  accessFlags := 1537
  interfaces := #[]
  cf := some (fileOf pool4 1 #[] #[] 1537 3 #[] #[])
  fields := #[]
  methods := #[]
  instanceTypes := #[]
  staticTypes := #[]
  resolved := Array.replicate 7 none
  statics := none }

def pool5 : Array CpInfo := pool [(2, .class_ 4), (1, u "java/lang/Object"), (0, u "<init>"), (0, u "()V"), (1, .class_ 10), (1, u "java/lang/Number"), (2, .class_ 14), (0, u "java/io/Serializable"), (0, u "serialVersionUID"), (0, u "J")] 20

def k5m0 : Method := { name := "<init>", desc := "()V", sig := { parameters := [], returnType := none }, accessFlags := 1, code := none }
/-- java/lang/Number -/
def k5 : Class := { plain "java/lang/Number" (some 0) with
  accessFlags := 1057
  interfaces := #[4]
  cf := some (fileOf pool5 8 #[] #[{ accessFlags := 1, nameIndex := 5, descriptorIndex := 6, attributes := #[] }] 1057 2 #[13] #[{ accessFlags := 26, nameIndex := 15, descriptorIndex := 16, attributes := #[] }])
  fields := #[{ name := "serialVersionUID", type := .long, accessFlags := 26, slot := 0, constantValue := 0 }]
  methods := #[k5m0]
  instanceTypes := #[]
  staticTypes := #[.long]
  resolved := Array.replicate 37 none
  statics := none }

def pool6 : Array CpInfo := pool [(1, .class_ 2), (0, u "java/lang/Comparable"), (0, .class_ 4), (0, u "java/lang/Object")] 7

/-- java/lang/Comparable -/
def k6 : Class := { plain "java/lang/Comparable" (some 0) with
  accessFlags := 1537
  interfaces := #[]
  cf := some (fileOf pool6 1 #[] #[] 1537 3 #[] #[])
  fields := #[]
  methods := #[]
  instanceTypes := #[]
  staticTypes := #[]
  resolved := Array.replicate 12 none
  statics := none }

def pool7 : Array CpInfo := pool [(1, .class_ 2), (0, u "java/lang/constant/Constable"), (0, .class_ 4), (0, u "java/lang/Object")] 6

/-- java/lang/constant/Constable -/
def k7 : Class := { plain "java/lang/constant/Constable" (some 0) with
  accessFlags := 1537
  interfaces := #[]
  cf := some (fileOf pool7 1 #[] #[] 1537 3 #[] #[])
  fields := #[]
  methods := #[]
  instanceTypes := #[]
  staticTypes := #[]
  resolved := Array.replicate 11 none
  statics := none }

def pool8 : Array CpInfo := pool [(1, .class_ 2), (0, u "java/lang/constant/ConstantDesc"), (0, .class_ 4), (0, u "java/lang/Object")] 32

/-- java/lang/constant/ConstantDesc -/
def k8 : Class := { plain "java/lang/constant/ConstantDesc" (some 0) with
  accessFlags := 1537
  interfaces := #[]
  cf := some (fileOf pool8 1 #[] #[] 1537 3 #[] #[])
  fields := #[]
  methods := #[]
  instanceTypes := #[]
  staticTypes := #[]
  resolved := Array.replicate 37 none
  statics := none }

def pool9 : Array CpInfo := pool [(1, .class_ 2), (0, u "java/lang/Integer"), (16, u "digits"), (0, u "[C"), (33, u "(I)I"), (30, u "DigitOnes"), (0, u "[B"), (2, u "DigitTens"), (97, u "valueOf"), (0, u "(I)Ljava/lang/Integer;"), (0, .class_ 190), (0, u "java/lang/Integer$IntegerCache"), (0, .fieldref 189 192), (0, .nameAndType 193 194), (0, u "high"), (0, u "I"), (0, .fieldref 189 196), (0, .nameAndType 197 198), (0, u "cache"), (0, u "[Ljava/lang/Integer;"), (4, .class_ 204), (0, u "java/lang/Number"), (2, u "value"), (94, u "TYPE"), (0, u "Ljava/lang/Class;"), (0, .class_ 305), (0, u "java/lang/Comparable"), (0, .class_ 307), (0, u "java/lang/constant/Constable"), (0, .class_ 309), (0, u "java/lang/constant/ConstantDesc"), (0, u "MIN_VALUE"), (1, u "MAX_VALUE"), (3, u "SIZE"), (1, u "BYTES"), (1, u "serialVersionUID"), (0, u "J"), (84, u "numberOfTrailingZeros")] 46

def k9c0 : Code := { maxStack := 3, maxLocals := 1, code := jdk_33_method_22_code, exceptionTable := #[], attributes := #[] }
def k9m0 : Method := { name := "valueOf", desc := "(I)Ljava/lang/Integer;", sig := { parameters := [.int], returnType := some (.object "java/lang/Integer") }, accessFlags := 9, code := some k9c0 }
def k9c1 : Code := { maxStack := 3, maxLocals := 2, code := jdk_33_method_48_code, exceptionTable := #[], attributes := #[] }
def k9m1 : Method := { name := "numberOfTrailingZeros", desc := "(I)I", sig := { parameters := [.int], returnType := some .int }, accessFlags := 9, code := some k9c1 }
/-- java/lang/Integer -/
def k9 : Class := { plain "java/lang/Integer" (some 5) with
  accessFlags := 49
  interfaces := #[6, 7, 8]
  cf := some (fileOf pool9 1 #[.nestMembers #[189]] #[{ accessFlags := 9, nameIndex := 187, descriptorIndex := 188, attributes := #[] }, { accessFlags := 9, nameIndex := 406, descriptorIndex := 54, attributes := #[] }] 49 203 #[304, 306, 308] #[{ accessFlags := 25, nameIndex := 310, descriptorIndex := 194, attributes := #[] }, { accessFlags := 25, nameIndex := 312, descriptorIndex := 194, attributes := #[] }, { accessFlags := 25, nameIndex := 302, descriptorIndex := 303, attributes := #[] }, { accessFlags := 24, nameIndex := 19, descriptorIndex := 20, attributes := #[] }, { accessFlags := 24, nameIndex := 89, descriptorIndex := 86, attributes := #[] }, { accessFlags := 24, nameIndex := 85, descriptorIndex := 86, attributes := #[] }, { accessFlags := 18, nameIndex := 207, descriptorIndex := 194, attributes := #[] }, { accessFlags := 25, nameIndex := 316, descriptorIndex := 194, attributes := #[] }, { accessFlags := 25, nameIndex := 318, descriptorIndex := 194, attributes := #[] }, { accessFlags := 26, nameIndex := 320, descriptorIndex := 321, attributes := #[] }])
  fields := #[{ name := "MIN_VALUE", type := .int, accessFlags := 25, slot := 0, constantValue := 0 }, { name := "MAX_VALUE", type := .int, accessFlags := 25, slot := 1, constantValue := 0 }, { name := "TYPE", type := (.object "java/lang/Class"), accessFlags := 25, slot := 2, constantValue := 0 }, { name := "digits", type := (.array .char), accessFlags := 24, slot := 3, constantValue := 0 }, { name := "DigitTens", type := (.array .byte), accessFlags := 24, slot := 4, constantValue := 0 }, { name := "DigitOnes", type := (.array .byte), accessFlags := 24, slot := 5, constantValue := 0 }, { name := "value", type := .int, accessFlags := 18, slot := 0, constantValue := 0 }, { name := "SIZE", type := .int, accessFlags := 25, slot := 6, constantValue := 0 }, { name := "BYTES", type := .int, accessFlags := 25, slot := 7, constantValue := 0 }, { name := "serialVersionUID", type := .long, accessFlags := 26, slot := 8, constantValue := 0 }]
  methods := #[k9m0, k9m1]
  instanceTypes := #[.int]
  staticTypes := #[.int, .int, (.object "java/lang/Class"), (.array .char), (.array .byte), (.array .byte), .int, .int, .long]
  resolved := Array.replicate 453 none
  statics := none }

def pool10 : Array CpInfo := pool [(2, .class_ 4), (1, u "java/lang/Object"), (0, u "<init>"), (0, u "()V"), (0, .class_ 8), (0, u "java/lang/Integer"), (7, .class_ 18), (1, u "java/lang/Integer$IntegerCache"), (0, u "$assertionsDisabled"), (0, u "Z"), (26, u "high"), (0, u "I"), (8, u "archivedCache"), (0, u "[Ljava/lang/Integer;"), (12, u "cache"), (0, u "low")] 27

def k10m0 : Method := { name := "<init>", desc := "()V", sig := { parameters := [], returnType := none }, accessFlags := 2, code := none }
/-- java/lang/Integer$IntegerCache -/
def k10 : Class := { plain "java/lang/Integer$IntegerCache" (some 0) with
  accessFlags := 48
  interfaces := #[]
  cf := some (fileOf pool10 16 #[.nestHost 7] #[{ accessFlags := 2, nameIndex := 5, descriptorIndex := 6, attributes := #[] }] 48 2 #[] #[{ accessFlags := 24, nameIndex := 72, descriptorIndex := 48, attributes := #[] }, { accessFlags := 24, nameIndex := 47, descriptorIndex := 48, attributes := #[] }, { accessFlags := 24, nameIndex := 71, descriptorIndex := 58, attributes := #[] }, { accessFlags := 8, nameIndex := 57, descriptorIndex := 58, attributes := #[] }, { accessFlags := 4120, nameIndex := 19, descriptorIndex := 20, attributes := #[] }])
  fields := #[{ name := "low", type := .int, accessFlags := 24, slot := 0, constantValue := 0 }, { name := "high", type := .int, accessFlags := 24, slot := 1, constantValue := 0 }, { name := "cache", type := (.array (.object "java/lang/Integer")), accessFlags := 24, slot := 2, constantValue := 0 }, { name := "archivedCache", type := (.array (.object "java/lang/Integer")), accessFlags := 8, slot := 3, constantValue := 0 }, { name := "$assertionsDisabled", type := .boolean, accessFlags := 4120, slot := 4, constantValue := 0 }]
  methods := #[k10m0]
  instanceTypes := #[]
  staticTypes := #[.int, .int, (.array (.object "java/lang/Integer")), (.array (.object "java/lang/Integer")), .boolean]
  resolved := Array.replicate 100 none
  statics := some 0 }

def pool11 : Array CpInfo := pool [(1, .class_ 2), (0, u "java/lang/Math"), (1, .class_ 6), (1, u "java/lang/Object"), (0, u "<init>"), (0, u "()V"), (89, .class_ 100), (1, u "java/lang/Math$RandomNumberGeneratorHolder"), (71, u "negativeZeroFloatBits"), (0, u "J"), (2, u "negativeZeroDoubleBits"), (21, u "max"), (2, u "min"), (43, u "$assertionsDisabled"), (0, u "Z"), (88, u "(II)I"), (2, u "twoToTheDoubleScaleDown"), (0, u "D"), (4, u "twoToTheDoubleScaleUp"), (9, u "E"), (3, u "PI"), (2, u "TAU"), (2, u "DEGREES_TO_RADIANS"), (0, u "RADIANS_TO_DEGREES")] 94

def k11m0 : Method := { name := "<init>", desc := "()V", sig := { parameters := [], returnType := none }, accessFlags := 2, code := none }
def k11c1 : Code := { maxStack := 2, maxLocals := 2, code := jdk_29_method_65_code, exceptionTable := #[], attributes := #[] }
def k11m1 : Method := { name := "max", desc := "(II)I", sig := { parameters := [.int, .int], returnType := some .int }, accessFlags := 9, code := some k11c1 }
def k11c2 : Code := { maxStack := 2, maxLocals := 2, code := jdk_29_method_69_code, exceptionTable := #[], attributes := #[] }
def k11m2 : Method := { name := "min", desc := "(II)I", sig := { parameters := [.int, .int], returnType := some .int }, accessFlags := 9, code := some k11c2 }
/-- java/lang/Math -/
def k11 : Class := { plain "java/lang/Math" (some 0) with
  accessFlags := 49
  interfaces := #[]
  cf := some (fileOf pool11 1 #[.nestMembers #[98]] #[{ accessFlags := 2, nameIndex := 7, descriptorIndex := 8, attributes := #[] }, { accessFlags := 9, nameIndex := 198, descriptorIndex := 335, attributes := #[] }, { accessFlags := 9, nameIndex := 201, descriptorIndex := 335, attributes := #[] }] 49 4 #[] #[{ accessFlags := 25, nameIndex := 354, descriptorIndex := 339, attributes := #[] }, { accessFlags := 25, nameIndex := 358, descriptorIndex := 339, attributes := #[] }, { accessFlags := 25, nameIndex := 361, descriptorIndex := 339, attributes := #[] }, { accessFlags := 26, nameIndex := 364, descriptorIndex := 339, attributes := #[] }, { accessFlags := 26, nameIndex := 365, descriptorIndex := 339, attributes := #[] }, { accessFlags := 26, nameIndex := 172, descriptorIndex := 173, attributes := #[] }, { accessFlags := 26, nameIndex := 176, descriptorIndex := 173, attributes := #[] }, { accessFlags := 8, nameIndex := 344, descriptorIndex := 339, attributes := #[] }, { accessFlags := 8, nameIndex := 338, descriptorIndex := 339, attributes := #[] }, { accessFlags := 4120, nameIndex := 245, descriptorIndex := 246, attributes := #[] }])
  fields := #[{ name := "E", type := .double, accessFlags := 25, slot := 0, constantValue := 0 }, { name := "PI", type := .double, accessFlags := 25, slot := 1, constantValue := 0 }, { name := "TAU", type := .double, accessFlags := 25, slot := 2, constantValue := 0 }, { name := "DEGREES_TO_RADIANS", type := .double, accessFlags := 26, slot := 3, constantValue := 0 }, { name := "RADIANS_TO_DEGREES", type := .double, accessFlags := 26, slot := 4, constantValue := 0 }, { name := "negativeZeroFloatBits", type := .long, accessFlags := 26, slot := 5, constantValue := 0 }, { name := "negativeZeroDoubleBits", type := .long, accessFlags := 26, slot := 6, constantValue := 0 }, { name := "twoToTheDoubleScaleUp", type := .double, accessFlags := 8, slot := 7, constantValue := 0 }, { name := "twoToTheDoubleScaleDown", type := .double, accessFlags := 8, slot := 8, constantValue := 0 }, { name := "$assertionsDisabled", type := .boolean, accessFlags := 4120, slot := 9, constantValue := 0 }]
  methods := #[k11m0, k11m1, k11m2]
  instanceTypes := #[]
  staticTypes := #[.double, .double, .double, .double, .double, .long, .long, .double, .double, .boolean]
  resolved := Array.replicate 460 none
  statics := none }

def pool12 : Array CpInfo := pool [(2, .class_ 4), (1, u "java/lang/Object"), (0, u "<init>"), (0, u "()V"), (7, .class_ 16), (1, u "java/util/Arrays"), (57, .class_ 76), (1, u "java/util/Arrays$NaturalOrder"), (9, .methodref 2 87), (0, .nameAndType 88 89), (0, u "getClass"), (0, u "()Ljava/lang/Class;"), (20, .class_ 111), (0, u "[Ljava/lang/Object;"), (1, .class_ 115), (1, u "java/util/Arrays$LegacyMergeSort"), (1, u "Z"), (32, .methodref 151 152), (0, .class_ 153), (0, .nameAndType 154 155), (0, u "java/lang/System"), (0, u "arraycopy"), (0, u "(Ljava/lang/Object;ILjava/lang/Object;II)V"), (144, .methodref 14 301), (0, .nameAndType 302 303), (0, u "copyOf"), (0, u "([Ljava/lang/Object;ILjava/lang/Class;)[Ljava/lang/Object;"), (0, .methodref 305 306), (0, .class_ 307), (0, .nameAndType 308 309), (0, u "java/lang/Math"), (0, u "min"), (0, u "(II)I"), (65, .class_ 376), (0, u "java/util/Arrays$ArrayList"), (68, u "$assertionsDisabled"), (269, u "MIN_ARRAY_SORT_GRAN"), (0, u "I"), (2, u "INSERTIONSORT_THRESHOLD"), (140, u "([Ljava/lang/Object;I)[Ljava/lang/Object;"), (10, u "([II)[I"), (0, u "([JI)[J"), (102, .class_ 976), (0, u "java/util/Arrays$ArrayItr")] 52

def k12m0 : Method := { name := "<init>", desc := "()V", sig := { parameters := [], returnType := none }, accessFlags := 2, code := none }
def k12c1 : Code := { maxStack := 3, maxLocals := 2, code := jdk_65_method_119_code, exceptionTable := #[], attributes := #[] }
def k12m1 : Method := { name := "copyOf", desc := "([Ljava/lang/Object;I)[Ljava/lang/Object;", sig := { parameters := [(.array (.object "java/lang/Object")), .int], returnType := some (.array (.object "java/lang/Object")) }, accessFlags := 9, code := some k12c1 }
def k12c2 : Code := { maxStack := 6, maxLocals := 4, code := jdk_65_method_120_code, exceptionTable := #[], attributes := #[] }
def k12m2 : Method := { name := "copyOf", desc := "([Ljava/lang/Object;ILjava/lang/Class;)[Ljava/lang/Object;", sig := { parameters := [(.array (.object "java/lang/Object")), .int, (.object "java/lang/Class")], returnType := some (.array (.object "java/lang/Object")) }, accessFlags := 9, code := some k12c2 }
def k12c3 : Code := { maxStack := 6, maxLocals := 3, code := jdk_65_method_123_code, exceptionTable := #[], attributes := #[] }
def k12m3 : Method := { name := "copyOf", desc := "([II)[I", sig := { parameters := [(.array .int), .int], returnType := some (.array .int) }, accessFlags := 9, code := some k12c3 }
def k12c4 : Code := { maxStack := 6, maxLocals := 3, code := jdk_65_method_124_code, exceptionTable := #[], attributes := #[] }
def k12m4 : Method := { name := "copyOf", desc := "([JI)[J", sig := { parameters := [(.array .long), .int], returnType := some (.array .long) }, accessFlags := 9, code := some k12c4 }
/-- java/util/Arrays -/
def k12 : Class := { plain "java/util/Arrays" (some 0) with
  accessFlags := 49
  interfaces := #[]
  cf := some (fileOf pool12 14 #[.nestMembers #[975, 375, 113, 74]] #[{ accessFlags := 2, nameIndex := 5, descriptorIndex := 6, attributes := #[] }, { accessFlags := 9, nameIndex := 302, descriptorIndex := 860, attributes := #[] }, { accessFlags := 9, nameIndex := 302, descriptorIndex := 303, attributes := #[] }, { accessFlags := 9, nameIndex := 302, descriptorIndex := 871, attributes := #[] }, { accessFlags := 9, nameIndex := 302, descriptorIndex := 872, attributes := #[] }] 49 2 #[] #[{ accessFlags := 26, nameIndex := 715, descriptorIndex := 716, attributes := #[] }, { accessFlags := 26, nameIndex := 719, descriptorIndex := 716, attributes := #[] }, { accessFlags := 4120, nameIndex := 445, descriptorIndex := 117, attributes := #[] }])
  fields := #[{ name := "MIN_ARRAY_SORT_GRAN", type := .int, accessFlags := 26, slot := 0, constantValue := 0 }, { name := "INSERTIONSORT_THRESHOLD", type := .int, accessFlags := 26, slot := 1, constantValue := 0 }, { name := "$assertionsDisabled", type := .boolean, accessFlags := 4120, slot := 2, constantValue := 0 }]
  methods := #[k12m0, k12m1, k12m2, k12m3, k12m4]
  instanceTypes := #[]
  staticTypes := #[.int, .int, .boolean]
  resolved := Array.replicate 1029 none
  statics := none }

def pool13 : Array CpInfo := pool [(2, .class_ 4), (1, u "java/lang/Object"), (0, u "<init>"), (0, u "()V"), (1, .class_ 10), (1, u "java/lang/System"), (0, u "allowSecurityManager"), (0, u "I"), (16, u "cons"), (0, u "Ljava/io/Console;"), (77, .class_ 110), (1, u "java/lang/System$CallersHolder"), (43, u "initialErrStream"), (0, u "Ljava/io/PrintStream;"), (19, u "security"), (0, u "Ljava/lang/SecurityManager;"), (31, .class_ 209), (0, u "java/lang/System$1"), (7, u "props"), (0, u "Ljava/util/Properties;"), (2, u "lineSeparator"), (0, u "Ljava/lang/String;"), (96, .class_ 321), (1, u "java/lang/System$LoggerFinder"), (5, .class_ 328), (0, u "java/lang/System$Logger"), (67, u "err"), (2, u "out"), (91, u "notSupportedJnuEncoding"), (15, u "in"), (17, u "initialIn"), (0, u "Ljava/io/InputStream;"), (35, u "bootLayer"), (0, u "Ljava/lang/ModuleLayer;"), (99, .class_ 664), (0, u "java/lang/System$2"), (9, u "NEVER"), (2, u "MAYBE"), (49, u "arraycopy"), (0, u "(Ljava/lang/Object;ILjava/lang/Object;II)V"), (72, .class_ 802), (0, u "java/lang/System$Logger$Level")] 31

def k13m0 : Method := { name := "<init>", desc := "()V", sig := { parameters := [], returnType := none }, accessFlags := 2, code := none }
def k13m1 : Method := { name := "arraycopy", desc := "(Ljava/lang/Object;ILjava/lang/Object;II)V", sig := { parameters := [(.object "java/lang/Object"), .int, (.object "java/lang/Object"), .int, .int], returnType := none }, accessFlags := 265, code := none }
/-- java/lang/System -/
def k13 : Class := { plain "java/lang/System" (some 0) with
  accessFlags := 49
  interfaces := #[]
  cf := some (fileOf pool13 8 #[.nestMembers #[319, 327, 801, 108, 663, 208]] #[{ accessFlags := 2, nameIndex := 5, descriptorIndex := 6, attributes := #[] }, { accessFlags := 265, nameIndex := 727, descriptorIndex := 728, attributes := #[] }] 49 2 #[] #[{ accessFlags := 25, nameIndex := 507, descriptorIndex := 526, attributes := #[] }, { accessFlags := 25, nameIndex := 399, descriptorIndex := 155, attributes := #[] }, { accessFlags := 25, nameIndex := 396, descriptorIndex := 155, attributes := #[] }, { accessFlags := 10, nameIndex := 525, descriptorIndex := 526, attributes := #[] }, { accessFlags := 26, nameIndex := 674, descriptorIndex := 12, attributes := #[] }, { accessFlags := 26, nameIndex := 677, descriptorIndex := 12, attributes := #[] }, { accessFlags := 10, nameIndex := 11, descriptorIndex := 12, attributes := #[] }, { accessFlags := 74, nameIndex := 175, descriptorIndex := 176, attributes := #[] }, { accessFlags := 10, nameIndex := 491, descriptorIndex := 222, attributes := #[] }, { accessFlags := 74, nameIndex := 29, descriptorIndex := 30, attributes := #[] }, { accessFlags := 74, nameIndex := 154, descriptorIndex := 155, attributes := #[] }, { accessFlags := 10, nameIndex := 217, descriptorIndex := 218, attributes := #[] }, { accessFlags := 10, nameIndex := 221, descriptorIndex := 222, attributes := #[] }, { accessFlags := 8, nameIndex := 562, descriptorIndex := 563, attributes := #[] }])
  fields := #[{ name := "in", type := (.object "java/io/InputStream"), accessFlags := 25, slot := 0, constantValue := 0 }, { name := "out", type := (.object "java/io/PrintStream"), accessFlags := 25, slot := 1, constantValue := 0 }, { name := "err", type := (.object "java/io/PrintStream"), accessFlags := 25, slot := 2, constantValue := 0 }, { name := "initialIn", type := (.object "java/io/InputStream"), accessFlags := 10, slot := 3, constantValue := 0 }, { name := "NEVER", type := .int, accessFlags := 26, slot := 4, constantValue := 0 }, { name := "MAYBE", type := .int, accessFlags := 26, slot := 5, constantValue := 0 }, { name := "allowSecurityManager", type := .int, accessFlags := 10, slot := 6, constantValue := 0 }, { name := "security", type := (.object "java/lang/SecurityManager"), accessFlags := 74, slot := 7, constantValue := 0 }, { name := "notSupportedJnuEncoding", type := (.object "java/lang/String"), accessFlags := 10, slot := 8, constantValue := 0 }, { name := "cons", type := (.object "java/io/Console"), accessFlags := 74, slot := 9, constantValue := 0 }, { name := "initialErrStream", type := (.object "java/io/PrintStream"), accessFlags := 74, slot := 10, constantValue := 0 }, { name := "props", type := (.object "java/util/Properties"), accessFlags := 10, slot := 11, constantValue := 0 }, { name := "lineSeparator", type := (.object "java/lang/String"), accessFlags := 10, slot := 12, constantValue := 0 }, { name := "bootLayer", type := (.object "java/lang/ModuleLayer"), accessFlags := 8, slot := 13, constantValue := 0 }]
  methods := #[k13m0, k13m1]
  instanceTypes := #[]
  staticTypes := #[(.object "java/io/InputStream"), (.object "java/io/PrintStream"), (.object "java/io/PrintStream"), (.object "java/io/InputStream"), .int, .int, .int, (.object "java/lang/SecurityManager"), (.object "java/lang/String"), (.object "java/io/Console"), (.object "java/io/PrintStream"), (.object "java/util/Properties"), (.object "java/lang/String"), (.object "java/lang/ModuleLayer")]
  resolved := Array.replicate 834 none
  statics := none }

def pool14 : Array CpInfo := pool [(1, .class_ 2), (0, u "java/lang/Long"), (15, .class_ 20), (1, u "java/lang/Integer"), (80, u "(J)I"), (133, .class_ 237), (1, u "java/lang/Long$LongCache"), (33, .class_ 272), (0, u "java/lang/Number"), (2, u "value"), (0, u "J"), (33, u "(I)I"), (0, .methodref 18 312), (0, .nameAndType 313 310), (0, u "numberOfTrailingZeros"), (47, u "TYPE"), (0, u "Ljava/lang/Class;"), (0, .class_ 364), (0, u "java/lang/Comparable"), (0, .class_ 366), (0, u "java/lang/constant/Constable"), (0, .class_ 368), (0, u "java/lang/constant/ConstantDesc"), (0, u "MIN_VALUE"), (1, u "MAX_VALUE"), (4, u "SIZE"), (0, u "I"), (1, u "BYTES"), (1, u "serialVersionUID")] 142

def k14c0 : Code := { maxStack := 4, maxLocals := 3, code := jdk_35_method_49_code, exceptionTable := #[], attributes := #[] }
def k14m0 : Method := { name := "numberOfTrailingZeros", desc := "(J)I", sig := { parameters := [.long], returnType := some .int }, accessFlags := 9, code := some k14c0 }
/-- java/lang/Long -/
def k14 : Class := { plain "java/lang/Long" (some 5) with
  accessFlags := 49
  interfaces := #[6, 7, 8]
  cf := some (fileOf pool14 1 #[.nestMembers #[235]] #[{ accessFlags := 9, nameIndex := 313, descriptorIndex := 101, attributes := #[] }] 49 271 #[363, 365, 367] #[{ accessFlags := 25, nameIndex := 369, descriptorIndex := 276, attributes := #[] }, { accessFlags := 25, nameIndex := 371, descriptorIndex := 276, attributes := #[] }, { accessFlags := 25, nameIndex := 361, descriptorIndex := 362, attributes := #[] }, { accessFlags := 18, nameIndex := 275, descriptorIndex := 276, attributes := #[] }, { accessFlags := 25, nameIndex := 376, descriptorIndex := 377, attributes := #[] }, { accessFlags := 25, nameIndex := 379, descriptorIndex := 377, attributes := #[] }, { accessFlags := 26, nameIndex := 381, descriptorIndex := 276, attributes := #[] }])
  fields := #[{ name := "MIN_VALUE", type := .long, accessFlags := 25, slot := 0, constantValue := 0 }, { name := "MAX_VALUE", type := .long, accessFlags := 25, slot := 1, constantValue := 0 }, { name := "TYPE", type := (.object "java/lang/Class"), accessFlags := 25, slot := 2, constantValue := 0 }, { name := "value", type := .long, accessFlags := 18, slot := 0, constantValue := 0 }, { name := "SIZE", type := .int, accessFlags := 25, slot := 3, constantValue := 0 }, { name := "BYTES", type := .int, accessFlags := 25, slot := 4, constantValue := 0 }, { name := "serialVersionUID", type := .long, accessFlags := 26, slot := 5, constantValue := 0 }]
  methods := #[k14m0]
  instanceTypes := #[.long]
  staticTypes := #[.long, .long, (.object "java/lang/Class"), .int, .int, .long]
  resolved := Array.replicate 524 none
  statics := none }

def pool15 : Array CpInfo := pool [(1, u "java/lang/Class"), (0, .class_ 1), (0, u "java/lang/Object"), (0, .class_ 3)] 0

/-- java/lang/Class -/
def k15 : Class := { plain "java/lang/Class" (some 0) with
  accessFlags := 49
  interfaces := #[]
  cf := some (fileOf pool15 2 #[] #[] 49 4 #[] #[])
  fields := #[]
  methods := #[]
  instanceTypes := #[]
  staticTypes := #[]
  resolved := Array.replicate 5 none
  statics := none }

def pool16 : Array CpInfo := pool [(1, u "java/lang/Cloneable"), (0, .class_ 1), (0, u "java/lang/Object"), (0, .class_ 3)] 3

/-- java/lang/Cloneable -/
def k16 : Class := { plain "java/lang/Cloneable" (some 0) with
  accessFlags := 1537
  interfaces := #[]
  cf := some (fileOf pool16 2 #[] #[] 1537 4 #[] #[])
  fields := #[]
  methods := #[]
  instanceTypes := #[]
  staticTypes := #[]
  resolved := Array.replicate 8 none
  statics := none }

/-- the primitive byte -/
def k17 : Class := { plain "byte" none with kind := .primitive 'B', accessFlags := 0x411 }
/-- [B -/
def k18 : Class := { plain "[B" (some 0) with kind := .array 17 .byte, interfaces := #[16, 4], accessFlags := 1041 }

/-- the primitive int -/
def k19 : Class := { plain "int" none with kind := .primitive 'I', accessFlags := 0x411 }
/-- [I -/
def k20 : Class := { plain "[I" (some 0) with kind := .array 19 .int, interfaces := #[16, 4], accessFlags := 1041 }

/-- the primitive long -/
def k21 : Class := { plain "long" none with kind := .primitive 'J', accessFlags := 0x411 }
/-- [J -/
def k22 : Class := { plain "[J" (some 0) with kind := .array 21 .long, interfaces := #[16, 4], accessFlags := 1041 }

/-- [Ljava/lang/Integer; -/
def k23 : Class := { plain "[Ljava/lang/Integer;" (some 0) with kind := .array 9 (.object "java/lang/Integer"), interfaces := #[16, 4], accessFlags := 1041 }

/-- [Ljava/lang/Object; -/
def k24 : Class := { plain "[Ljava/lang/Object;" (some 0) with kind := .array 0 (.object "java/lang/Object"), interfaces := #[16, 4], accessFlags := 1041, mirror := some 1 }

/-- [[Ljava/lang/Object; -/
def k25 : Class := { plain "[[Ljava/lang/Object;" (some 0) with kind := .array 24 (.array (.object "java/lang/Object")), interfaces := #[16, 4], accessFlags := 1041 }

/-- [[J -/
def k26 : Class := { plain "[[J" (some 0) with kind := .array 22 (.array .long), interfaces := #[16, 4], accessFlags := 1041 }

/-- [[I -/
def k27 : Class := { plain "[[I" (some 0) with kind := .array 20 (.array .int), interfaces := #[16, 4], accessFlags := 1041 }

def heap : Heap := #[{ cls := 10, slots := #[.int 0, .int 127, .ref 2, .null, .int 0], vm := .statics 10 },
  { cls := 15, slots := #[], vm := .mirror 24 },
  { cls := 23, slots := #[.ref 3, .ref 4, .ref 5, .ref 6, .ref 7, .ref 8, .ref 9, .ref 10, .ref 11, .ref 12, .ref 13, .ref 14, .ref 15, .ref 16, .ref 17, .ref 18, .ref 19, .ref 20, .ref 21, .ref 22, .ref 23, .ref 24, .ref 25, .ref 26, .ref 27, .ref 28, .ref 29, .ref 30, .ref 31, .ref 32, .ref 33, .ref 34, .ref 35, .ref 36, .ref 37, .ref 38, .ref 39, .ref 40, .ref 41, .ref 42, .ref 43, .ref 44, .ref 45, .ref 46, .ref 47, .ref 48, .ref 49, .ref 50, .ref 51, .ref 52, .ref 53, .ref 54, .ref 55, .ref 56, .ref 57, .ref 58, .ref 59, .ref 60, .ref 61, .ref 62, .ref 63, .ref 64, .ref 65, .ref 66, .ref 67, .ref 68, .ref 69, .ref 70, .ref 71, .ref 72, .ref 73, .ref 74, .ref 75, .ref 76, .ref 77, .ref 78, .ref 79, .ref 80, .ref 81, .ref 82, .ref 83, .ref 84, .ref 85, .ref 86, .ref 87, .ref 88, .ref 89, .ref 90, .ref 91, .ref 92, .ref 93, .ref 94, .ref 95, .ref 96, .ref 97, .ref 98, .ref 99, .ref 100, .ref 101, .ref 102, .ref 103, .ref 104, .ref 105, .ref 106, .ref 107, .ref 108, .ref 109, .ref 110, .ref 111, .ref 112, .ref 113, .ref 114, .ref 115, .ref 116, .ref 117, .ref 118, .ref 119, .ref 120, .ref 121, .ref 122, .ref 123, .ref 124, .ref 125, .ref 126, .ref 127, .ref 128, .ref 129, .ref 130, .ref 131, .ref 132, .ref 133, .ref 134, .ref 135, .ref 136, .ref 137, .ref 138, .ref 139, .ref 140, .ref 141, .ref 142, .ref 143, .ref 144, .ref 145, .ref 146, .ref 147, .ref 148, .ref 149, .ref 150, .ref 151, .ref 152, .ref 153, .ref 154, .ref 155, .ref 156, .ref 157, .ref 158, .ref 159, .ref 160, .ref 161, .ref 162, .ref 163, .ref 164, .ref 165, .ref 166, .ref 167, .ref 168, .ref 169, .ref 170, .ref 171, .ref 172, .ref 173, .ref 174, .ref 175, .ref 176, .ref 177, .ref 178, .ref 179, .ref 180, .ref 181, .ref 182, .ref 183, .ref 184, .ref 185, .ref 186, .ref 187, .ref 188, .ref 189, .ref 190, .ref 191, .ref 192, .ref 193, .ref 194, .ref 195, .ref 196, .ref 197, .ref 198, .ref 199, .ref 200, .ref 201, .ref 202, .ref 203, .ref 204, .ref 205, .ref 206, .ref 207, .ref 208, .ref 209, .ref 210, .ref 211, .ref 212, .ref 213, .ref 214, .ref 215, .ref 216, .ref 217, .ref 218, .ref 219, .ref 220, .ref 221, .ref 222, .ref 223, .ref 224, .ref 225, .ref 226, .ref 227, .ref 228, .ref 229, .ref 230, .ref 231, .ref 232, .ref 233, .ref 234, .ref 235, .ref 236, .ref 237, .ref 238, .ref 239, .ref 240, .ref 241, .ref 242, .ref 243, .ref 244, .ref 245, .ref 246, .ref 247, .ref 248, .ref 249, .ref 250, .ref 251, .ref 252, .ref 253, .ref 254, .ref 255, .ref 256, .ref 257, .ref 258], vm := .none },
  { cls := 9, slots := #[.int (-128)], vm := .none },
  { cls := 9, slots := #[.int (-127)], vm := .none },
  { cls := 9, slots := #[.int (-126)], vm := .none },
  { cls := 9, slots := #[.int (-125)], vm := .none },
  { cls := 9, slots := #[.int (-124)], vm := .none },
  { cls := 9, slots := #[.int (-123)], vm := .none },
  { cls := 9, slots := #[.int (-122)], vm := .none },
  { cls := 9, slots := #[.int (-121)], vm := .none },
  { cls := 9, slots := #[.int (-120)], vm := .none },
  { cls := 9, slots := #[.int (-119)], vm := .none },
  { cls := 9, slots := #[.int (-118)], vm := .none },
  { cls := 9, slots := #[.int (-117)], vm := .none },
  { cls := 9, slots := #[.int (-116)], vm := .none },
  { cls := 9, slots := #[.int (-115)], vm := .none },
  { cls := 9, slots := #[.int (-114)], vm := .none },
  { cls := 9, slots := #[.int (-113)], vm := .none },
  { cls := 9, slots := #[.int (-112)], vm := .none },
  { cls := 9, slots := #[.int (-111)], vm := .none },
  { cls := 9, slots := #[.int (-110)], vm := .none },
  { cls := 9, slots := #[.int (-109)], vm := .none },
  { cls := 9, slots := #[.int (-108)], vm := .none },
  { cls := 9, slots := #[.int (-107)], vm := .none },
  { cls := 9, slots := #[.int (-106)], vm := .none },
  { cls := 9, slots := #[.int (-105)], vm := .none },
  { cls := 9, slots := #[.int (-104)], vm := .none },
  { cls := 9, slots := #[.int (-103)], vm := .none },
  { cls := 9, slots := #[.int (-102)], vm := .none },
  { cls := 9, slots := #[.int (-101)], vm := .none },
  { cls := 9, slots := #[.int (-100)], vm := .none },
  { cls := 9, slots := #[.int (-99)], vm := .none },
  { cls := 9, slots := #[.int (-98)], vm := .none },
  { cls := 9, slots := #[.int (-97)], vm := .none },
  { cls := 9, slots := #[.int (-96)], vm := .none },
  { cls := 9, slots := #[.int (-95)], vm := .none },
  { cls := 9, slots := #[.int (-94)], vm := .none },
  { cls := 9, slots := #[.int (-93)], vm := .none },
  { cls := 9, slots := #[.int (-92)], vm := .none },
  { cls := 9, slots := #[.int (-91)], vm := .none },
  { cls := 9, slots := #[.int (-90)], vm := .none },
  { cls := 9, slots := #[.int (-89)], vm := .none },
  { cls := 9, slots := #[.int (-88)], vm := .none },
  { cls := 9, slots := #[.int (-87)], vm := .none },
  { cls := 9, slots := #[.int (-86)], vm := .none },
  { cls := 9, slots := #[.int (-85)], vm := .none },
  { cls := 9, slots := #[.int (-84)], vm := .none },
  { cls := 9, slots := #[.int (-83)], vm := .none },
  { cls := 9, slots := #[.int (-82)], vm := .none },
  { cls := 9, slots := #[.int (-81)], vm := .none },
  { cls := 9, slots := #[.int (-80)], vm := .none },
  { cls := 9, slots := #[.int (-79)], vm := .none },
  { cls := 9, slots := #[.int (-78)], vm := .none },
  { cls := 9, slots := #[.int (-77)], vm := .none },
  { cls := 9, slots := #[.int (-76)], vm := .none },
  { cls := 9, slots := #[.int (-75)], vm := .none },
  { cls := 9, slots := #[.int (-74)], vm := .none },
  { cls := 9, slots := #[.int (-73)], vm := .none },
  { cls := 9, slots := #[.int (-72)], vm := .none },
  { cls := 9, slots := #[.int (-71)], vm := .none },
  { cls := 9, slots := #[.int (-70)], vm := .none },
  { cls := 9, slots := #[.int (-69)], vm := .none },
  { cls := 9, slots := #[.int (-68)], vm := .none },
  { cls := 9, slots := #[.int (-67)], vm := .none },
  { cls := 9, slots := #[.int (-66)], vm := .none },
  { cls := 9, slots := #[.int (-65)], vm := .none },
  { cls := 9, slots := #[.int (-64)], vm := .none },
  { cls := 9, slots := #[.int (-63)], vm := .none },
  { cls := 9, slots := #[.int (-62)], vm := .none },
  { cls := 9, slots := #[.int (-61)], vm := .none },
  { cls := 9, slots := #[.int (-60)], vm := .none },
  { cls := 9, slots := #[.int (-59)], vm := .none },
  { cls := 9, slots := #[.int (-58)], vm := .none },
  { cls := 9, slots := #[.int (-57)], vm := .none },
  { cls := 9, slots := #[.int (-56)], vm := .none },
  { cls := 9, slots := #[.int (-55)], vm := .none },
  { cls := 9, slots := #[.int (-54)], vm := .none },
  { cls := 9, slots := #[.int (-53)], vm := .none },
  { cls := 9, slots := #[.int (-52)], vm := .none },
  { cls := 9, slots := #[.int (-51)], vm := .none },
  { cls := 9, slots := #[.int (-50)], vm := .none },
  { cls := 9, slots := #[.int (-49)], vm := .none },
  { cls := 9, slots := #[.int (-48)], vm := .none },
  { cls := 9, slots := #[.int (-47)], vm := .none },
  { cls := 9, slots := #[.int (-46)], vm := .none },
  { cls := 9, slots := #[.int (-45)], vm := .none },
  { cls := 9, slots := #[.int (-44)], vm := .none },
  { cls := 9, slots := #[.int (-43)], vm := .none },
  { cls := 9, slots := #[.int (-42)], vm := .none },
  { cls := 9, slots := #[.int (-41)], vm := .none },
  { cls := 9, slots := #[.int (-40)], vm := .none },
  { cls := 9, slots := #[.int (-39)], vm := .none },
  { cls := 9, slots := #[.int (-38)], vm := .none },
  { cls := 9, slots := #[.int (-37)], vm := .none },
  { cls := 9, slots := #[.int (-36)], vm := .none },
  { cls := 9, slots := #[.int (-35)], vm := .none },
  { cls := 9, slots := #[.int (-34)], vm := .none },
  { cls := 9, slots := #[.int (-33)], vm := .none },
  { cls := 9, slots := #[.int (-32)], vm := .none },
  { cls := 9, slots := #[.int (-31)], vm := .none },
  { cls := 9, slots := #[.int (-30)], vm := .none },
  { cls := 9, slots := #[.int (-29)], vm := .none },
  { cls := 9, slots := #[.int (-28)], vm := .none },
  { cls := 9, slots := #[.int (-27)], vm := .none },
  { cls := 9, slots := #[.int (-26)], vm := .none },
  { cls := 9, slots := #[.int (-25)], vm := .none },
  { cls := 9, slots := #[.int (-24)], vm := .none },
  { cls := 9, slots := #[.int (-23)], vm := .none },
  { cls := 9, slots := #[.int (-22)], vm := .none },
  { cls := 9, slots := #[.int (-21)], vm := .none },
  { cls := 9, slots := #[.int (-20)], vm := .none },
  { cls := 9, slots := #[.int (-19)], vm := .none },
  { cls := 9, slots := #[.int (-18)], vm := .none },
  { cls := 9, slots := #[.int (-17)], vm := .none },
  { cls := 9, slots := #[.int (-16)], vm := .none },
  { cls := 9, slots := #[.int (-15)], vm := .none },
  { cls := 9, slots := #[.int (-14)], vm := .none },
  { cls := 9, slots := #[.int (-13)], vm := .none },
  { cls := 9, slots := #[.int (-12)], vm := .none },
  { cls := 9, slots := #[.int (-11)], vm := .none },
  { cls := 9, slots := #[.int (-10)], vm := .none },
  { cls := 9, slots := #[.int (-9)], vm := .none },
  { cls := 9, slots := #[.int (-8)], vm := .none },
  { cls := 9, slots := #[.int (-7)], vm := .none },
  { cls := 9, slots := #[.int (-6)], vm := .none },
  { cls := 9, slots := #[.int (-5)], vm := .none },
  { cls := 9, slots := #[.int (-4)], vm := .none },
  { cls := 9, slots := #[.int (-3)], vm := .none },
  { cls := 9, slots := #[.int (-2)], vm := .none },
  { cls := 9, slots := #[.int (-1)], vm := .none },
  { cls := 9, slots := #[.int 0], vm := .none },
  { cls := 9, slots := #[.int 1], vm := .none },
  { cls := 9, slots := #[.int 2], vm := .none },
  { cls := 9, slots := #[.int 3], vm := .none },
  { cls := 9, slots := #[.int 4], vm := .none },
  { cls := 9, slots := #[.int 5], vm := .none },
  { cls := 9, slots := #[.int 6], vm := .none },
  { cls := 9, slots := #[.int 7], vm := .none },
  { cls := 9, slots := #[.int 8], vm := .none },
  { cls := 9, slots := #[.int 9], vm := .none },
  { cls := 9, slots := #[.int 10], vm := .none },
  { cls := 9, slots := #[.int 11], vm := .none },
  { cls := 9, slots := #[.int 12], vm := .none },
  { cls := 9, slots := #[.int 13], vm := .none },
  { cls := 9, slots := #[.int 14], vm := .none },
  { cls := 9, slots := #[.int 15], vm := .none },
  { cls := 9, slots := #[.int 16], vm := .none },
  { cls := 9, slots := #[.int 17], vm := .none },
  { cls := 9, slots := #[.int 18], vm := .none },
  { cls := 9, slots := #[.int 19], vm := .none },
  { cls := 9, slots := #[.int 20], vm := .none },
  { cls := 9, slots := #[.int 21], vm := .none },
  { cls := 9, slots := #[.int 22], vm := .none },
  { cls := 9, slots := #[.int 23], vm := .none },
  { cls := 9, slots := #[.int 24], vm := .none },
  { cls := 9, slots := #[.int 25], vm := .none },
  { cls := 9, slots := #[.int 26], vm := .none },
  { cls := 9, slots := #[.int 27], vm := .none },
  { cls := 9, slots := #[.int 28], vm := .none },
  { cls := 9, slots := #[.int 29], vm := .none },
  { cls := 9, slots := #[.int 30], vm := .none },
  { cls := 9, slots := #[.int 31], vm := .none },
  { cls := 9, slots := #[.int 32], vm := .none },
  { cls := 9, slots := #[.int 33], vm := .none },
  { cls := 9, slots := #[.int 34], vm := .none },
  { cls := 9, slots := #[.int 35], vm := .none },
  { cls := 9, slots := #[.int 36], vm := .none },
  { cls := 9, slots := #[.int 37], vm := .none },
  { cls := 9, slots := #[.int 38], vm := .none },
  { cls := 9, slots := #[.int 39], vm := .none },
  { cls := 9, slots := #[.int 40], vm := .none },
  { cls := 9, slots := #[.int 41], vm := .none },
  { cls := 9, slots := #[.int 42], vm := .none },
  { cls := 9, slots := #[.int 43], vm := .none },
  { cls := 9, slots := #[.int 44], vm := .none },
  { cls := 9, slots := #[.int 45], vm := .none },
  { cls := 9, slots := #[.int 46], vm := .none },
  { cls := 9, slots := #[.int 47], vm := .none },
  { cls := 9, slots := #[.int 48], vm := .none },
  { cls := 9, slots := #[.int 49], vm := .none },
  { cls := 9, slots := #[.int 50], vm := .none },
  { cls := 9, slots := #[.int 51], vm := .none },
  { cls := 9, slots := #[.int 52], vm := .none },
  { cls := 9, slots := #[.int 53], vm := .none },
  { cls := 9, slots := #[.int 54], vm := .none },
  { cls := 9, slots := #[.int 55], vm := .none },
  { cls := 9, slots := #[.int 56], vm := .none },
  { cls := 9, slots := #[.int 57], vm := .none },
  { cls := 9, slots := #[.int 58], vm := .none },
  { cls := 9, slots := #[.int 59], vm := .none },
  { cls := 9, slots := #[.int 60], vm := .none },
  { cls := 9, slots := #[.int 61], vm := .none },
  { cls := 9, slots := #[.int 62], vm := .none },
  { cls := 9, slots := #[.int 63], vm := .none },
  { cls := 9, slots := #[.int 64], vm := .none },
  { cls := 9, slots := #[.int 65], vm := .none },
  { cls := 9, slots := #[.int 66], vm := .none },
  { cls := 9, slots := #[.int 67], vm := .none },
  { cls := 9, slots := #[.int 68], vm := .none },
  { cls := 9, slots := #[.int 69], vm := .none },
  { cls := 9, slots := #[.int 70], vm := .none },
  { cls := 9, slots := #[.int 71], vm := .none },
  { cls := 9, slots := #[.int 72], vm := .none },
  { cls := 9, slots := #[.int 73], vm := .none },
  { cls := 9, slots := #[.int 74], vm := .none },
  { cls := 9, slots := #[.int 75], vm := .none },
  { cls := 9, slots := #[.int 76], vm := .none },
  { cls := 9, slots := #[.int 77], vm := .none },
  { cls := 9, slots := #[.int 78], vm := .none },
  { cls := 9, slots := #[.int 79], vm := .none },
  { cls := 9, slots := #[.int 80], vm := .none },
  { cls := 9, slots := #[.int 81], vm := .none },
  { cls := 9, slots := #[.int 82], vm := .none },
  { cls := 9, slots := #[.int 83], vm := .none },
  { cls := 9, slots := #[.int 84], vm := .none },
  { cls := 9, slots := #[.int 85], vm := .none },
  { cls := 9, slots := #[.int 86], vm := .none },
  { cls := 9, slots := #[.int 87], vm := .none },
  { cls := 9, slots := #[.int 88], vm := .none },
  { cls := 9, slots := #[.int 89], vm := .none },
  { cls := 9, slots := #[.int 90], vm := .none },
  { cls := 9, slots := #[.int 91], vm := .none },
  { cls := 9, slots := #[.int 92], vm := .none },
  { cls := 9, slots := #[.int 93], vm := .none },
  { cls := 9, slots := #[.int 94], vm := .none },
  { cls := 9, slots := #[.int 95], vm := .none },
  { cls := 9, slots := #[.int 96], vm := .none },
  { cls := 9, slots := #[.int 97], vm := .none },
  { cls := 9, slots := #[.int 98], vm := .none },
  { cls := 9, slots := #[.int 99], vm := .none },
  { cls := 9, slots := #[.int 100], vm := .none },
  { cls := 9, slots := #[.int 101], vm := .none },
  { cls := 9, slots := #[.int 102], vm := .none },
  { cls := 9, slots := #[.int 103], vm := .none },
  { cls := 9, slots := #[.int 104], vm := .none },
  { cls := 9, slots := #[.int 105], vm := .none },
  { cls := 9, slots := #[.int 106], vm := .none },
  { cls := 9, slots := #[.int 107], vm := .none },
  { cls := 9, slots := #[.int 108], vm := .none },
  { cls := 9, slots := #[.int 109], vm := .none },
  { cls := 9, slots := #[.int 110], vm := .none },
  { cls := 9, slots := #[.int 111], vm := .none },
  { cls := 9, slots := #[.int 112], vm := .none },
  { cls := 9, slots := #[.int 113], vm := .none },
  { cls := 9, slots := #[.int 114], vm := .none },
  { cls := 9, slots := #[.int 115], vm := .none },
  { cls := 9, slots := #[.int 116], vm := .none },
  { cls := 9, slots := #[.int 117], vm := .none },
  { cls := 9, slots := #[.int 118], vm := .none },
  { cls := 9, slots := #[.int 119], vm := .none },
  { cls := 9, slots := #[.int 120], vm := .none },
  { cls := 9, slots := #[.int 121], vm := .none },
  { cls := 9, slots := #[.int 122], vm := .none },
  { cls := 9, slots := #[.int 123], vm := .none },
  { cls := 9, slots := #[.int 124], vm := .none },
  { cls := 9, slots := #[.int 125], vm := .none },
  { cls := 9, slots := #[.int 126], vm := .none },
  { cls := 9, slots := #[.int 127], vm := .none }]
def classes : Array Class := #[k0, k1, k2, k3, k4, k5, k6, k7, k8, k9, k10, k11, k12, k13, k14, k15, k16, k17, k18, k19, k20, k21, k22, k23, k24, k25, k26, k27]
def interned : List (Array UInt16 × Addr) := []
def slotsUsed : Nat := 517
def theMethod : MethodId := ⟨1, 1⟩
def args0 : Array Value := #[.long 5, .long 5, .long 5, .long 5, .int 5]
def aboutOver (below : List Frame) : State where
  vm := { classes := classes, interned := interned.toArray }
  heap := heap
  slotsUsed := slotsUsed
  threads := #[{ frames := .invoking theMethod args0 :: below }]
def below0 : List Frame := [.native { method := ⟨0, 0⟩, args := #[] }]
def about1 : State := aboutOver below0
def p0 : Program := .bare "" "" ""
def e0 : Env := launch0.env 0 0 0
theorem w_frames : about1.frames = Frame.invoking theMethod args0 :: below0 := rfl
set_option maxRecDepth 65536 in
theorem w_args : argsFit about1.vm theMethod args0 = true := by decide +kernel
set_option maxRecDepth 65536 in
theorem w_heap : heapFits about1 = true := by decide +kernel
set_option maxRecDepth 65536 in
theorem w_runnable : about1.curStatus? = some .runnable := by decide +kernel
set_option maxRecDepth 65536 in
theorem w_alone : about1.alone = true := by decide +kernel
set_option maxRecDepth 65536 in
theorem w_named : about1.methodNamed? x = some theMethod := by decide +kernel
set_option maxRecDepth 65536 in
theorem w_hears : about1.hears theMethod below0 = true := by decide +kernel
set_option maxRecDepth 65536 in
theorem w_ripe : about1.ripe theMethod args0 below0 = true := by decide +kernel
theorem w_running : about1.status = .running := rfl
set_option maxRecDepth 65536 in
theorem w_room : about1.hasRoom e0.platform room_1 = true :=
  launch0.hasRoom_least _ room_1 (by decide +kernel) (by decide +kernel) (by decide +kernel) (by decide +kernel) (by decide +kernel) (by decide +kernel)
theorem allAtoms_all (ts : List Jvm.Cond) (a : Array Jvm.Value) (st : Jvm.State) : (allAtoms ts).before a st = ts.all (fun c => c.before a st) := by
  induction ts with
  | nil => rfl
  | cons c t ih =>
    show (Jvm.Cond.and c (allAtoms t)).before a st = _
    rw [Jvm.Cond.before_and, ih, List.all_cons]
def words1 : List Jvm.Cond := Jvm.Cond.code x code maxLocals ret :: tables_1
/-- a 'code' word, met by the world's own term for the bytes: nothing is compared byte by byte -/
theorem code_word {y : MethodName} {bytes : ByteArray} {mx : Nat} {rt : Option FieldType} {a : Array Value} {s : State} {m : MethodId} {meth : Method} {c : Code} (h1 : s.methodNamed? y = some m) (h2 : s.vm.method? m = some meth) (h3 : meth.code = some c) (h4 : c.code = bytes)
    (h5 : (c.maxLocals == mx && c.exceptionTable.isEmpty && decide (c.maxStack ≤ mostOperands) && decide (meth.sig.returnType = rt) && !meth.locks && decide (parseMethodDescriptor y.desc = some meth.sig)) = true) : (Jvm.Cond.code y bytes mx rt).before a s = true := by
  simp only [Bool.and_eq_true, beq_iff_eq, Bool.not_eq_true', decide_eq_true_eq] at h5
  obtain ⟨⟨⟨⟨⟨g1, g2⟩, g3⟩, g4⟩, g5⟩, g6⟩ := h5
  simp [Cond.before, Cond.holds, Cond.value, h1, h2, h3, h4, g1, g2, g3, g4, g5, g6]
def isCode : Jvm.Cond → Bool
  | .code _ _ _ _ => true
  | _ => false
theorem all_split {L : List Jvm.Cond} {P : Jvm.Cond → Bool} (h1 : L.all (fun c => isCode c || P c) = true) (h2 : ∀ c ∈ L.filter isCode, P c = true) : L.all P = true := by
  refine List.all_eq_true.mpr fun c hc => ?_
  have h := List.all_eq_true.mp h1 c hc
  rcases Bool.eq_false_or_eq_true (isCode c) with hi | hi
  · exact h2 c (List.mem_filter.mpr ⟨hc, hi⟩)
  · simpa [hi] using h
set_option maxRecDepth 65536 in
theorem w_c0 : (Jvm.Cond.code x code maxLocals ret).before args0 about1 = true := code_word (m := ⟨1, 1⟩) (meth := k1m1) (c := k1c1) (by decide +kernel) rfl rfl rfl (by decide +kernel)
set_option maxRecDepth 65536 in
theorem w_c1 : (Jvm.Cond.code ({ cls := "com/example/libspoke/libspoke/wheel/EntryTable", name := "<init>", desc := "()V" } : Jvm.MethodName) prog_18_method_1_code (1 : Nat) (Option.none : Option Jvm.ClassFile.FieldType)).before args0 about1 = true := code_word (m := ⟨2, 0⟩) (meth := k2m0) (c := k2c0) (by decide +kernel) rfl rfl rfl (by decide +kernel)
set_option maxRecDepth 65536 in
theorem w_c2 : (Jvm.Cond.code ({ cls := "java/lang/Object", name := "<init>", desc := "()V" } : Jvm.MethodName) object_method_1_code (1 : Nat) (Option.none : Option Jvm.ClassFile.FieldType)).before args0 about1 = true := code_word (m := ⟨0, 0⟩) (meth := k0m0) (c := k0c0) (by decide +kernel) rfl rfl rfl (by decide +kernel)
set_option maxRecDepth 65536 in
theorem w_c3 : (Jvm.Cond.code ({ cls := "com/example/libspoke/libspoke/wheel/EntryTable$PageSet", name := "<init>", desc := "()V" } : Jvm.MethodName) prog_19_method_1_code (1 : Nat) (Option.none : Option Jvm.ClassFile.FieldType)).before args0 about1 = true := code_word (m := ⟨3, 0⟩) (meth := k3m0) (c := k3c0) (by decide +kernel) rfl rfl rfl (by decide +kernel)
set_option maxRecDepth 65536 in
theorem w_c4 : (Jvm.Cond.code ({ cls := "java/lang/Integer", name := "valueOf", desc := "(I)Ljava/lang/Integer;" } : Jvm.MethodName) jdk_33_method_22_code (1 : Nat) (Option.some (Jvm.ClassFile.FieldType.object "java/lang/Integer"))).before args0 about1 = true := code_word (m := ⟨9, 0⟩) (meth := k9m0) (c := k9c0) (by decide +kernel) rfl rfl rfl (by decide +kernel)
set_option maxRecDepth 65536 in
theorem w_c5 : (Jvm.Cond.code ({ cls := "com/example/libspoke/libspoke/wheel/EntryTable", name := "add", desc := "(Ljava/lang/Object;J)I" } : Jvm.MethodName) prog_18_method_2_code (6 : Nat) (Option.some Jvm.ClassFile.FieldType.int)).before args0 about1 = true := code_word (m := ⟨2, 1⟩) (meth := k2m1) (c := k2c1) (by decide +kernel) rfl rfl rfl (by decide +kernel)
set_option maxRecDepth 65536 in
theorem w_c6 : (Jvm.Cond.code ({ cls := "com/example/libspoke/libspoke/wheel/EntryTable$PageSet", name := "lowest", desc := "()I" } : Jvm.MethodName) prog_19_method_4_code (3 : Nat) (Option.some Jvm.ClassFile.FieldType.int)).before args0 about1 = true := code_word (m := ⟨3, 2⟩) (meth := k3m2) (c := k3c2) (by decide +kernel) rfl rfl rfl (by decide +kernel)
set_option maxRecDepth 65536 in
theorem w_c7 : (Jvm.Cond.code ({ cls := "com/example/libspoke/libspoke/wheel/EntryTable", name := "makeRoom", desc := "()I" } : Jvm.MethodName) prog_18_method_19_code (3 : Nat) (Option.some Jvm.ClassFile.FieldType.int)).before args0 about1 = true := code_word (m := ⟨2, 8⟩) (meth := k2m8) (c := k2c8) (by decide +kernel) rfl rfl rfl (by decide +kernel)
set_option maxRecDepth 65536 in
theorem w_c8 : (Jvm.Cond.code ({ cls := "java/lang/Math", name := "max", desc := "(II)I" } : Jvm.MethodName) jdk_29_method_65_code (2 : Nat) (Option.some Jvm.ClassFile.FieldType.int)).before args0 about1 = true := code_word (m := ⟨11, 1⟩) (meth := k11m1) (c := k11c1) (by decide +kernel) rfl rfl rfl (by decide +kernel)
set_option maxRecDepth 65536 in
theorem w_c9 : (Jvm.Cond.code ({ cls := "java/util/Arrays", name := "copyOf", desc := "([Ljava/lang/Object;I)[Ljava/lang/Object;" } : Jvm.MethodName) jdk_65_method_119_code (2 : Nat) (Option.some (Jvm.ClassFile.FieldType.array (Jvm.ClassFile.FieldType.object "java/lang/Object")))).before args0 about1 = true := code_word (m := ⟨12, 1⟩) (meth := k12m1) (c := k12c1) (by decide +kernel) rfl rfl rfl (by decide +kernel)
set_option maxRecDepth 65536 in
theorem w_c10 : (Jvm.Cond.code ({ cls := "java/util/Arrays", name := "copyOf", desc := "([Ljava/lang/Object;ILjava/lang/Class;)[Ljava/lang/Object;" } : Jvm.MethodName) jdk_65_method_120_code (4 : Nat) (Option.some (Jvm.ClassFile.FieldType.array (Jvm.ClassFile.FieldType.object "java/lang/Object")))).before args0 about1 = true := code_word (m := ⟨12, 2⟩) (meth := k12m2) (c := k12c2) (by decide +kernel) rfl rfl rfl (by decide +kernel)
set_option maxRecDepth 65536 in
theorem w_c11 : (Jvm.Cond.code ({ cls := "java/lang/Math", name := "min", desc := "(II)I" } : Jvm.MethodName) jdk_29_method_69_code (2 : Nat) (Option.some Jvm.ClassFile.FieldType.int)).before args0 about1 = true := code_word (m := ⟨11, 2⟩) (meth := k11m2) (c := k11c2) (by decide +kernel) rfl rfl rfl (by decide +kernel)
set_option maxRecDepth 65536 in
theorem w_c12 : (Jvm.Cond.code ({ cls := "java/util/Arrays", name := "copyOf", desc := "([JI)[J" } : Jvm.MethodName) jdk_65_method_124_code (3 : Nat) (Option.some (Jvm.ClassFile.FieldType.array Jvm.ClassFile.FieldType.long))).before args0 about1 = true := code_word (m := ⟨12, 4⟩) (meth := k12m4) (c := k12c4) (by decide +kernel) rfl rfl rfl (by decide +kernel)
set_option maxRecDepth 65536 in
theorem w_c13 : (Jvm.Cond.code ({ cls := "java/util/Arrays", name := "copyOf", desc := "([II)[I" } : Jvm.MethodName) jdk_65_method_123_code (3 : Nat) (Option.some (Jvm.ClassFile.FieldType.array Jvm.ClassFile.FieldType.int))).before args0 about1 = true := code_word (m := ⟨12, 3⟩) (meth := k12m3) (c := k12c3) (by decide +kernel) rfl rfl rfl (by decide +kernel)
set_option maxRecDepth 65536 in
theorem w_c14 : (Jvm.Cond.code ({ cls := "com/example/libspoke/libspoke/wheel/EntryTable", name := "freeNewNumbers", desc := "(III)V" } : Jvm.MethodName) prog_18_method_20_code (7 : Nat) (Option.none : Option Jvm.ClassFile.FieldType)).before args0 about1 = true := code_word (m := ⟨2, 9⟩) (meth := k2m9) (c := k2c9) (by decide +kernel) rfl rfl rfl (by decide +kernel)
set_option maxRecDepth 65536 in
theorem w_c15 : (Jvm.Cond.code ({ cls := "com/example/libspoke/libspoke/wheel/EntryTable", name := "link", desc := "(II)I" } : Jvm.MethodName) prog_18_method_18_code (2 : Nat) (Option.some Jvm.ClassFile.FieldType.int)).before args0 about1 = true := code_word (m := ⟨2, 7⟩) (meth := k2m7) (c := k2c7) (by decide +kernel) rfl rfl rfl (by decide +kernel)
set_option maxRecDepth 65536 in
theorem w_c16 : (Jvm.Cond.code ({ cls := "com/example/libspoke/libspoke/wheel/EntryTable$PageSet", name := "add", desc := "(I)V" } : Jvm.MethodName) prog_19_method_2_code (3 : Nat) (Option.none : Option Jvm.ClassFile.FieldType)).before args0 about1 = true := code_word (m := ⟨3, 1⟩) (meth := k3m1) (c := k3c1) (by decide +kernel) rfl rfl rfl (by decide +kernel)
set_option maxRecDepth 65536 in
theorem w_c17 : (Jvm.Cond.code ({ cls := "com/example/libspoke/libspoke/wheel/EntryTable", name := "next", desc := "(I)I" } : Jvm.MethodName) prog_18_method_11_code (2 : Nat) (Option.some Jvm.ClassFile.FieldType.int)).before args0 about1 = true := code_word (m := ⟨2, 5⟩) (meth := k2m5) (c := k2c5) (by decide +kernel) rfl rfl rfl (by decide +kernel)
set_option maxRecDepth 65536 in
theorem w_c18 : (Jvm.Cond.code ({ cls := "com/example/libspoke/libspoke/wheel/EntryTable", name := "setDeadline", desc := "(IJ)V" } : Jvm.MethodName) prog_18_method_10_code (4 : Nat) (Option.none : Option Jvm.ClassFile.FieldType)).before args0 about1 = true := code_word (m := ⟨2, 4⟩) (meth := k2m4) (c := k2c4) (by decide +kernel) rfl rfl rfl (by decide +kernel)
set_option maxRecDepth 65536 in
theorem w_c19 : (Jvm.Cond.code ({ cls := "java/lang/Long", name := "numberOfTrailingZeros", desc := "(J)I" } : Jvm.MethodName) jdk_35_method_49_code (3 : Nat) (Option.some Jvm.ClassFile.FieldType.int)).before args0 about1 = true := code_word (m := ⟨14, 0⟩) (meth := k14m0) (c := k14c0) (by decide +kernel) rfl rfl rfl (by decide +kernel)
set_option maxRecDepth 65536 in
theorem w_c20 : (Jvm.Cond.code ({ cls := "java/lang/Integer", name := "numberOfTrailingZeros", desc := "(I)I" } : Jvm.MethodName) jdk_33_method_48_code (2 : Nat) (Option.some Jvm.ClassFile.FieldType.int)).before args0 about1 = true := code_word (m := ⟨9, 1⟩) (meth := k9m1) (c := k9c1) (by decide +kernel) rfl rfl rfl (by decide +kernel)
set_option maxRecDepth 65536 in
theorem w_c21 : (Jvm.Cond.code ({ cls := "com/example/libspoke/libspoke/wheel/EntryTable", name := "deadline", desc := "(I)J" } : Jvm.MethodName) prog_18_method_9_code (2 : Nat) (Option.some Jvm.ClassFile.FieldType.long)).before args0 about1 = true := code_word (m := ⟨2, 3⟩) (meth := k2m3) (c := k2c3) (by decide +kernel) rfl rfl rfl (by decide +kernel)
set_option maxRecDepth 65536 in
theorem w_c22 : (Jvm.Cond.code ({ cls := "com/example/libspoke/libspoke/wheel/EntryTable", name := "remove", desc := "(I)V" } : Jvm.MethodName) prog_18_method_3_code (3 : Nat) (Option.none : Option Jvm.ClassFile.FieldType)).before args0 about1 = true := code_word (m := ⟨2, 2⟩) (meth := k2m2) (c := k2c2) (by decide +kernel) rfl rfl rfl (by decide +kernel)
set_option maxRecDepth 65536 in
theorem w_c23 : (Jvm.Cond.code ({ cls := "com/example/libspoke/libspoke/wheel/EntryTable", name := "setNext", desc := "(II)V" } : Jvm.MethodName) prog_18_method_12_code (3 : Nat) (Option.none : Option Jvm.ClassFile.FieldType)).before args0 about1 = true := code_word (m := ⟨2, 6⟩) (meth := k2m6) (c := k2c6) (by decide +kernel) rfl rfl rfl (by decide +kernel)
def codes1 : List Jvm.Cond := [Jvm.Cond.code x code maxLocals ret, Jvm.Cond.code ({ cls := "com/example/libspoke/libspoke/wheel/EntryTable", name := "<init>", desc := "()V" } : Jvm.MethodName) prog_18_method_1_code (1 : Nat) (Option.none : Option Jvm.ClassFile.FieldType), Jvm.Cond.code ({ cls := "java/lang/Object", name := "<init>", desc := "()V" } : Jvm.MethodName) object_method_1_code (1 : Nat) (Option.none : Option Jvm.ClassFile.FieldType), Jvm.Cond.code ({ cls := "com/example/libspoke/libspoke/wheel/EntryTable$PageSet", name := "<init>", desc := "()V" } : Jvm.MethodName) prog_19_method_1_code (1 : Nat) (Option.none : Option Jvm.ClassFile.FieldType), Jvm.Cond.code ({ cls := "java/lang/Integer", name := "valueOf", desc := "(I)Ljava/lang/Integer;" } : Jvm.MethodName) jdk_33_method_22_code (1 : Nat) (Option.some (Jvm.ClassFile.FieldType.object "java/lang/Integer")), Jvm.Cond.code ({ cls := "com/example/libspoke/libspoke/wheel/EntryTable", name := "add", desc := "(Ljava/lang/Object;J)I" } : Jvm.MethodName) prog_18_method_2_code (6 : Nat) (Option.some Jvm.ClassFile.FieldType.int), Jvm.Cond.code ({ cls := "com/example/libspoke/libspoke/wheel/EntryTable$PageSet", name := "lowest", desc := "()I" } : Jvm.MethodName) prog_19_method_4_code (3 : Nat) (Option.some Jvm.ClassFile.FieldType.int), Jvm.Cond.code ({ cls := "com/example/libspoke/libspoke/wheel/EntryTable", name := "makeRoom", desc := "()I" } : Jvm.MethodName) prog_18_method_19_code (3 : Nat) (Option.some Jvm.ClassFile.FieldType.int), Jvm.Cond.code ({ cls := "java/lang/Math", name := "max", desc := "(II)I" } : Jvm.MethodName) jdk_29_method_65_code (2 : Nat) (Option.some Jvm.ClassFile.FieldType.int), Jvm.Cond.code ({ cls := "java/util/Arrays", name := "copyOf", desc := "([Ljava/lang/Object;I)[Ljava/lang/Object;" } : Jvm.MethodName) jdk_65_method_119_code (2 : Nat) (Option.some (Jvm.ClassFile.FieldType.array (Jvm.ClassFile.FieldType.object "java/lang/Object"))), Jvm.Cond.code ({ cls := "java/util/Arrays", name := "copyOf", desc := "([Ljava/lang/Object;ILjava/lang/Class;)[Ljava/lang/Object;" } : Jvm.MethodName) jdk_65_method_120_code (4 : Nat) (Option.some (Jvm.ClassFile.FieldType.array (Jvm.ClassFile.FieldType.object "java/lang/Object"))), Jvm.Cond.code ({ cls := "java/lang/Math", name := "min", desc := "(II)I" } : Jvm.MethodName) jdk_29_method_69_code (2 : Nat) (Option.some Jvm.ClassFile.FieldType.int), Jvm.Cond.code ({ cls := "java/util/Arrays", name := "copyOf", desc := "([JI)[J" } : Jvm.MethodName) jdk_65_method_124_code (3 : Nat) (Option.some (Jvm.ClassFile.FieldType.array Jvm.ClassFile.FieldType.long)), Jvm.Cond.code ({ cls := "java/util/Arrays", name := "copyOf", desc := "([II)[I" } : Jvm.MethodName) jdk_65_method_123_code (3 : Nat) (Option.some (Jvm.ClassFile.FieldType.array Jvm.ClassFile.FieldType.int)), Jvm.Cond.code ({ cls := "com/example/libspoke/libspoke/wheel/EntryTable", name := "freeNewNumbers", desc := "(III)V" } : Jvm.MethodName) prog_18_method_20_code (7 : Nat) (Option.none : Option Jvm.ClassFile.FieldType), Jvm.Cond.code ({ cls := "com/example/libspoke/libspoke/wheel/EntryTable", name := "link", desc := "(II)I" } : Jvm.MethodName) prog_18_method_18_code (2 : Nat) (Option.some Jvm.ClassFile.FieldType.int), Jvm.Cond.code ({ cls := "com/example/libspoke/libspoke/wheel/EntryTable$PageSet", name := "add", desc := "(I)V" } : Jvm.MethodName) prog_19_method_2_code (3 : Nat) (Option.none : Option Jvm.ClassFile.FieldType), Jvm.Cond.code ({ cls := "com/example/libspoke/libspoke/wheel/EntryTable", name := "next", desc := "(I)I" } : Jvm.MethodName) prog_18_method_11_code (2 : Nat) (Option.some Jvm.ClassFile.FieldType.int), Jvm.Cond.code ({ cls := "com/example/libspoke/libspoke/wheel/EntryTable", name := "setDeadline", desc := "(IJ)V" } : Jvm.MethodName) prog_18_method_10_code (4 : Nat) (Option.none : Option Jvm.ClassFile.FieldType), Jvm.Cond.code ({ cls := "java/lang/Long", name := "numberOfTrailingZeros", desc := "(J)I" } : Jvm.MethodName) jdk_35_method_49_code (3 : Nat) (Option.some Jvm.ClassFile.FieldType.int), Jvm.Cond.code ({ cls := "java/lang/Integer", name := "numberOfTrailingZeros", desc := "(I)I" } : Jvm.MethodName) jdk_33_method_48_code (2 : Nat) (Option.some Jvm.ClassFile.FieldType.int), Jvm.Cond.code ({ cls := "com/example/libspoke/libspoke/wheel/EntryTable", name := "deadline", desc := "(I)J" } : Jvm.MethodName) prog_18_method_9_code (2 : Nat) (Option.some Jvm.ClassFile.FieldType.long), Jvm.Cond.code ({ cls := "com/example/libspoke/libspoke/wheel/EntryTable", name := "remove", desc := "(I)V" } : Jvm.MethodName) prog_18_method_3_code (3 : Nat) (Option.none : Option Jvm.ClassFile.FieldType), Jvm.Cond.code ({ cls := "com/example/libspoke/libspoke/wheel/EntryTable", name := "setNext", desc := "(II)V" } : Jvm.MethodName) prog_18_method_12_code (3 : Nat) (Option.none : Option Jvm.ClassFile.FieldType)]
set_option maxRecDepth 65536 in
theorem codes_eq : words1.filter isCode = codes1 := rfl
theorem w_codes : ∀ c ∈ words1.filter isCode, c.before args0 about1 = true := by
  rw [codes_eq]
  intro c hc
  simp only [codes1, List.mem_cons, List.not_mem_nil, or_false] at hc
  rcases hc with rfl | rfl | rfl | rfl | rfl | rfl | rfl | rfl | rfl | rfl | rfl | rfl | rfl | rfl | rfl | rfl | rfl | rfl | rfl | rfl | rfl | rfl | rfl | rfl
  · exact w_c0
  · exact w_c1
  · exact w_c2
  · exact w_c3
  · exact w_c4
  · exact w_c5
  · exact w_c6
  · exact w_c7
  · exact w_c8
  · exact w_c9
  · exact w_c10
  · exact w_c11
  · exact w_c12
  · exact w_c13
  · exact w_c14
  · exact w_c15
  · exact w_c16
  · exact w_c17
  · exact w_c18
  · exact w_c19
  · exact w_c20
  · exact w_c21
  · exact w_c22
  · exact w_c23
set_option maxRecDepth 65536 in
theorem w_t1 : (words1.take 24).all (fun c => isCode c || c.before args0 about1) = true := by decide +kernel
set_option maxRecDepth 65536 in
theorem w_t2 : ((words1.drop 24).take 24).all (fun c => isCode c || c.before args0 about1) = true := by decide +kernel
set_option maxRecDepth 65536 in
theorem w_t3 : (((words1.drop 24).drop 24).take 24).all (fun c => isCode c || c.before args0 about1) = true := by decide +kernel
set_option maxRecDepth 65536 in
theorem w_t4 : ((((words1.drop 24).drop 24).drop 24).take 24).all (fun c => isCode c || c.before args0 about1) = true := by decide +kernel
set_option maxRecDepth 65536 in
theorem w_t5 : (((((words1.drop 24).drop 24).drop 24).drop 24).take 24).all (fun c => isCode c || c.before args0 about1) = true := by decide +kernel
set_option maxRecDepth 65536 in
theorem w_t6 : ((((((words1.drop 24).drop 24).drop 24).drop 24).drop 24).take 24).all (fun c => isCode c || c.before args0 about1) = true := by decide +kernel
set_option maxRecDepth 65536 in
theorem w_t7 : ((((((words1.drop 24).drop 24).drop 24).drop 24).drop 24).drop 24).all (fun c => isCode c || c.before args0 about1) = true := by decide +kernel
theorem w_tables : (allAtoms (Jvm.Cond.code x code maxLocals ret :: tables_1)).before args0 about1 = true := by
  rw [allAtoms_all]
  show words1.all (fun c => c.before args0 about1) = true
  refine all_split ?_ w_codes
  rw [← List.take_append_drop 24 words1, List.all_append, w_t1, ← List.take_append_drop 24 (words1.drop 24), List.all_append, w_t2, ← List.take_append_drop 24 ((words1.drop 24).drop 24), List.all_append, w_t3, ← List.take_append_drop 24 (((words1.drop 24).drop 24).drop 24), List.all_append, w_t4, ← List.take_append_drop 24 ((((words1.drop 24).drop 24).drop 24).drop 24), List.all_append, w_t5, ← List.take_append_drop 24 (((((words1.drop 24).drop 24).drop 24).drop 24).drop 24), List.all_append, w_t6, w_t7]
  rfl
set_option maxRecDepth 65536 in
theorem w_rest : rest_1_c.before args0 about1 = true := by decide +kernel
set_option maxRecDepth 65536 in
theorem w_case : (Jvm.Cond.and given_1 narrow_1).before args0 about1 = true := by decide +kernel
theorem w_applies : (headSpec (Jvm.Cond.code x code maxLocals ret :: tables_1) room_1).applies x e0.platform about1 = true :=
  (Spec.applies_iff w_frames).mpr ⟨w_running, w_runnable, w_alone, w_named, w_hears, w_ripe, w_room, w_tables⟩
set_option maxRecDepth 65536 in
theorem atStart : AtStart classFile x code maxLocals ret World_1 tables_1 room_1 Calls_1 rest_1 Pre_1 launch0 p0 e0 about1 theMethod args0 below0 :=
  ⟨lists_1, trivial, launch0.admits_env _ _ _, launch0.least_env, fairChoices_fair.cas, fairChoices_fair.clock, w_frames, w_args, w_heap, w_applies, ⟨⟨24, k24, 1, by decide +kernel, rfl, rfl, _, rfl, rfl⟩, trivial⟩, w_rest, w_case⟩
end start1
theorem witness_1 : WitnessClaimed_1 := ⟨start1.p0, start1.e0, start1.about1, start1.theMethod, start1.args0, start1.below0, start1.atStart⟩
end Jvm.Pilot.@@N@@
